import JvmDerived
import JvmDerived.Pilot.@@N@@Statement
import JvmDerived.Pilot.@@N@@Code
set_option linter.unusedVariables false
set_option linter.unusedSimpArgs false
namespace Jvm.Pilot.@@N@@
open Jvm Jvm.ClassFile Sem Op Lib Jvm.Free Jvm.Stand Jvm.LawKit Jvm.RoadKit Bundle Jvm.Pilot.@@N@@.Jvm.D
section OwnKit
variable {p : Program} {l : Launch} {e : Env} {R : Room} {s : State} {m : MethodId} {args : Array Value} {below : List Frame} {meth : Method} {c : Code} {T : State} {locs : List Loc} {cells slots kc ks : Nat} {Q : Option Value → Heap → List Loc → Prop} {P : Outcome → State → Prop} {pc q : Nat} {Ls L' : Array Slot} {st : List Value}
def own_Go (p : Program) (e : Env) (below : List Frame) (P : Outcome → State → Prop) (U : State) : Prop :=
  ∃ s₂ o, Steps p.tables e below U s₂ ∧ s₂.status = .running ∧ Ended s₂ below o ∧ P o s₂
def own_E (s : State) (kc ks : Nat) (Q : Option Value → Heap → List Loc → Prop) (o : Outcome) (t : State) : Prop := ∃ v L, o = .returned v ∧ Q v t.heap L ∧ FrameEnd s o t L kc ks
theorem own_via {U V : State} (h : ∀ t, Steps p.tables e below V t → Steps p.tables e below U t) (K : own_Go p e below P V) : own_Go p e below P U := by
  obtain ⟨a, b, h1, r⟩ := K; exact ⟨a, b, h _ h1, r⟩
theorem own_mono {P' : Outcome → State → Prop} {U : State} (h : ∀ o t, P' o t → P o t) (K : own_Go p e below P' U) : own_Go p e below P U := by
  obtain ⟨a, b, h1, h2, h3, h4⟩ := K; exact ⟨a, b, h1, h2, h3, h _ _ h4⟩
def own_P (w : Value) (h : Heap) (v : Option Value) (h' : Heap) (L : List Loc) : Prop := v = some w ∧ h' = h ∧ L = []
theorem own_iadd (X : Stand p l e R s m args below meth c T locs cells slots) (hx : p.tables.exec = Jvm.exec) {x y : Int32} (hd : decode c.code pc = .ok (.iadd, 1)) (hq : pc + 1 = q)  (K : own_Go p e below P (T.setTop (mkF m q Ls (.int (x + y) :: st)))) : own_Go p e below P (T.setTop (mkF m pc Ls (.int y :: .int x :: st))) := by
  subst hq; exact own_via (fun t => XS.iadd X.here hx rfl hd rfl) K
theorem own_isub (X : Stand p l e R s m args below meth c T locs cells slots) (hx : p.tables.exec = Jvm.exec) {x y : Int32} (hd : decode c.code pc = .ok (.isub, 1)) (hq : pc + 1 = q)  (K : own_Go p e below P (T.setTop (mkF m q Ls (.int (x - y) :: st)))) : own_Go p e below P (T.setTop (mkF m pc Ls (.int y :: .int x :: st))) := by
  subst hq; exact own_via (fun t => XS.isub X.here hx rfl hd rfl) K
theorem own_iand (X : Stand p l e R s m args below meth c T locs cells slots) (hx : p.tables.exec = Jvm.exec) {x y : Int32} (hd : decode c.code pc = .ok (.iand, 1)) (hq : pc + 1 = q)  (K : own_Go p e below P (T.setTop (mkF m q Ls (.int (x &&& y) :: st)))) : own_Go p e below P (T.setTop (mkF m pc Ls (.int y :: .int x :: st))) := by
  subst hq; exact own_via (fun t => XS.iand X.here hx rfl hd rfl) K
theorem own_ior (X : Stand p l e R s m args below meth c T locs cells slots) (hx : p.tables.exec = Jvm.exec) {x y : Int32} (hd : decode c.code pc = .ok (.ior, 1)) (hq : pc + 1 = q)  (K : own_Go p e below P (T.setTop (mkF m q Ls (.int (x ||| y) :: st)))) : own_Go p e below P (T.setTop (mkF m pc Ls (.int y :: .int x :: st))) := by
  subst hq; exact own_via (fun t => XT.ior X.here hx rfl hd rfl) K
theorem own_ishl (X : Stand p l e R s m args below meth c T locs cells slots) (hx : p.tables.exec = Jvm.exec) {x y : Int32} (hd : decode c.code pc = .ok (.ishl, 1)) (hq : pc + 1 = q)  (K : own_Go p e below P (T.setTop (mkF m q Ls (.int (x <<< (y &&& 31)) :: st)))) : own_Go p e below P (T.setTop (mkF m pc Ls (.int y :: .int x :: st))) := by
  subst hq; exact own_via (fun t => XT.ishl X.here hx rfl hd rfl) K
theorem own_ishr (X : Stand p l e R s m args below meth c T locs cells slots) (hx : p.tables.exec = Jvm.exec) {x y : Int32} (hd : decode c.code pc = .ok (.ishr, 1)) (hq : pc + 1 = q)  (K : own_Go p e below P (T.setTop (mkF m q Ls (.int (x >>> (y &&& 31)) :: st)))) : own_Go p e below P (T.setTop (mkF m pc Ls (.int y :: .int x :: st))) := by
  subst hq; exact own_via (fun t => XT.ishr X.here hx rfl hd rfl) K
theorem own_iushr (X : Stand p l e R s m args below meth c T locs cells slots) (hx : p.tables.exec = Jvm.exec) {x y : Int32} (hd : decode c.code pc = .ok (.iushr, 1)) (hq : pc + 1 = q)  (K : own_Go p e below P (T.setTop (mkF m q Ls (.int (XT.ushr x y) :: st)))) : own_Go p e below P (T.setTop (mkF m pc Ls (.int y :: .int x :: st))) := by
  subst hq; exact own_via (fun t => XT.iushr X.here hx rfl hd rfl) K
theorem own_i2c (X : Stand p l e R s m args below meth c T locs cells slots) (hx : p.tables.exec = Jvm.exec) {x : Int32} (hd : decode c.code pc = .ok (.i2c, 1)) (hq : pc + 1 = q)  (K : own_Go p e below P (T.setTop (mkF m q Ls (.int x.toUInt32.toUInt16.toUInt32.toInt32 :: st)))) : own_Go p e below P (T.setTop (mkF m pc Ls (.int x :: st))) := by
  subst hq; exact own_via (fun t => XT.i2c X.here hx rfl hd rfl) K
theorem own_i2b (X : Stand p l e R s m args below meth c T locs cells slots) (hx : p.tables.exec = Jvm.exec) {x : Int32} (hd : decode c.code pc = .ok (.i2b, 1)) (hq : pc + 1 = q)  (K : own_Go p e below P (T.setTop (mkF m q Ls (.int x.toInt8.toInt32 :: st)))) : own_Go p e below P (T.setTop (mkF m pc Ls (.int x :: st))) := by
  subst hq; exact own_via (fun t => XT.i2b X.here hx rfl hd rfl) K
theorem own_iconst (X : Stand p l e R s m args below meth c T locs cells slots) (hx : p.tables.exec = Jvm.exec) {i : Int} (v : Int32) (hd : decode c.code pc = .ok (.iconst i, 1)) (hq : pc + 1 = q) (hv : Int32.ofInt i = v) (K : own_Go p e below P (T.setTop (mkF m q Ls (.int v :: st)))) : own_Go p e below P (T.setTop (mkF m pc Ls st)) := by
  subst hq; exact own_via (fun t => XT.iconstV (v := v) X.here hx rfl hd hv) K
theorem own_bipush (X : Stand p l e R s m args below meth c T locs cells slots) (hx : p.tables.exec = Jvm.exec) {i : Int} (v : Int32) (hd : decode c.code pc = .ok (.bipush i, 2)) (hq : pc + 2 = q) (hv : (Int8.ofInt i).toInt32 = v) (K : own_Go p e below P (T.setTop (mkF m q Ls (.int v :: st)))) : own_Go p e below P (T.setTop (mkF m pc Ls st)) := by
  subst hq; exact own_via (fun t => XT.bipushV (v := v) X.here hx rfl hd hv) K
theorem own_sipush (X : Stand p l e R s m args below meth c T locs cells slots) (hx : p.tables.exec = Jvm.exec) {i : Int} (v : Int32) (hd : decode c.code pc = .ok (.sipush i, 3)) (hq : pc + 3 = q) (hv : (Int16.ofInt i).toInt32 = v) (K : own_Go p e below P (T.setTop (mkF m q Ls (.int v :: st)))) : own_Go p e below P (T.setTop (mkF m pc Ls st)) := by
  subst hq; exact own_via (fun t => XT.sipushV (v := v) X.here hx rfl hd hv) K
theorem own_aconstNull (X : Stand p l e R s m args below meth c T locs cells slots) (hx : p.tables.exec = Jvm.exec)  (hd : decode c.code pc = .ok (.aconst_null, 1)) (hq : pc + 1 = q)  (K : own_Go p e below P (T.setTop (mkF m q Ls (.null :: st)))) : own_Go p e below P (T.setTop (mkF m pc Ls st)) := by
  subst hq; exact own_via (fun t => XS.aconstNull X.here hx rfl hd ) K
theorem own_iloadN (X : Stand p l e R s m args below meth c T locs cells slots) (hx : p.tables.exec = Jvm.exec) {k : Fin 4} {v : Int32} (hd : decode c.code pc = .ok (.iload_n k, 1)) (hq : pc + 1 = q) (hl : Ls[k.val]? = some (.val (.int v))) (K : own_Go p e below P (T.setTop (mkF m q Ls (.int v :: st)))) : own_Go p e below P (T.setTop (mkF m pc Ls st)) := by
  subst hq; exact own_via (fun t => XS.iloadN X.here hx rfl hd hl) K
theorem own_iload (X : Stand p l e R s m args below meth c T locs cells slots) (hx : p.tables.exec = Jvm.exec) {k : Nat} {v : Int32} (hd : decode c.code pc = .ok (.iload k, 2)) (hq : pc + 2 = q) (hl : Ls[k]? = some (.val (.int v))) (K : own_Go p e below P (T.setTop (mkF m q Ls (.int v :: st)))) : own_Go p e below P (T.setTop (mkF m pc Ls st)) := by
  subst hq; exact own_via (fun t => XS.iload X.here hx rfl hd hl) K
theorem own_aloadN (X : Stand p l e R s m args below meth c T locs cells slots) (hx : p.tables.exec = Jvm.exec) {k : Fin 4} {v : Value} (hd : decode c.code pc = .ok (.aload_n k, 1)) (hq : pc + 1 = q) (hl : Ls[k.val]? = some (.val v)) (hv : v.isRef = true) (K : own_Go p e below P (T.setTop (mkF m q Ls (v :: st)))) : own_Go p e below P (T.setTop (mkF m pc Ls st)) := by
  subst hq; exact own_via (fun t => XS.aloadN X.here hx rfl hd hl hv) K
theorem own_aload (X : Stand p l e R s m args below meth c T locs cells slots) (hx : p.tables.exec = Jvm.exec) {k : Nat} {v : Value} (hd : decode c.code pc = .ok (.aload k, 2)) (hq : pc + 2 = q) (hl : Ls[k]? = some (.val v)) (hv : v.isRef = true) (K : own_Go p e below P (T.setTop (mkF m q Ls (v :: st)))) : own_Go p e below P (T.setTop (mkF m pc Ls st)) := by
  subst hq; exact own_via (fun t => XS.aload X.here hx rfl hd hl hv) K
theorem own_istoreN (X : Stand p l e R s m args below meth c T locs cells slots) (hx : p.tables.exec = Jvm.exec) {k : Fin 4} {v : Int32} (hd : decode c.code pc = .ok (.istore_n k, 1)) (hq : pc + 1 = q) (hl : storeLocals Ls k.val (.int v) = some L') (K : own_Go p e below P (T.setTop (mkF m q L' st))) : own_Go p e below P (T.setTop (mkF m pc Ls (.int v :: st))) := by
  subst hq; exact own_via (fun t => XS.istoreN X.here hx rfl hd rfl hl) K
theorem own_istore (X : Stand p l e R s m args below meth c T locs cells slots) (hx : p.tables.exec = Jvm.exec) {k : Nat} {v : Int32} (hd : decode c.code pc = .ok (.istore k, 2)) (hq : pc + 2 = q) (hl : storeLocals Ls k (.int v) = some L') (K : own_Go p e below P (T.setTop (mkF m q L' st))) : own_Go p e below P (T.setTop (mkF m pc Ls (.int v :: st))) := by
  subst hq; exact own_via (fun t => XS.istore X.here hx rfl hd rfl hl) K
theorem own_astoreN (X : Stand p l e R s m args below meth c T locs cells slots) (hx : p.tables.exec = Jvm.exec) {k : Fin 4} {v : Value} (hd : decode c.code pc = .ok (.astore_n k, 1)) (hq : pc + 1 = q) (hv : v.isRef = true) (hl : storeLocals Ls k.val v = some L') (K : own_Go p e below P (T.setTop (mkF m q L' st))) : own_Go p e below P (T.setTop (mkF m pc Ls (v :: st))) := by
  subst hq; exact own_via (fun t => XS.astoreN X.here hx rfl hd rfl hv hl) K
theorem own_astore (X : Stand p l e R s m args below meth c T locs cells slots) (hx : p.tables.exec = Jvm.exec) {k : Nat} {v : Value} (hd : decode c.code pc = .ok (.astore k, 2)) (hq : pc + 2 = q) (hv : v.isRef = true) (hl : storeLocals Ls k v = some L') (K : own_Go p e below P (T.setTop (mkF m q L' st))) : own_Go p e below P (T.setTop (mkF m pc Ls (v :: st))) := by
  subst hq; exact own_via (fun t => XS.astore X.here hx rfl hd rfl hv hl) K
theorem own_iinc (X : Stand p l e R s m args below meth c T locs cells slots) (hx : p.tables.exec = Jvm.exec) {k : Nat} {i : Int} {x : Int32} (v : Int32) (hd : decode c.code pc = .ok (.iinc k i, 3)) (hq : pc + 3 = q) (hv : Int32.ofInt i = v) (hl : Ls[k]? = some (.val (.int x))) (hl' : storeLocals Ls k (.int (x + v)) = some L') (K : own_Go p e below P (T.setTop (mkF m q L' st))) : own_Go p e below P (T.setTop (mkF m pc Ls st)) := by
  subst hq; exact own_via (fun t => XT.iincV (v := v) X.here hx rfl hd hv hl hl') K
theorem own_dup (X : Stand p l e R s m args below meth c T locs cells slots) (hx : p.tables.exec = Jvm.exec) {v : Value} (hd : decode c.code pc = .ok (.dup, 1)) (hq : pc + 1 = q) (hc : v.category = 1) (K : own_Go p e below P (T.setTop (mkF m q Ls (v :: v :: st)))) : own_Go p e below P (T.setTop (mkF m pc Ls (v :: st))) := by
  subst hq; exact own_via (fun t => XS.dup X.here hx rfl hd rfl hc) K
theorem own_pop (X : Stand p l e R s m args below meth c T locs cells slots) (hx : p.tables.exec = Jvm.exec) {v : Value} (hd : decode c.code pc = .ok (.pop, 1)) (hq : pc + 1 = q) (hc : v.category = 1) (K : own_Go p e below P (T.setTop (mkF m q Ls st))) : own_Go p e below P (T.setTop (mkF m pc Ls (v :: st))) := by
  subst hq; exact own_via (fun t => XT.pop X.here hx rfl hd rfl hc) K
theorem own_dupX1 (X : Stand p l e R s m args below meth c T locs cells slots) (hx : p.tables.exec = Jvm.exec) {v w : Value} (hd : decode c.code pc = .ok (.dup_x1, 1)) (hq : pc + 1 = q) (hc : v.category = 1) (hc' : w.category = 1) (K : own_Go p e below P (T.setTop (mkF m q Ls (v :: w :: v :: st)))) : own_Go p e below P (T.setTop (mkF m pc Ls (v :: w :: st))) := by
  subst hq; exact own_via (fun t => XT.dupX1 X.here hx rfl hd rfl hc hc') K
theorem own_goto (X : Stand p l e R s m args below meth c T locs cells slots) (hx : p.tables.exec = Jvm.exec) {o : Int} (hd : decode c.code pc = .ok (.goto o, 3)) (ho : 0 ≤ (pc : Int) + o) (hp : ((pc : Int) + o).toNat = q) (K : own_Go p e below P (T.setTop (mkF m q Ls st))) : own_Go p e below P (T.setTop (mkF m pc Ls st)) := by
  exact own_via (fun t => XS.goto X.here hx rfl (pc0 := pc) (pc' := q) rfl hd ho hp) K
theorem own_ldc (X : Stand p l e R s m args below meth c T locs cells slots) (hx : p.tables.exec = Jvm.exec) {Z : State} {a0 : Array Value} (hZ : Z.Warmed39 s.vm) {own : String} {i : Nat} {v : Int32} (hown : s.vm.findClass own = some m.cls) (w : (Cond.constant own i v).before a0 Z = true) (hd : decode c.code pc = .ok (.ldc i, 2)) (hq : pc + 2 = q) (K : own_Go p e below P (T.setTop (mkF m q Ls (.int v :: st)))) : own_Go p e below P (T.setTop (mkF m pc Ls st)) := by
  subst hq; exact own_via (fun t => X.ldcI hx hown (mv hZ w) rfl hd) K
def own_pos : ClassFile.Cond → Bool | .eq => true | .lt => true | .gt => true | _ => false
def own_base {α : Type} [LT α] : ClassFile.Cond → α → α → Prop | .eq, x, y => x = y | .ne, x, y => x = y | .lt, x, y => x < y | .ge, x, y => x < y | .gt, x, y => y < x | .le, x, y => y < x
theorem own_ii {cd : ClassFile.Cond} {x y : Int32} : (own_base cd x y → if_icmp.holds cd x y = own_pos cd) ∧ (¬ own_base cd x y → if_icmp.holds cd x y = !own_pos cd) := by
  cases cd <;> simp only [own_base, own_pos, Bool.not_true, Bool.not_false]
  · exact ⟨XT.ii_eq_t, XT.ii_eq_f⟩
  · exact ⟨XT.ii_ne_f, XT.ii_ne_t⟩
  · exact ⟨XT.ii_lt_t, XT.ii_lt_f⟩
  · exact ⟨XT.ii_ge_f, XT.ii_ge_t⟩
  · exact ⟨XT.ii_gt_t, XT.ii_gt_f⟩
  · exact ⟨XT.ii_le_f, XT.ii_le_t⟩
theorem own_icmpP (X : Stand p l e R s m args below meth c T locs cells slots) (hx : p.tables.exec = Jvm.exec) {x y : Int32} {cd : ClassFile.Cond} {o : Int} {pt : Nat} (hd : decode c.code pc = .ok (.if_icmp cd o, 3)) (ho : 0 ≤ (pc : Int) + o) (hp : ((pc : Int) + o).toNat = pt) (hq : pc + 3 = q) (hs : own_pos cd = true) (K1 : own_base cd x y → own_Go p e below P (T.setTop (mkF m pt Ls st))) (K2 : ¬ own_base cd x y → own_Go p e below P (T.setTop (mkF m q Ls st))) : own_Go p e below P (T.setTop (mkF m pc Ls (.int y :: .int x :: st))) := by
  subst hq
  by_cases h : own_base cd x y
  · exact own_via (fun t => XS.icmpYes X.here hx rfl (pc0 := pc) (pc' := pt) rfl hd rfl ((own_ii.1 h).trans hs) ho hp) (K1 h)
  · exact own_via (fun t => XS.icmpNo X.here hx rfl hd rfl ((own_ii.2 h).trans (by rw [hs]; rfl))) (K2 h)
theorem own_icmpM (X : Stand p l e R s m args below meth c T locs cells slots) (hx : p.tables.exec = Jvm.exec) {x y : Int32} {cd : ClassFile.Cond} {o : Int} {pt : Nat} (hd : decode c.code pc = .ok (.if_icmp cd o, 3)) (ho : 0 ≤ (pc : Int) + o) (hp : ((pc : Int) + o).toNat = pt) (hq : pc + 3 = q) (hs : own_pos cd = false) (K1 : ¬ own_base cd x y → own_Go p e below P (T.setTop (mkF m pt Ls st))) (K2 : own_base cd x y → own_Go p e below P (T.setTop (mkF m q Ls st))) : own_Go p e below P (T.setTop (mkF m pc Ls (.int y :: .int x :: st))) := by
  subst hq
  by_cases h : own_base cd x y
  · exact own_via (fun t => XS.icmpNo X.here hx rfl hd rfl ((own_ii.1 h).trans hs)) (K2 h)
  · exact own_via (fun t => XS.icmpYes X.here hx rfl (pc0 := pc) (pc' := pt) rfl hd rfl ((own_ii.2 h).trans (by rw [hs]; rfl)) ho hp) (K1 h)
theorem own_if0P (X : Stand p l e R s m args below meth c T locs cells slots) (hx : p.tables.exec = Jvm.exec) {x : Int32} {cd : ClassFile.Cond} {o : Int} {pt : Nat} (hd : decode c.code pc = .ok (.ifCond cd o, 3)) (ho : 0 ≤ (pc : Int) + o) (hp : ((pc : Int) + o).toNat = pt) (hq : pc + 3 = q) (hs : own_pos cd = true) (K1 : own_base cd x (0 : Int32) → own_Go p e below P (T.setTop (mkF m pt Ls st))) (K2 : ¬ own_base cd x (0 : Int32) → own_Go p e below P (T.setTop (mkF m q Ls st))) : own_Go p e below P (T.setTop (mkF m pc Ls (.int x :: st))) := by
  subst hq
  by_cases h : own_base cd x (0 : Int32)
  · exact own_via (fun t => XS.ifYes X.here hx rfl (pc0 := pc) (pc' := pt) rfl hd rfl ((if0 cd x).trans ((own_ii (y := 0).1 h).trans hs)) ho hp) (K1 h)
  · exact own_via (fun t => XS.ifNo X.here hx rfl hd rfl ((if0 cd x).trans ((own_ii (y := 0).2 h).trans (by rw [hs]; rfl)))) (K2 h)
theorem own_if0M (X : Stand p l e R s m args below meth c T locs cells slots) (hx : p.tables.exec = Jvm.exec) {x : Int32} {cd : ClassFile.Cond} {o : Int} {pt : Nat} (hd : decode c.code pc = .ok (.ifCond cd o, 3)) (ho : 0 ≤ (pc : Int) + o) (hp : ((pc : Int) + o).toNat = pt) (hq : pc + 3 = q) (hs : own_pos cd = false) (K1 : ¬ own_base cd x (0 : Int32) → own_Go p e below P (T.setTop (mkF m pt Ls st))) (K2 : own_base cd x (0 : Int32) → own_Go p e below P (T.setTop (mkF m q Ls st))) : own_Go p e below P (T.setTop (mkF m pc Ls (.int x :: st))) := by
  subst hq
  by_cases h : own_base cd x (0 : Int32)
  · exact own_via (fun t => XS.ifNo X.here hx rfl hd rfl ((if0 cd x).trans ((own_ii (y := 0).1 h).trans hs))) (K2 h)
  · exact own_via (fun t => XS.ifYes X.here hx rfl (pc0 := pc) (pc' := pt) rfl hd rfl ((if0 cd x).trans ((own_ii (y := 0).2 h).trans (by rw [hs]; rfl))) ho hp) (K1 h)
theorem own_nullN (X : Stand p l e R s m args below meth c T locs cells slots) (hx : p.tables.exec = Jvm.exec) {o : Int} {a : Addr} (hd : decode c.code pc = .ok (.ifnull o, 3)) (hq : pc + 3 = q) (K : own_Go p e below P (T.setTop (mkF m q Ls st))) : own_Go p e below P (T.setTop (mkF m pc Ls (.ref a :: st))) := by
  subst hq; exact own_via (fun t => XS.ifnullNo X.here hx rfl hd rfl) K
theorem own_retN (X : Stand p l e R s m args below meth c T locs cells slots) (hx : p.tables.exec = Jvm.exec) (hlk : meth.locks = false) {rest : List Value} {z : Int32} {t : FieldType} (ht : t = .boolean ∨ t = .byte ∨ t = .char ∨ t = .short) (hret : meth.sig.returnType = some t) (hd : decode c.code pc = .ok (.ireturn, 1)) (hqq : Q (some (.int (nar t z))) T.heap locs) (hc : cells ≤ kc) (hs : slots ≤ ks)  : own_Go p e below (own_E s kc ks Q) (T.setTop (mkF m pc Ls (.int z :: rest))) := by
  obtain ⟨fs, hr, hrun, hended, hW, hsame⟩ := X.leave (v := (some (.int (nar t z)))) (fun h => by rw [hret] at h; cases h) hlk
  exact ⟨_, _, retN X hx hret ht hd hr, hrun, hended, _, _, rfl, hqq, ⟨_, rfl⟩, hW, hsame.mono hc hs⟩
theorem own_retI (X : Stand p l e R s m args below meth c T locs cells slots) (hx : p.tables.exec = Jvm.exec) (hlk : meth.locks = false) {rest : List Value} {z : Int32} (hret : meth.sig.returnType = some .int) (hd : decode c.code pc = .ok (.ireturn, 1)) (hqq : Q (some (.int z)) T.heap locs) (hc : cells ≤ kc) (hs : slots ≤ ks)  : own_Go p e below (own_E s kc ks Q) (T.setTop (mkF m pc Ls (.int z :: rest))) := by
  obtain ⟨fs, hr, hrun, hended, hW, hsame⟩ := X.leave (v := (some (.int z))) (fun h => by rw [hret] at h; cases h) hlk
  exact ⟨_, _, retOut X hx hret rfl (Or.inl ⟨rfl, Or.inl rfl, z, rfl⟩) hd hr, hrun, hended, _, _, rfl, hqq, ⟨_, rfl⟩, hW, hsame.mono hc hs⟩
theorem own_retA (X : Stand p l e R s m args below meth c T locs cells slots) (hx : p.tables.exec = Jvm.exec) (hlk : meth.locks = false) {rest : List Value} {w : Value} {t : FieldType} (hw : w.isRef = true) (ht : t.isReference = true) (hn : narrow t w = w) (hret : meth.sig.returnType = some t) (hd : decode c.code pc = .ok (.areturn, 1)) (hqq : Q (some w) T.heap locs) (hc : cells ≤ kc) (hs : slots ≤ ks)  : own_Go p e below (own_E s kc ks Q) (T.setTop (mkF m pc Ls (w :: rest))) := by
  obtain ⟨fs, hr, hrun, hended, hW, hsame⟩ := X.leave (v := (some w)) (fun h => by rw [hret] at h; cases h) hlk
  exact ⟨_, _, retOut X hx hret hn (Or.inr (Or.inr (Or.inr (Or.inr ⟨rfl, ht, hw⟩)))) hd hr, hrun, hended, _, _, rfl, hqq, ⟨_, rfl⟩, hW, hsame.mono hc hs⟩
theorem own_retV (X : Stand p l e R s m args below meth c T locs cells slots) (hx : p.tables.exec = Jvm.exec) (hlk : meth.locks = false) {rest : List Value} (hret : meth.sig.returnType = none) (hd : decode c.code pc = .ok (.return_, 1)) (hqq : Q none T.heap locs) (hc : cells ≤ kc) (hs : slots ≤ ks)  : own_Go p e below (own_E s kc ks Q) (T.setTop (mkF m pc Ls [])) := by
  obtain ⟨fs, hr, hrun, hended, hW, hsame⟩ := X.leave (v := none) (fun _ => rfl) hlk
  exact ⟨_, _, X.returnOut hx hret hd hr, hrun, hended, _, _, rfl, hqq, ⟨_, rfl⟩, hW, hsame.mono hc hs⟩
theorem own_callS (X : Stand p l e R s m args below meth c T locs cells slots) (hx : p.tables.exec = Jvm.exec) {Z : State} {a0 : Array Value} {h : Heap} {own : String} {index : Nat} {y : MethodName} {bytes : ByteArray} {maxL : Nat} {ret : Option FieldType} {rm : Room} {W : Nat} {argsL : List Value} {Qc : Option Value → Heap → List Loc → Prop} {ps : List FieldType} {r : Option FieldType} {st0 : List Value} (hZ : Z.Warmed39 s.vm) (hown : s.vm.findClass own = some m.cls) (w1 : (Cond.methodLink own index y).before a0 Z = true) (w2 : (Cond.static y).before a0 Z = true) (w3 : (Cond.initialized y.cls).before a0 Z = true) (w4 : (Cond.code y bytes maxL ret).before a0 Z = true) (hy : y.cls ≠ "java/lang/invoke/MethodHandle" ∧ y.cls ≠ "java/lang/invoke/VarHandle") (hM : MetFree l y (head1 [Cond.code y bytes maxL ret] rm) (fun aa U => aa = argsL.toArray ∧ Z.Warmed39 U.vm ∧ U.heap = h) (fun _ _ _ _ _ => True) (fun _ U o U' => ∃ v L, o = .returned v ∧ Qc v U'.heap L ∧ FrameEnd U o U' L rm.cells rm.slots)) (hpd : parseMethodDescriptor y.desc = some ⟨ps, r⟩) (hlen : argsL.length = ps.length) (eT : T.heap = h) (hml : Ls.size = c.maxLocals) (hst : st0 = argsL.reverse ++ st) (hW : (st.map fun v => v.category).sum ≤ W) (hf : rm.frames + 1 ≤ R.frames) (hl : W + (maxL + 11) + rm.locals ≤ R.locals) (hc : cells + rm.cells ≤ R.cells) (hs : slots + rm.slots ≤ R.slots) (hd : decode c.code pc = .ok (.invokestatic index, 3)) (hq : pc + 3 = q) (K : ∀ v T' L, Stand p l e R s m args below meth c T' (locs ++ L) (cells + rm.cells) (slots + rm.slots) → Qc v T'.heap L → own_Go p e below P (T'.setTop (mkF m q Ls (v.toList ++ st)))) : own_Go p e below P (T.setTop (mkF m pc Ls st0)) := by
  subst hq hst
  obtain ⟨v, _, ⟨T', L', k', n'⟩, -, X', ⟨Lc, hQ, l', y', z'⟩, st'⟩ := Jvm.LawKit.callS X hx hown (mvT hZ w1) (mvT hZ w2) (mvT hZ w3) (mvT hZ w4) hy (backOf (W := W) hM hZ w4 w3 hf hl) (g := mkF m pc Ls (argsL.reverse ++ st)) rfl hml (argsL := argsL) (rest := st) (lenOf hpd hlen) rfl (by show 2 * 0 + _ ≤ _; omega) hd (fun _ _ => ⟨rfl, eT, hc, hs⟩)
  dsimp only [Pt.U, Pt.locs, Pt.cells, Pt.slots] at X' l' y' z' st' hQ
  subst l' y' z'
  exact own_via (fun t => st' t) (K v T' Lc X' hQ)
theorem own_callC (X : Stand p l e R s m args below meth c T locs cells slots) (hx : p.tables.exec = Jvm.exec) {a : Addr} {Z : State} {a0 : Array Value} {h : Heap} {own : String} {index : Nat} {y : MethodName} {bytes : ByteArray} {maxL : Nat} {rm : Room} {W : Nat} {argsL : List Value} {Qc : Option Value → Heap → List Loc → Prop} {ps : List FieldType} {r : Option FieldType} {st0 : List Value} (hZ : Z.Warmed39 s.vm) (hown : s.vm.findClass own = some m.cls) (hy1 : y.name = "<init>") (w1 : (Cond.methodLink own index y).before a0 Z = true) (w2 : (Cond.instanceMethod y).before a0 Z = true) (w3 : (Cond.initialized y.cls).before a0 Z = true) (w4 : (Cond.code y bytes maxL none).before a0 Z = true) (hy : y.cls ≠ "java/lang/invoke/MethodHandle" ∧ y.cls ≠ "java/lang/invoke/VarHandle") (hM : MetFree l y (head1 [Cond.code y bytes maxL none] rm) (fun aa U => aa = (.ref a :: argsL).toArray ∧ Z.Warmed39 U.vm ∧ U.heap = h) (fun _ _ _ _ _ => True) (fun _ U o U' => ∃ v L, o = .returned v ∧ Qc v U'.heap L ∧ FrameEnd U o U' L rm.cells rm.slots)) (hpd : parseMethodDescriptor y.desc = some ⟨ps, r⟩) (hlen : argsL.length = ps.length) (eT : T.heap = h) (hml : Ls.size = c.maxLocals) (hst : st0 = argsL.reverse ++ .ref a :: st) (hW : (st.map fun v => v.category).sum ≤ W) (hf : rm.frames + 1 ≤ R.frames) (hl : W + (maxL + 11) + rm.locals ≤ R.locals) (hc : cells + rm.cells ≤ R.cells) (hs : slots + rm.slots ≤ R.slots) (hd : decode c.code pc = .ok (.invokespecial index, 3)) (hq : pc + 3 = q) (K : ∀ v T' L, Stand p l e R s m args below meth c T' (locs ++ L) (cells + rm.cells) (slots + rm.slots) → Qc v T'.heap L → own_Go p e below P (T'.setTop (mkF m q Ls (v.toList ++ st)))) : own_Go p e below P (T.setTop (mkF m pc Ls st0)) := by
  subst hq hst
  obtain ⟨v, _, ⟨T', L', k', n'⟩, -, X', ⟨Lc, hQ, l', y', z'⟩, st'⟩ := X.specialBack hx hy1 hown (mvT hZ w1) (mvT hZ w2) (mvT hZ w4) hy (backOf (W := W) hM hZ w4 w3 hf hl) (g := mkF m pc Ls (argsL.reverse ++ .ref a :: st)) rfl hml (Steps.refl _) (a := a) (argsL := argsL) (rest := st) (lenOf hpd hlen) rfl (by show 2 * 0 + _ ≤ _; omega) hd (fun _ _ => ⟨rfl, eT, hc, hs⟩)
  dsimp only [Pt.U, Pt.locs, Pt.cells, Pt.slots] at X' l' y' z' st' hQ
  subst l' y' z'
  exact own_via (fun t => st'.trans) (K v T' Lc X' hQ)
theorem own_callV (X : Stand p l e R s m args below meth c T locs cells slots) (hx : p.tables.exec = Jvm.exec) {a : Addr} {C : String} {z : MethodName} {Z : State} {a0 : Array Value} {h : Heap} {own : String} {index : Nat} {y : MethodName} {bytes : ByteArray} {maxL : Nat} {ret : Option FieldType} {rm : Room} {W : Nat} {argsL : List Value} {Qc : Option Value → Heap → List Loc → Prop} {ps : List FieldType} {r : Option FieldType} {st0 : List Value} (hZ : Z.Warmed39 s.vm) (hown : s.vm.findClass own = some m.cls) (w1 : (Cond.methodLink own index y).before a0 Z = true) (w2 : (Cond.declares y).before a0 Z = true) (w5 : (Cond.selects y.cls y y).before a0 Z = true) (w6 : (Cond.selects C y z).before a0 Z = true) (w7 : (Cond.instanceMethod z).before a0 Z = true) (w3 : (Cond.initialized z.cls).before a0 Z = true) (w4 : (Cond.code z bytes maxL ret).before a0 Z = true) (E : Exa Z h a C) (hy : y.cls ≠ "java/lang/invoke/MethodHandle" ∧ y.cls ≠ "java/lang/invoke/VarHandle") (hM : MetFree l z (head1 [Cond.code z bytes maxL ret] rm) (fun aa U => aa = (.ref a :: argsL).toArray ∧ Z.Warmed39 U.vm ∧ U.heap = h) (fun _ _ _ _ _ => True) (fun _ U o U' => ∃ v L, o = .returned v ∧ Qc v U'.heap L ∧ FrameEnd U o U' L rm.cells rm.slots)) (hpd : parseMethodDescriptor y.desc = some ⟨ps, r⟩) (hlen : argsL.length = ps.length) (eT : T.heap = h) (hml : Ls.size = c.maxLocals) (hst : st0 = argsL.reverse ++ .ref a :: st) (hW : (st.map fun v => v.category).sum ≤ W) (hf : rm.frames + 1 ≤ R.frames) (hl : W + (maxL + 11) + rm.locals ≤ R.locals) (hc : cells + rm.cells ≤ R.cells) (hs : slots + rm.slots ≤ R.slots) (hd : decode c.code pc = .ok (.invokevirtual index, 3)) (hq : pc + 3 = q) (K : ∀ v T' L, Stand p l e R s m args below meth c T' (locs ++ L) (cells + rm.cells) (slots + rm.slots) → Qc v T'.heap L → own_Go p e below P (T'.setTop (mkF m q Ls (v.toList ++ st)))) : own_Go p e below P (T.setTop (mkF m pc Ls st0)) := by
  subst hq hst
  obtain ⟨cq, kq, qa, qb, qc⟩ := isOf hZ eT E
  obtain ⟨v, _, ⟨T', L', k', n'⟩, -, X', ⟨Lc, hQ, l', y', z'⟩, st'⟩ := X.virtualBack hx (y := y) (z := z) hown (mvT hZ w1) (mvT hZ w2) (notFace_of_selects (args := #[]) (mvT hZ w5)) (mvT hZ w6) (mvT hZ w7) hy (backOf (W := W) hM hZ w4 w3 hf hl) qa qc (g := mkF m pc Ls (argsL.reverse ++ .ref a :: st)) rfl hml (Steps.refl _) (argsL := argsL) (rest := st) (lenOf hpd hlen) rfl (by show 2 * 0 + _ ≤ _; omega) hd (fun _ _ => ⟨rfl, eT, hc, hs⟩)
  dsimp only [Pt.U, Pt.locs, Pt.cells, Pt.slots] at X' l' y' z' st' hQ
  subst l' y' z'
  exact own_via (fun t => st'.trans) (K v T' Lc X' hQ)
theorem own_new (X : Stand p l e R s m args below meth c T locs cells slots) (hx : p.tables.exec = Jvm.exec) {Z : State} {a0 : Array Value} {h : Heap} (hZ : Z.Warmed39 s.vm) {own : String} {i : Nat} (hown : s.vm.findClass own = some m.cls) {C : String} {n : Nat} (w : (Cond.classLink own i C).before a0 Z = true) (wi : (Cond.instantiable C n).before a0 Z = true) (wz : (Cond.initialized C).before a0 Z = true) (eT : T.heap = h) (hd : decode c.code pc = .ok (.new i, 3)) (hc : cells + 1 ≤ R.cells) (hl : slots + n ≤ R.slots) (hq : pc + 3 = q) (K : ∀ T' h' a, Stand p l e R s m args below meth c T' locs (cells + 1) (slots + n) → T'.heap = h' → a = h.size → Ext h h' → Exa Z h' a C → (∀ {O nm d : String} {ty : FieldType}, Laid Z a0 C O nm d → parseFieldDescriptor d = some ty → Fld Z h' a O nm d (defaultValue ty)) → own_Go p e below P (T'.setTop (mkF m q Ls (.ref a :: st)))) : own_Go p e below P (T.setTop (mkF m pc Ls st)) := by
  subst hq
  obtain ⟨T', h', X', e', E', A', D', -, st'⟩ := newO X hx hZ hown w wi wz eT (g := mkF m pc Ls st) rfl hd hc hl
  exact own_via (fun t => st' t) (K T' h' _ X' e' rfl E' A' D')
theorem own_getF (X : Stand p l e R s m args below meth c T locs cells slots) (hx : p.tables.exec = Jvm.exec) {Z : State} {a0 : Array Value} {h : Heap} (hZ : Z.Warmed39 s.vm) {own : String} {i : Nat} (hown : s.vm.findClass own = some m.cls) {a : Addr} {v : Value} {R0 O n d host : String} (w : (Cond.fieldLink own i R0 n d).before a0 Z = true ∨ (Cond.fieldLinkNest own i R0 n d host).before a0 Z = true) (via : Via Z R0 O n d) (eT : T.heap = h) (F : Fld Z h a O n d v) (hd : decode c.code pc = .ok (.getfield i, 3)) (hq : pc + 3 = q) (K : ∀ T', Stand p l e R s m args below meth c T' locs cells slots → T'.heap = h → own_Go p e below P (T'.setTop (mkF m q Ls (v :: st)))) : own_Go p e below P (T.setTop (mkF m pc Ls (.ref a :: st))) := by
  subst hq
  obtain ⟨T', X', e', st'⟩ := getF X hx hZ hown w via eT F (g := mkF m pc Ls (.ref a :: st)) rfl rfl hd
  exact own_via (fun t => st' t) (K T' X' e')
theorem own_putF (X : Stand p l e R s m args below meth c T locs cells slots) (hx : p.tables.exec = Jvm.exec) {Z : State} {a0 : Array Value} {h : Heap} (hZ : Z.Warmed39 s.vm) {own : String} {i : Nat} (hown : s.vm.findClass own = some m.cls) {a : Addr} {v old : Value} {R0 O n d host C : String} {kk : Nat} {ty : FieldType} (w : (Cond.fieldLink own i R0 n d).before a0 Z = true ∨ (Cond.fieldLinkNest own i R0 n d host).before a0 Z = true) (via : Via Z R0 O n d) (eT : T.heap = h) (F : Fld Z h a O n d old) (E : Exa Z h a C) (L : (Cond.lays C O n d).before a0 Z = true ∨ ((Cond.laysFinal C O n d).before a0 Z = true ∧ own = O ∧ meth.name = "<init>")) (wi : (Cond.instantiable C kk).before a0 Z = true) (hty : parseFieldDescriptor d = some ty) (hn : narrow ty v = v) (hf : fits ty v = true) (hd : decode c.code pc = .ok (.putfield i, 3)) (hq : pc + 3 = q) (K : ∀ T' h', Stand p l e R s m args below meth c T' (locs ++ [⟨a, RoadKit.slotOf Z O n d⟩]) cells slots → T'.heap = h' → Wr h h' a (RoadKit.slotOf Z O n d) v → own_Go p e below P (T'.setTop (mkF m q Ls st))) : own_Go p e below P (T.setTop (mkF m pc Ls (v :: .ref a :: st))) := by
  subst hq
  obtain ⟨T', h', X', e', W', st'⟩ := putF X hx hZ hown w via eT F E L wi hty hn hf (g := mkF m pc Ls (v :: .ref a :: st)) rfl rfl hd
  exact own_via (fun t => st' t) (K T' h' X' e' W')
theorem own_initO (X : Stand p l e R s m args below meth c T locs cells slots) (hx : p.tables.exec = Jvm.exec) {Z : State} {a0 : Array Value} {h : Heap} (hZ : Z.Warmed39 s.vm) {own : String} {i : Nat} (hown : s.vm.findClass own = some m.cls) {a : Addr} {W : Nat} (w1 : (Cond.methodLink own i Lib.objectInit).before a0 Z = true) (w2 : (Cond.instanceMethod Lib.objectInit).before a0 Z = true) (w3 : (Cond.code Lib.objectInit ⟨#[0xb1]⟩ 1 none).before a0 Z = true) (eT : T.heap = h) (hml : Ls.size = c.maxLocals) (hf : 1 ≤ R.frames) (hW : (st.map fun v => v.category).sum ≤ W) (hl : W + 12 ≤ R.locals) (hd : decode c.code pc = .ok (.invokespecial i, 3)) (hq : pc + 3 = q) (K : ∀ T', Stand p l e R s m args below meth c T' locs cells slots → T'.heap = h → own_Go p e below P (T'.setTop (mkF m q Ls st))) : own_Go p e below P (T.setTop (mkF m pc Ls (.ref a :: st))) := by
  subst hq
  obtain ⟨T', X', e', st'⟩ := initO X hx hZ hown w1 w2 w3 eT (g := mkF m pc Ls (.ref a :: st)) rfl hml rfl hd hf (W := W) (by show 2 * 0 + _ ≤ _; omega) hl
  exact own_via (fun t => st' t) (K T' X' e')
theorem own_getS (X : Stand p l e R s m args below meth c T locs cells slots) (hx : p.tables.exec = Jvm.exec) {Z : State} {a0 : Array Value} {h : Heap} (hZ : Z.Warmed39 s.vm) {own : String} {i : Nat} (hown : s.vm.findClass own = some m.cls) {v : Value} {R0 O n d : String} (w : (Cond.fieldLink own i R0 n d).before a0 Z = true) (via : Via Z R0 O n d) (eT : T.heap = h) (F : Sta Z h O n d v) (hd : decode c.code pc = .ok (.getstatic i, 3)) (hq : pc + 3 = q) (K : ∀ T', Stand p l e R s m args below meth c T' locs cells slots → T'.heap = h → own_Go p e below P (T'.setTop (mkF m q Ls (v :: st)))) : own_Go p e below P (T.setTop (mkF m pc Ls st)) := by
  subst hq
  obtain ⟨T', X', e', st'⟩ := getS X hx hZ (host := "") hown w via eT F (g := mkF m pc Ls st) rfl hd
  exact own_via (fun t => st' t) (K T' X' e')
def own_V (h : Heap) (v : Option Value) (h' : Heap) (L : List Loc) : Prop := v = none ∧ h' = h ∧ L = []
def own_Lk (X : Stand p l e R s m args below meth c T locs cells slots) (T' : State) (locs' : List Loc) : Prop := Stand p l e R s m args below meth c T' locs' cells slots
theorem own_Lk.get {X : Stand p l e R s m args below meth c T locs cells slots} {T' : State} {locs' : List Loc} (h : own_Lk X T' locs') : Stand p l e R s m args below meth c T' locs' cells slots := h
def own_A (Z : State) (h : Heap) (a : Addr) (ty : FieldType) (vs : List Value) : Prop := ∃ c : Cell, Arr Z h a c ty ∧ c.slots.toList = vs
theorem own_A.lt {Z : State} {h : Heap} {a : Addr} {ty : FieldType} {vs : List Value} (F : own_A Z h a ty vs) : a < h.size := by obtain ⟨c, A, -⟩ := F; exact A.lt
theorem own_A.ext {Z : State} {h h' : Heap} {a : Addr} {ty : FieldType} {vs : List Value} (F : own_A Z h a ty vs) (E : Ext h h') : own_A Z h' a ty vs := by obtain ⟨c, A, r⟩ := F; exact ⟨c, A.ext E, r⟩
theorem own_A.other {Z : State} {h h' : Heap} {a b : Addr} {ty : FieldType} {vs : List Value} {sl : Nat} {v : Value} (F : own_A Z h b ty vs) (W : Wr h h' a sl v) (q : b ≠ a) : own_A Z h' b ty vs := by obtain ⟨c, A, r⟩ := F; exact ⟨c, A.other W q, r⟩
theorem own_A.keep {Z : State} {h h' : Heap} {a : Addr} {ty : FieldType} {vs : List Value} {ws : List Addr} (F : own_A Z h a ty vs) (K : Keep h h' ws) (q : a ∉ ws) : own_A Z h' a ty vs := by obtain ⟨c, A, r⟩ := F; exact ⟨c, ⟨K.2.1 a c A.1 q, A.2⟩, r⟩
theorem own_A.set {Z : State} {h h' : Heap} {a : Addr} {ty : FieldType} {vs : List Value} {i : Nat} {v : Value} (F : own_A Z h a ty vs) (W : Wr h h' a i v) : own_A Z h' a ty (vs.set i v) := by
  obtain ⟨c, A, rfl⟩ := F; exact ⟨_, A.same W, by simp [Cell.setSlot]⟩
theorem own_in {c : Cell} {j : Int32} {i : Nat} (hn : ¬ j < 0) (hj : j.toNatClampNeg = i) (hi : i < c.slots.toList.length) : ¬ (j < 0 ∨ c.slots.size ≤ j.toNatClampNeg) := by
  rintro (h | h)
  · exact hn h
  · rw [hj] at h; rw [Array.length_toList] at hi; exact absurd hi (Nat.not_lt.mpr h)
theorem own_caload (X : Stand p l e R s m args below meth c T locs cells slots) (hx : p.tables.exec = Jvm.exec) {Z : State} {h : Heap} (hZ : Z.Warmed39 s.vm) {a : Addr} {j : Int32} {i : Nat} {vs : List Value} (eT : T.heap = h) {v : Value} (F : own_A Z h a .char vs) (hn : ¬ j < 0) (hj : j.toNatClampNeg = i) (hv : vs[i]? = some v) (hd : decode c.code pc = .ok (.caload, 1)) (hq : pc + 1 = q) (K : own_Go p e below P (T.setTop (mkF m q Ls (v :: st)))) : own_Go p e below P (T.setTop (mkF m pc Ls (.int j :: .ref a :: st))) := by
  subst hq
  obtain ⟨cl, A, rfl⟩ := F
  have hv' : cl.slots[j.toNatClampNeg]? = some v := by rw [hj, ← Array.getElem?_toList]; exact hv
  have hin := own_in (c := cl) hn hj (List.getElem?_eq_some_iff.mp hv).1
  exact own_via (fun t => X.caload hx (by rw [eT]; exact A.1) (State.isArrayOf_alike hZ.alike A.2.1) A.2.2 hin hv' (g := mkF m pc Ls (.int j :: .ref a :: st)) rfl rfl hd t) K
theorem own_baload (X : Stand p l e R s m args below meth c T locs cells slots) (hx : p.tables.exec = Jvm.exec) {Z : State} {h : Heap} (hZ : Z.Warmed39 s.vm) {a : Addr} {j : Int32} {i : Nat} {vs : List Value} (eT : T.heap = h) {v : Value} (F : own_A Z h a .byte vs) (hn : ¬ j < 0) (hj : j.toNatClampNeg = i) (hv : vs[i]? = some v) (hd : decode c.code pc = .ok (.baload, 1)) (hq : pc + 1 = q) (K : own_Go p e below P (T.setTop (mkF m q Ls (v :: st)))) : own_Go p e below P (T.setTop (mkF m pc Ls (.int j :: .ref a :: st))) := by
  subst hq
  obtain ⟨cl, A, rfl⟩ := F
  have hv' : cl.slots[j.toNatClampNeg]? = some v := by rw [hj, ← Array.getElem?_toList]; exact hv
  have hin := own_in (c := cl) hn hj (List.getElem?_eq_some_iff.mp hv).1
  exact own_via (fun t => X.baloadBytes hx (by rw [eT]; exact A.1) (State.isArrayOf_alike hZ.alike A.2.1) A.2.2 hin hv' (g := mkF m pc Ls (.int j :: .ref a :: st)) rfl rfl hd t) K
theorem own_alen (X : Stand p l e R s m args below meth c T locs cells slots) (hx : p.tables.exec = Jvm.exec) {Z : State} {h : Heap} (hZ : Z.Warmed39 s.vm) {a : Addr} {vs : List Value} {ty : FieldType} {n : Int32} (eT : T.heap = h) (F : own_A Z h a ty vs) (hn : vs.length.toInt32 = n) (hd : decode c.code pc = .ok (.arraylength, 1)) (hq : pc + 1 = q) (K : own_Go p e below P (T.setTop (mkF m q Ls (.int n :: st)))) : own_Go p e below P (T.setTop (mkF m pc Ls (.ref a :: st))) := by
  subst hq
  obtain ⟨cl, A, rfl⟩ := F
  rw [Array.length_toList] at hn
  subst hn
  exact own_via (fun t => X.arraylength hx (by rw [eT]; exact A.1) (State.isArrayOf_alike hZ.alike A.2.1) (g := mkF m pc Ls (.ref a :: st)) rfl rfl hd t) K
theorem own_castore (X : Stand p l e R s m args below meth c T locs cells slots) (hx : p.tables.exec = Jvm.exec) {Z : State} {h : Heap} (hZ : Z.Warmed39 s.vm) {a : Addr} {j : Int32} {i : Nat} {vs : List Value} (eT : T.heap = h) {x : Int32} (F : own_A Z h a .char vs) (hn : ¬ j < 0) (hj : j.toNatClampNeg = i) (hi : i < vs.length) (hd : decode c.code pc = .ok (.castore, 1)) (hq : pc + 1 = q) (K : ∀ T' h', Stand p l e R s m args below meth c T' (locs ++ [⟨a, i⟩]) cells slots → T'.heap = h' → Wr h h' a i (.int (nar .char x)) → own_A Z h' a .char (vs.set i (.int (nar .char x))) → own_Go p e below P (T'.setTop (mkF m q Ls st))) : own_Go p e below P (T.setTop (mkF m pc Ls (.int x :: .int j :: .ref a :: st))) := by
  subst hq hj
  have F' := F
  obtain ⟨cl, A, rfl⟩ := F
  have hin := own_in (c := cl) hn rfl hi
  obtain ⟨T', h', X', e', W', st'⟩ := stC X hx hZ eT A hin (g := mkF m pc Ls (.int x :: .int j :: .ref a :: st)) rfl rfl hd
  exact own_via (fun t => st' t) (K T' h' X' e' W' (F'.set W'))
theorem own_bastore (X : Stand p l e R s m args below meth c T locs cells slots) (hx : p.tables.exec = Jvm.exec) {Z : State} {h : Heap} (hZ : Z.Warmed39 s.vm) {a : Addr} {j : Int32} {i : Nat} {vs : List Value} (eT : T.heap = h) {x : Int32} (F : own_A Z h a .byte vs) (hn : ¬ j < 0) (hj : j.toNatClampNeg = i) (hi : i < vs.length) (hd : decode c.code pc = .ok (.bastore, 1)) (hq : pc + 1 = q) (K : ∀ T' h', Stand p l e R s m args below meth c T' (locs ++ [⟨a, i⟩]) cells slots → T'.heap = h' → Wr h h' a i (.int x.toInt8.toInt32) → own_A Z h' a .byte (vs.set i (.int x.toInt8.toInt32)) → own_Go p e below P (T'.setTop (mkF m q Ls st))) : own_Go p e below P (T.setTop (mkF m pc Ls (.int x :: .int j :: .ref a :: st))) := by
  subst hq hj
  have F' := F
  obtain ⟨cl, A, rfl⟩ := F
  have hin := own_in (c := cl) hn rfl hi
  obtain ⟨T', h', X', e', W', st'⟩ := stB X hx hZ eT A hin (g := mkF m pc Ls (.int x :: .int j :: .ref a :: st)) rfl rfl hd
  exact own_via (fun t => st' t) (K T' h' X' e' W' (F'.set W'))
theorem own_cast (X : Stand p l e R s m args below meth c T locs cells slots) (hx : p.tables.exec = Jvm.exec) {Z : State} {a0 : Array Value} {h : Heap} (hZ : Z.Warmed39 s.vm) {own : String} {i : Nat} (hown : s.vm.findClass own = some m.cls) {a : Addr} {K0 : String} (w : (Cond.classLink own i K0).before a0 Z = true) (eT : T.heap = h) (F : Ins Z h a K0 true) (hd : decode c.code pc = .ok (.checkcast i, 3)) (hq : pc + 3 = q) (K : ∀ T', Stand p l e R s m args below meth c T' locs cells slots → T'.heap = h → own_Go p e below P (T'.setTop (mkF m q Ls (.ref a :: st)))) : own_Go p e below P (T.setTop (mkF m pc Ls (.ref a :: st))) := by
  subst hq
  obtain ⟨T', X', e', st'⟩ := castY X hx hZ hown w eT F (g := mkF m pc Ls (.ref a :: st)) rfl rfl hd
  exact own_via (fun t => st' t) (K T' X' e')
theorem own_staKeep {Z : State} {h h' : Heap} {ws : List Addr} {C n d : String} {v : Value} (F : Sta Z h C n d v) (K : Keep h h' ws) (q : ∀ a ∈ ws, ∀ c : Cell, h[a]? = some c → c.vm.isStatics = false) : Sta Z h' C n d v := by
  obtain ⟨cf, i, k, f, st, cell, h1, h2, h3, h4, h5, h6, h7⟩ := F
  exact ⟨cf, i, k, f, st, cell, h1, h2, h3, h4, K.2.1 st cell h5 (fun hm => by rw [q st hm cell h5] at h6; cases h6), h6, h7⟩
theorem own_exaPlain {Z : State} {h : Heap} {a : Addr} {C : String} (E : Exa Z h a C) : ∀ c : Cell, h[a]? = some c → c.vm.isStatics = false := fun c hc => by
  obtain ⟨cell, k, h1, -, -, h4, -⟩ := E
  cases h1.symm.trans hc; exact h4
theorem own_A.plain {Z : State} {h : Heap} {a : Addr} {ty : FieldType} {vs : List Value} (F : own_A Z h a ty vs) : ∀ c : Cell, h[a]? = some c → c.vm.isStatics = false := fun c hc => by
  obtain ⟨cl, A, -⟩ := F
  cases A.1.symm.trans hc; exact A.plain
theorem own_A.arv {Z : State} {h : Heap} {a : Addr} {ty : FieldType} {vs : List Value} {N : Int32} {d : Value} (F : own_A Z h a ty vs) (hN : N.toNatClampNeg = vs.length) (hn : ¬ N < 0) (hf : ∀ v ∈ vs, fits ty v = true) : ∃ k, Arv Z h a k ty N vs d := by
  obtain ⟨c, A, rfl⟩ := F
  rw [Array.length_toList] at hN
  have key : ∀ i, i < c.slots.size → c.slots.toList.getD i d = c.slots[i]! ∧ c.slots[i]? = some (c.slots.toList.getD i d) ∧ c.slots.toList.getD i d ∈ c.slots.toList := fun i hi => by
    have h1 : c.slots.toList[i]? = some c.slots[i] := by rw [Array.getElem?_toList]; exact Array.getElem?_eq_getElem hi
    have h2 : c.slots.toList.getD i d = c.slots[i] := by rw [List.getD_eq_getElem?_getD, h1]; rfl
    refine ⟨by rw [h2, getElem!_pos c.slots i hi], by rw [h2]; exact Array.getElem?_eq_getElem hi, ?_⟩
    rw [h2]; exact Array.getElem_mem_toList hi
  exact ⟨c.cls, c, A, rfl, hN.symm, hn, fun i hi => (key i hi).2.1, fun i hi => hf _ (key i hi).2.2⟩
theorem own_A.of_arv {Z : State} {h : Heap} {a : Addr} {k : ClassId} {ty : FieldType} {vs : List Value} {N : Int32} {d : Value} (F : Arv Z h a k ty N vs d) (hN : N.toNatClampNeg = vs.length) : own_A Z h a ty vs := by
  obtain ⟨c, A, -, S, -, H, -⟩ := F
  refine ⟨c, A, List.ext_getElem? fun i => ?_⟩
  rw [Array.getElem?_toList]
  by_cases hi : i < c.slots.size
  · have hj : i < vs.length := by rw [← hN, ← S]; exact hi
    rw [H i hi, List.getD_eq_getElem?_getD, List.getElem?_eq_getElem hj]; rfl
  · have hj : ¬ i < vs.length := by rw [← hN, ← S]; exact hi
    rw [Array.getElem?_eq_none (Nat.le_of_not_lt hi), List.getElem?_eq_none (Nat.le_of_not_lt hj)]
theorem own_callSP (X : Stand p l e R s m args below meth c T locs cells slots) (hx : p.tables.exec = Jvm.exec) {Z : State} {a0 : Array Value} {h : Heap} {own : String} {index : Nat} {y : MethodName} {bytes : ByteArray} {maxL : Nat} {ret : Option FieldType} {W : Nat} {argsL : List Value} {fr lo : Nat} {w : Value} {ps : List FieldType} {r : Option FieldType} {st0 : List Value} (hZ : Z.Warmed39 s.vm) (hown : s.vm.findClass own = some m.cls) (w1 : (Cond.methodLink own index y).before a0 Z = true) (w2 : (Cond.static y).before a0 Z = true) (w3 : (Cond.initialized y.cls).before a0 Z = true) (w4 : (Cond.code y bytes maxL ret).before a0 Z = true) (hy : y.cls ≠ "java/lang/invoke/MethodHandle" ∧ y.cls ≠ "java/lang/invoke/VarHandle") (hM : MetFree l y (head1 [Cond.code y bytes maxL ret] ({ frames := fr, cells := 0, slots := 0, locals := lo } : Room)) (fun aa U => aa = argsL.toArray ∧ Z.Warmed39 U.vm ∧ U.heap = h) (fun _ _ _ _ _ => True) (fun _ U o U' => ∃ v L, o = .returned v ∧ own_P w h v U'.heap L ∧ FrameEnd U o U' L 0 0)) (hpd : parseMethodDescriptor y.desc = some ⟨ps, r⟩) (hlen : argsL.length = ps.length) (eT : T.heap = h) (hml : Ls.size = c.maxLocals) (hst : st0 = argsL.reverse ++ st) (hW : (st.map fun v => v.category).sum ≤ W) (hf : fr + 1 ≤ R.frames) (hl : W + (maxL + 11) + lo ≤ R.locals) (hc : cells ≤ R.cells) (hs : slots ≤ R.slots) (hd : decode c.code pc = .ok (.invokestatic index, 3)) (hq : pc + 3 = q) (K : ∀ T', Stand p l e R s m args below meth c T' locs cells slots → T'.heap = h → own_Go p e below P (T'.setTop (mkF m q Ls (w :: st)))) : own_Go p e below P (T.setTop (mkF m pc Ls st0)) := by
  refine own_callS X hx hZ hown w1 w2 w3 w4 hy hM hpd hlen eT hml hst hW hf hl hc hs hd hq fun v T' L X' hQ => ?_
  obtain ⟨rfl, eh, rfl⟩ := hQ
  rw [List.append_nil] at X'
  exact K T' X' eh
theorem own_callVP (X : Stand p l e R s m args below meth c T locs cells slots) (hx : p.tables.exec = Jvm.exec) {a : Addr} {C : String} {z : MethodName} {Z : State} {a0 : Array Value} {h : Heap} {own : String} {index : Nat} {y : MethodName} {bytes : ByteArray} {maxL : Nat} {ret : Option FieldType} {W : Nat} {argsL : List Value} {fr lo : Nat} {w : Value} {ps : List FieldType} {r : Option FieldType} {st0 : List Value} (hZ : Z.Warmed39 s.vm) (hown : s.vm.findClass own = some m.cls) (w1 : (Cond.methodLink own index y).before a0 Z = true) (w2 : (Cond.declares y).before a0 Z = true) (w5 : (Cond.selects y.cls y y).before a0 Z = true) (w6 : (Cond.selects C y z).before a0 Z = true) (w7 : (Cond.instanceMethod z).before a0 Z = true) (w3 : (Cond.initialized z.cls).before a0 Z = true) (w4 : (Cond.code z bytes maxL ret).before a0 Z = true) (E : Exa Z h a C) (hy : y.cls ≠ "java/lang/invoke/MethodHandle" ∧ y.cls ≠ "java/lang/invoke/VarHandle") (hM : MetFree l z (head1 [Cond.code z bytes maxL ret] ({ frames := fr, cells := 0, slots := 0, locals := lo } : Room)) (fun aa U => aa = (.ref a :: argsL).toArray ∧ Z.Warmed39 U.vm ∧ U.heap = h) (fun _ _ _ _ _ => True) (fun _ U o U' => ∃ v L, o = .returned v ∧ own_P w h v U'.heap L ∧ FrameEnd U o U' L 0 0)) (hpd : parseMethodDescriptor y.desc = some ⟨ps, r⟩) (hlen : argsL.length = ps.length) (eT : T.heap = h) (hml : Ls.size = c.maxLocals) (hst : st0 = argsL.reverse ++ .ref a :: st) (hW : (st.map fun v => v.category).sum ≤ W) (hf : fr + 1 ≤ R.frames) (hl : W + (maxL + 11) + lo ≤ R.locals) (hc : cells ≤ R.cells) (hs : slots ≤ R.slots) (hd : decode c.code pc = .ok (.invokevirtual index, 3)) (hq : pc + 3 = q) (K : ∀ T', Stand p l e R s m args below meth c T' locs cells slots → T'.heap = h → own_Go p e below P (T'.setTop (mkF m q Ls (w :: st)))) : own_Go p e below P (T.setTop (mkF m pc Ls st0)) := by
  refine own_callV X hx hZ hown w1 w2 w5 w6 w7 w3 w4 E hy hM hpd hlen eT hml hst hW hf hl hc hs hd hq fun v T' L X' hQ => ?_
  obtain ⟨rfl, eh, rfl⟩ := hQ
  rw [List.append_nil] at X'
  exact K T' X' eh
theorem own_callSV (X : Stand p l e R s m args below meth c T locs cells slots) (hx : p.tables.exec = Jvm.exec) {Z : State} {a0 : Array Value} {h : Heap} {own : String} {index : Nat} {y : MethodName} {bytes : ByteArray} {maxL : Nat} {ret : Option FieldType} {W : Nat} {argsL : List Value} {fr lo : Nat} {ps : List FieldType} {r : Option FieldType} {st0 : List Value} (hZ : Z.Warmed39 s.vm) (hown : s.vm.findClass own = some m.cls) (w1 : (Cond.methodLink own index y).before a0 Z = true) (w2 : (Cond.static y).before a0 Z = true) (w3 : (Cond.initialized y.cls).before a0 Z = true) (w4 : (Cond.code y bytes maxL ret).before a0 Z = true) (hy : y.cls ≠ "java/lang/invoke/MethodHandle" ∧ y.cls ≠ "java/lang/invoke/VarHandle") (hM : MetFree l y (head1 [Cond.code y bytes maxL ret] ({ frames := fr, cells := 0, slots := 0, locals := lo } : Room)) (fun aa U => aa = argsL.toArray ∧ Z.Warmed39 U.vm ∧ U.heap = h) (fun _ _ _ _ _ => True) (fun _ U o U' => ∃ v L, o = .returned v ∧ own_V h v U'.heap L ∧ FrameEnd U o U' L 0 0)) (hpd : parseMethodDescriptor y.desc = some ⟨ps, r⟩) (hlen : argsL.length = ps.length) (eT : T.heap = h) (hml : Ls.size = c.maxLocals) (hst : st0 = argsL.reverse ++ st) (hW : (st.map fun v => v.category).sum ≤ W) (hf : fr + 1 ≤ R.frames) (hl : W + (maxL + 11) + lo ≤ R.locals) (hc : cells ≤ R.cells) (hs : slots ≤ R.slots) (hd : decode c.code pc = .ok (.invokestatic index, 3)) (hq : pc + 3 = q) (K : ∀ T', Stand p l e R s m args below meth c T' locs cells slots → T'.heap = h → own_Go p e below P (T'.setTop (mkF m q Ls st))) : own_Go p e below P (T.setTop (mkF m pc Ls st0)) := by
  refine own_callS X hx hZ hown w1 w2 w3 w4 hy hM hpd hlen eT hml hst hW hf hl hc hs hd hq fun v T' L X' hQ => ?_
  obtain ⟨rfl, eh, rfl⟩ := hQ
  rw [List.append_nil] at X'
  exact K T' X' eh
end OwnKit
section OwnKitW
variable {p : Program} {l : Launch} {e : Env} {R : Room} {s : State} {m : MethodId} {args : Array Value} {below : List Frame} {meth : Method} {c : Code} {T : State} {locs : List Loc} {cells slots kc ks : Nat} {Q : Option Value → Heap → List Loc → Prop} {P : Outcome → State → Prop} {pc q : Nat} {Ls L' : Array Slot} {st : List Value}
def own_W (s : State) (kc ks : Nat) (Q : Option Value → Heap → List Loc → Prop) (o : Outcome) (t : State) : Prop := ∃ v L, o = .returned v ∧ Q v t.heap L ∧ ReturnedEndW s o t L kc ks
theorem own_EW' {vm1 : Vm} {k1 : Nat} (hS : s.Since vm1 k1) {o : Outcome} {t : State} (h : own_E (s.setVm vm1) kc ks (fun v h L => Q v h L ∧ k1 ≤ h.size) o t) : own_W s kc ks Q o t := by
  obtain ⟨v, L, h1, ⟨h2, hk⟩, h3, h4, h5⟩ := h
  have S := State.Since.trans hS (h4.since t.heap.size) hk
  exact ⟨v, L, h1, h2, h3, S.1, S.2, h5.setVm s.vm⟩
theorem own_IB {Z : State} {vm0 vm1 : Vm} (I : IB Z vm0 []) (h : vm1.interned = vm0.interned) : IB Z vm1 [] := by
  obtain ⟨more, e1, e2⟩ := I; exact ⟨more, h.trans e1, e2⟩
end OwnKitW
theorem own_wSm : ∀ d ∈ Bundle.stringAtoms, d ∈ tables_1 := by decide +kernel
section OwnKitS
variable {p : Program} {l : Launch} {e : Env} {R : Room} {s : State} {m : MethodId} {args : Array Value} {below : List Frame} {meth : Method} {c : Code} {T : State} {locs : List Loc} {cells slots kc ks : Nat} {Q : Option Value → Heap → List Loc → Prop} {P : Outcome → State → Prop} {pc q : Nat} {Ls L' : Array Slot} {st : List Value}
theorem own_bb (x : Int32) : x.toInt8.toInt32.toInt8.toInt32 = x.toInt8.toInt32 := by simp
theorem own_newE (X : Stand p l e R s m args below meth c T locs cells slots) (hx : p.tables.exec = Jvm.exec) {Z : State} {a0 : Array Value} {h : Heap} (hZ : Z.Warmed39 s.vm) {aty : ArrayType} {ty : FieldType} {ad : String} {n : Int32} {k cap : Nat} (hty : newarray.typeOf aty = ty) (had : "[" ++ ty.toString = ad) (w : (Cond.arrayClass ty).before a0 Z = true) (eT : T.heap = h) (hn : ¬ n < 0) (hk : n.toNatClampNeg = k) (hcap : k ≤ cap) (hb8 : cap * 8 ≤ 536870912) (hc : cells + 1 ≤ R.cells) (hl : slots + cap ≤ R.slots) (hd : decode c.code pc = .ok (.newarray aty, 2)) (hq : pc + 2 = q) (K : ∀ T' h' a, Stand p l e R s m args below meth c T' locs (cells + 1) (slots + cap) → T'.heap = h' → a = h.size → Ext h h' → own_A Z h' a ty (List.replicate k (defaultValue ty)) → Exa Z h' a ad → own_Go p e below P (T'.setTop (mkF m q Ls (.ref a :: st)))) : own_Go p e below P (T.setTop (mkF m pc Ls (.int n :: st))) := by
  subst hq hty hk
  obtain ⟨T', h', cA, X', e', E', A', Ea, st'⟩ := newPE X hx hZ w eT (g := mkF m pc Ls (.int n :: st)) rfl hd rfl hn hcap hb8 hc hl had
  exact own_via (fun t => st' t) (K T' h' _ X' e' rfl E' ⟨_, A', by simp [newA]⟩ Ea)
theorem own_clone (X : Stand p l e R s m args below meth c T locs cells slots) (hx : p.tables.exec = Jvm.exec) {Z : State} {a0 : Array Value} {h : Heap} (hZ : Z.Warmed39 s.vm) {own ad : String} {i : Nat} (hown : s.vm.findClass own = some m.cls) (w1 : (Cond.methodLink own i ⟨ad, "clone", "()Ljava/lang/Object;"⟩).before a0 Z = true) (w2 : (Cond.sameMethod ad "java/lang/Object" "clone" "()Ljava/lang/Object;").before a0 Z = true) (w3 : (Cond.native ⟨"java/lang/Object", "clone", "()Ljava/lang/Object;"⟩).before a0 Z = true) (w4 : (Cond.instanceMethod ⟨"java/lang/Object", "clone", "()Ljava/lang/Object;"⟩).before a0 Z = true) (w5 : (Cond.selects ad ⟨ad, "clone", "()Ljava/lang/Object;"⟩ ⟨"java/lang/Object", "clone", "()Ljava/lang/Object;"⟩).before a0 Z = true) (w6 : (Cond.castable ad "java/lang/Cloneable").before a0 Z = true) (eT : T.heap = h) {a : Addr} {vs : List Value} {ty : FieldType} (F : own_A Z h a ty vs) (E : Exa Z h a ad) (hfit : ∀ v ∈ vs, fits ty v = true) (hml : Ls.size = c.maxLocals) {W cap : Nat} (hW : (st.map fun v => v.category).sum ≤ W) (hf : 1 ≤ R.frames) (hl : W + 14 ≤ R.locals) (hcap : vs.length ≤ cap) (hc : cells + 1 ≤ R.cells) (hs : slots + cap ≤ R.slots) (hd : decode c.code pc = .ok (.invokevirtual i, 3)) (hq : pc + 3 = q) (K : ∀ T' h' b, Stand p l e R s m args below meth c T' locs (cells + 1) (slots + cap) → T'.heap = h' → b = h.size → Ext h h' → own_A Z h' b ty vs → Exa Z h' b ad → own_Go p e below P (T'.setTop (mkF m q Ls (.ref b :: st)))) : own_Go p e below P (T.setTop (mkF m pc Ls (.ref a :: st))) := by
  subst hq
  obtain ⟨cl, A, rfl⟩ := F
  rw [Array.length_toList] at hcap
  obtain ⟨T', h', X', e', Ex, A', E', st'⟩ := cloneA X hx hZ hown w1 w2 w3 w4 w5 w6 eT A E (fitC_of A (fun i hi v hv => hfit v (by rw [← Array.getElem?_toList] at hv; exact List.mem_of_getElem? hv))) (g := mkF m pc Ls (.ref a :: st)) rfl hml rfl hd hf (W := W) (cap := cap) (by show 2 * 0 + _ ≤ _; omega) hl hcap hc hs
  exact own_via (fun t => st' t) (K T' h' _ X' e' rfl Ex ⟨_, A', rfl⟩ E')
theorem own_callU (X : Stand p l e R s m args below meth c T locs cells slots) (hx : p.tables.exec = Jvm.exec) {a : Addr} {C : String} {Z : State} {a0 : Array Value} {h : Heap} {own : String} {index : Nat} {y : MethodName} {bytes : ByteArray} {maxL : Nat} {ret : Option FieldType} {rm : Room} {W : Nat} {argsL : List Value} {Qc : Option Value → Heap → List Loc → Prop} {ps : List FieldType} {r : Option FieldType} {st0 : List Value} (hZ : Z.Warmed39 s.vm) (hown : s.vm.findClass own = some m.cls) (w1 : (Cond.methodLink own index y).before a0 Z = true) (w2 : (Cond.sameMethod y.cls y.cls y.name y.desc).before a0 Z = true) (w3 : (Cond.instanceMethod y).before a0 Z = true) (w5 : (Cond.superclass own y.cls).before a0 Z = true) (wz : (Cond.initialized y.cls).before a0 Z = true) (w4 : (Cond.code y bytes maxL ret).before a0 Z = true) (E : Exa Z h a C) (hn : y.name ≠ "<init>") (hy : y.cls ≠ "java/lang/invoke/MethodHandle" ∧ y.cls ≠ "java/lang/invoke/VarHandle") (hM : MetFree l y (head1 [Cond.code y bytes maxL ret] rm) (fun aa U => aa = (.ref a :: argsL).toArray ∧ Z.Warmed39 U.vm ∧ U.heap = h) (fun _ _ _ _ _ => True) (fun _ U o U' => ∃ v L, o = .returned v ∧ Qc v U'.heap L ∧ FrameEnd U o U' L rm.cells rm.slots)) (hpd : parseMethodDescriptor y.desc = some ⟨ps, r⟩) (hlen : argsL.length = ps.length) (eT : T.heap = h) (hml : Ls.size = c.maxLocals) (hst : st0 = argsL.reverse ++ .ref a :: st) (hW : (st.map fun v => v.category).sum ≤ W) (hf : rm.frames + 1 ≤ R.frames) (hl : W + (maxL + 11) + rm.locals ≤ R.locals) (hc : cells + rm.cells ≤ R.cells) (hs : slots + rm.slots ≤ R.slots) (hd : decode c.code pc = .ok (.invokespecial index, 3)) (hq : pc + 3 = q) (K : ∀ v T' L, Stand p l e R s m args below meth c T' (locs ++ L) (cells + rm.cells) (slots + rm.slots) → Qc v T'.heap L → own_Go p e below P (T'.setTop (mkF m q Ls (v.toList ++ st)))) : own_Go p e below P (T.setTop (mkF m pc Ls st0)) := by
  subst hq hst
  obtain ⟨v, _, ⟨T', L', k', n'⟩, -, X', ⟨Lc, hQ, l', y', z'⟩, st'⟩ := superBack X hx hZ (K := C) hown w1 w2 w3 w5 hn (backOf (W := W) hM hZ w4 wz hf hl) eT (Ins.self E) (g := mkF m pc Ls (argsL.reverse ++ .ref a :: st)) rfl hml w4 (argsL := argsL) (rest := st) (lenOf hpd hlen) rfl (by show 2 * 0 + _ ≤ _; omega) hd (fun _ _ => ⟨rfl, eT, hc, hs⟩)
  dsimp only [Pt.U, Pt.locs, Pt.cells, Pt.slots] at X' l' y' z' st' hQ
  subst l' y' z'
  exact own_via (fun t => st'.trans) (K v T' Lc X' hQ)
theorem own_nf {args : Array Value} {s : State} {C5 : String} {y y5 : MethodName} (w : (Cond.selects C5 y5 y5).before args s = true) (h : y5.cls = y.cls) : NotFace s y := fun r0 h0 => by
  obtain ⟨c2, r2, m2, q1, q2, q3, q4, kP, hkP, hkPi⟩ := Cond.selects_spec w
  have a := findClass_of_methodNamed h0
  have b := findClass_of_methodNamed q3
  rw [h] at b
  have e := Option.some.inj (a.symm.trans b)
  exact ⟨kP, by rw [e]; exact hkP, hkPi⟩
theorem own_same {a0 : Array Value} {Z : State} {y : MethodName} (w : (Cond.instanceMethod y).before a0 Z = true) (nf : NotFace Z y) (hy : y.cls ≠ "java/lang/invoke/MethodHandle" ∧ y.cls ≠ "java/lang/invoke/VarHandle") : (Cond.sameMethod y.cls y.cls y.name y.desc).before a0 Z = true := by
  obtain ⟨mk, methM, hn, hm, -, -⟩ := Cond.instanceMethod_spec w
  have hf := State.methodFound?_of_named hn hy
  obtain ⟨kr, hk, hi⟩ := nf mk hn
  have hc := findClass_of_methodNamed hn
  have hn' : Z.methodNamed? ⟨y.cls, y.name, y.desc⟩ = some mk := hn
  simp [Cond.before, Cond.holds, Cond.value, hc, hf, hn', hk, hi]
theorem own_callV2 (X : Stand p l e R s m args below meth c T locs cells slots) (hx : p.tables.exec = Jvm.exec) {a : Addr} {C : String} {z : MethodName} {Z : State} {a0 : Array Value} {h : Heap} {own : String} {index : Nat} {y : MethodName} {bytes : ByteArray} {maxL : Nat} {ret : Option FieldType} {rm : Room} {W : Nat} {argsL : List Value} {Qc : Option Value → Heap → List Loc → Prop} {ps : List FieldType} {r : Option FieldType} {st0 : List Value} (hZ : Z.Warmed39 s.vm) (hown : s.vm.findClass own = some m.cls) (w1 : (Cond.methodLink own index y).before a0 Z = true) (w2 : (Cond.declares y).before a0 Z = true) {C5 : String} {y5 : MethodName} (w5 : (Cond.selects C5 y5 y5).before a0 Z = true) (h5 : y5.cls = y.cls) (w6 : (Cond.selects C y z).before a0 Z = true) (w7 : (Cond.instanceMethod z).before a0 Z = true) (w3 : (Cond.initialized z.cls).before a0 Z = true) (w4 : (Cond.code z bytes maxL ret).before a0 Z = true) (E : Exa Z h a C) (hy : y.cls ≠ "java/lang/invoke/MethodHandle" ∧ y.cls ≠ "java/lang/invoke/VarHandle") (hM : MetFree l z (head1 [Cond.code z bytes maxL ret] rm) (fun aa U => aa = (.ref a :: argsL).toArray ∧ Z.Warmed39 U.vm ∧ U.heap = h) (fun _ _ _ _ _ => True) (fun _ U o U' => ∃ v L, o = .returned v ∧ Qc v U'.heap L ∧ FrameEnd U o U' L rm.cells rm.slots)) (hpd : parseMethodDescriptor y.desc = some ⟨ps, r⟩) (hlen : argsL.length = ps.length) (eT : T.heap = h) (hml : Ls.size = c.maxLocals) (hst : st0 = argsL.reverse ++ .ref a :: st) (hW : (st.map fun v => v.category).sum ≤ W) (hf : rm.frames + 1 ≤ R.frames) (hl : W + (maxL + 11) + rm.locals ≤ R.locals) (hc : cells + rm.cells ≤ R.cells) (hs : slots + rm.slots ≤ R.slots) (hd : decode c.code pc = .ok (.invokevirtual index, 3)) (hq : pc + 3 = q) (K : ∀ v T' L, Stand p l e R s m args below meth c T' (locs ++ L) (cells + rm.cells) (slots + rm.slots) → Qc v T'.heap L → own_Go p e below P (T'.setTop (mkF m q Ls (v.toList ++ st)))) : own_Go p e below P (T.setTop (mkF m pc Ls st0)) := by
  subst hq hst
  obtain ⟨cq, kq, qa, qb, qc⟩ := isOf hZ eT E
  obtain ⟨v, _, ⟨T', L', k', n'⟩, -, X', ⟨Lc, hQ, l', y', z'⟩, st'⟩ := X.virtualBack hx (y := y) (z := z) hown (mvT hZ w1) (mvT hZ w2) (own_nf (args := #[]) (mvT hZ w5) h5) (mvT hZ w6) (mvT hZ w7) hy (backOf (W := W) hM hZ w4 w3 hf hl) qa qc (g := mkF m pc Ls (argsL.reverse ++ .ref a :: st)) rfl hml (Steps.refl _) (argsL := argsL) (rest := st) (lenOf hpd hlen) rfl (by show 2 * 0 + _ ≤ _; omega) hd (fun _ _ => ⟨rfl, eT, hc, hs⟩)
  dsimp only [Pt.U, Pt.locs, Pt.cells, Pt.slots] at X' l' y' z' st' hQ
  subst l' y' z'
  exact own_via (fun t => st'.trans) (K v T' Lc X' hQ)
theorem own_callV2P (X : Stand p l e R s m args below meth c T locs cells slots) (hx : p.tables.exec = Jvm.exec) {a : Addr} {C : String} {z : MethodName} {Z : State} {a0 : Array Value} {h : Heap} {own : String} {index : Nat} {y : MethodName} {bytes : ByteArray} {maxL : Nat} {ret : Option FieldType} {W : Nat} {argsL : List Value} {fr lo : Nat} {w : Value} {ps : List FieldType} {r : Option FieldType} {st0 : List Value} (hZ : Z.Warmed39 s.vm) (hown : s.vm.findClass own = some m.cls) (w1 : (Cond.methodLink own index y).before a0 Z = true) (w2 : (Cond.declares y).before a0 Z = true) {C5 : String} {y5 : MethodName} (w5 : (Cond.selects C5 y5 y5).before a0 Z = true) (h5 : y5.cls = y.cls) (w6 : (Cond.selects C y z).before a0 Z = true) (w7 : (Cond.instanceMethod z).before a0 Z = true) (w3 : (Cond.initialized z.cls).before a0 Z = true) (w4 : (Cond.code z bytes maxL ret).before a0 Z = true) (E : Exa Z h a C) (hy : y.cls ≠ "java/lang/invoke/MethodHandle" ∧ y.cls ≠ "java/lang/invoke/VarHandle") (hM : MetFree l z (head1 [Cond.code z bytes maxL ret] ({ frames := fr, cells := 0, slots := 0, locals := lo } : Room)) (fun aa U => aa = (.ref a :: argsL).toArray ∧ Z.Warmed39 U.vm ∧ U.heap = h) (fun _ _ _ _ _ => True) (fun _ U o U' => ∃ v L, o = .returned v ∧ own_P w h v U'.heap L ∧ FrameEnd U o U' L 0 0)) (hpd : parseMethodDescriptor y.desc = some ⟨ps, r⟩) (hlen : argsL.length = ps.length) (eT : T.heap = h) (hml : Ls.size = c.maxLocals) (hst : st0 = argsL.reverse ++ .ref a :: st) (hW : (st.map fun v => v.category).sum ≤ W) (hf : fr + 1 ≤ R.frames) (hl : W + (maxL + 11) + lo ≤ R.locals) (hc : cells ≤ R.cells) (hs : slots ≤ R.slots) (hd : decode c.code pc = .ok (.invokevirtual index, 3)) (hq : pc + 3 = q) (K : ∀ T', Stand p l e R s m args below meth c T' locs cells slots → T'.heap = h → own_Go p e below P (T'.setTop (mkF m q Ls (w :: st)))) : own_Go p e below P (T.setTop (mkF m pc Ls st0)) := by
  refine own_callV2 X hx hZ hown w1 w2 w5 h5 w6 w7 w3 w4 E hy hM hpd hlen eT hml hst hW hf hl hc hs hd hq fun v T' L X' hQ => ?_
  obtain ⟨rfl, eh, rfl⟩ := hQ
  rw [List.append_nil] at X'
  exact K T' X' eh
theorem own_callQ2 (X : Stand p l e R s m args below meth c T locs cells slots) (hx : p.tables.exec = Jvm.exec) {a : Addr} {C C5 : String} {Z : State} {a0 : Array Value} {h : Heap} {own : String} {index : Nat} {y : MethodName} {bytes : ByteArray} {maxL : Nat} {ret : Option FieldType} {rm : Room} {W : Nat} {argsL : List Value} {Qc : Option Value → Heap → List Loc → Prop} {ps : List FieldType} {r : Option FieldType} {st0 : List Value} (hZ : Z.Warmed39 s.vm) (hown : s.vm.findClass own = some m.cls) (w1 : (Cond.methodLink own index y).before a0 Z = true) (w7 : (Cond.instanceMethod y).before a0 Z = true) (w5 : (Cond.selects C5 y y).before a0 Z = true) (w8 : (Cond.privateMethod y).before a0 Z = true) (w3 : (Cond.initialized y.cls).before a0 Z = true) (w4 : (Cond.code y bytes maxL ret).before a0 Z = true) (E : Exa Z h a C) (hy : y.cls ≠ "java/lang/invoke/MethodHandle" ∧ y.cls ≠ "java/lang/invoke/VarHandle") (hM : MetFree l y (head1 [Cond.code y bytes maxL ret] rm) (fun aa U => aa = (.ref a :: argsL).toArray ∧ Z.Warmed39 U.vm ∧ U.heap = h) (fun _ _ _ _ _ => True) (fun _ U o U' => ∃ v L, o = .returned v ∧ Qc v U'.heap L ∧ FrameEnd U o U' L rm.cells rm.slots)) (hpd : parseMethodDescriptor y.desc = some ⟨ps, r⟩) (hlen : argsL.length = ps.length) (eT : T.heap = h) (hml : Ls.size = c.maxLocals) (hst : st0 = argsL.reverse ++ .ref a :: st) (hW : (st.map fun v => v.category).sum ≤ W) (hf : rm.frames + 1 ≤ R.frames) (hl : W + (maxL + 11) + rm.locals ≤ R.locals) (hc : cells + rm.cells ≤ R.cells) (hs : slots + rm.slots ≤ R.slots) (hd : decode c.code pc = .ok (.invokevirtual index, 3)) (hq : pc + 3 = q) (K : ∀ v T' L, Stand p l e R s m args below meth c T' (locs ++ L) (cells + rm.cells) (slots + rm.slots) → Qc v T'.heap L → own_Go p e below P (T'.setTop (mkF m q Ls (v.toList ++ st)))) : own_Go p e below P (T.setTop (mkF m pc Ls st0)) := by
  subst hq hst
  obtain ⟨cq, kq, qa, qb, cl, qc, qd, qe⟩ := isOf hZ eT E
  obtain ⟨mk, methM, hnamed, hmethM, hstM, habM⟩ := Cond.instanceMethod_spec (mvT (args := args) hZ w7)
  obtain ⟨methM', cM, hmethM', -, -, -, -, -, -, hsigM⟩ := Cond.code_spec hnamed (mvT (args := args) hZ w4)
  cases hmethM.symm.trans hmethM'
  obtain ⟨c2, r2, m2, -, -, q3, -, kP, hkP, hkPi⟩ := Cond.selects_spec (mvT (args := args) hZ w5)
  cases hnamed.symm.trans q3
  have hselP : selectMethod e.platform s.vm cl.cls mk = .method mk := selectMethod_private hmethM ((Cond.privateMethod_at (mvP (args := args) hZ w8)) mk methM hnamed hmethM)
  obtain ⟨vm₁, X₁, hstep₁⟩ := X.invokevirtual hx hown (mvT hZ w1) hnamed hmethM hstM hkP hkPi hy (a := a) (cell := cl) qc (fun q z => by rw [z] at qe; cases qe) hselP hmethM habM hkP hkPi (g := mkF m pc Ls (argsL.reverse ++ .ref a :: st)) rfl (argsL := argsL) (rest := st) (lenOf hpd hlen _ hsigM) rfl hd
  obtain ⟨v, ⟨T', L', k', n'⟩, X', ⟨Lc, hQ, l', y', z'⟩, hsteps⟩ := (backOf (args := args) (below := below) (W := W) hM hZ w4 w3 hf hl) m meth c ⟨T.setVm vm₁, locs, cells, slots⟩ (mkF m pc Ls st) (.invokevirtual index) mk (.ref a :: argsL).toArray X₁ rfl hml hd (by show 2 * 0 + (st.map fun v => v.category).sum ≤ W; omega) (X₁.named hnamed) ⟨rfl, eT, hc, hs⟩
  dsimp only [Pt.U, Pt.locs, Pt.cells, Pt.slots] at X' l' y' z' hsteps hQ
  subst l' y' z'
  exact own_via (fun t => ((hstep₁ _ fun acts => by rw [doInvoke_state]; exact Steps.refl _).trans hsteps).trans) (K v T' Lc X' hQ)
theorem own_callQ2V (X : Stand p l e R s m args below meth c T locs cells slots) (hx : p.tables.exec = Jvm.exec) {a : Addr} {C C5 : String} {Z : State} {a0 : Array Value} {h : Heap} {own : String} {index : Nat} {y : MethodName} {bytes : ByteArray} {maxL : Nat} {ret : Option FieldType} {W : Nat} {argsL : List Value} {fr lo : Nat} {ps : List FieldType} {r : Option FieldType} {st0 : List Value} (hZ : Z.Warmed39 s.vm) (hown : s.vm.findClass own = some m.cls) (w1 : (Cond.methodLink own index y).before a0 Z = true) (w7 : (Cond.instanceMethod y).before a0 Z = true) (w5 : (Cond.selects C5 y y).before a0 Z = true) (w8 : (Cond.privateMethod y).before a0 Z = true) (w3 : (Cond.initialized y.cls).before a0 Z = true) (w4 : (Cond.code y bytes maxL ret).before a0 Z = true) (E : Exa Z h a C) (hy : y.cls ≠ "java/lang/invoke/MethodHandle" ∧ y.cls ≠ "java/lang/invoke/VarHandle") (hM : MetFree l y (head1 [Cond.code y bytes maxL ret] ({ frames := fr, cells := 0, slots := 0, locals := lo } : Room)) (fun aa U => aa = (.ref a :: argsL).toArray ∧ Z.Warmed39 U.vm ∧ U.heap = h) (fun _ _ _ _ _ => True) (fun _ U o U' => ∃ v L, o = .returned v ∧ own_V h v U'.heap L ∧ FrameEnd U o U' L 0 0)) (hpd : parseMethodDescriptor y.desc = some ⟨ps, r⟩) (hlen : argsL.length = ps.length) (eT : T.heap = h) (hml : Ls.size = c.maxLocals) (hst : st0 = argsL.reverse ++ .ref a :: st) (hW : (st.map fun v => v.category).sum ≤ W) (hf : fr + 1 ≤ R.frames) (hl : W + (maxL + 11) + lo ≤ R.locals) (hc : cells ≤ R.cells) (hs : slots ≤ R.slots) (hd : decode c.code pc = .ok (.invokevirtual index, 3)) (hq : pc + 3 = q) (K : ∀ T', Stand p l e R s m args below meth c T' locs cells slots → T'.heap = h → own_Go p e below P (T'.setTop (mkF m q Ls st))) : own_Go p e below P (T.setTop (mkF m pc Ls st0)) := by
  refine own_callQ2 X hx hZ hown w1 w7 w5 w8 w3 w4 E hy hM hpd hlen eT hml hst hW hf hl hc hs hd hq fun v T' L X' hQ => ?_
  obtain ⟨rfl, eh, rfl⟩ := hQ
  rw [List.append_nil] at X'
  exact K T' X' eh
theorem own_callUP (X : Stand p l e R s m args below meth c T locs cells slots) (hx : p.tables.exec = Jvm.exec) {a : Addr} {C : String} {Z : State} {a0 : Array Value} {h : Heap} {own : String} {index : Nat} {y : MethodName} {bytes : ByteArray} {maxL : Nat} {ret : Option FieldType} {W : Nat} {argsL : List Value} {fr lo : Nat} {w : Value} {ps : List FieldType} {r : Option FieldType} {st0 : List Value} (hZ : Z.Warmed39 s.vm) (hown : s.vm.findClass own = some m.cls) (w1 : (Cond.methodLink own index y).before a0 Z = true) (w2 : (Cond.sameMethod y.cls y.cls y.name y.desc).before a0 Z = true) (w3 : (Cond.instanceMethod y).before a0 Z = true) (w5 : (Cond.superclass own y.cls).before a0 Z = true) (wz : (Cond.initialized y.cls).before a0 Z = true) (w4 : (Cond.code y bytes maxL ret).before a0 Z = true) (E : Exa Z h a C) (hn : y.name ≠ "<init>") (hy : y.cls ≠ "java/lang/invoke/MethodHandle" ∧ y.cls ≠ "java/lang/invoke/VarHandle") (hM : MetFree l y (head1 [Cond.code y bytes maxL ret] ({ frames := fr, cells := 0, slots := 0, locals := lo } : Room)) (fun aa U => aa = (.ref a :: argsL).toArray ∧ Z.Warmed39 U.vm ∧ U.heap = h) (fun _ _ _ _ _ => True) (fun _ U o U' => ∃ v L, o = .returned v ∧ own_P w h v U'.heap L ∧ FrameEnd U o U' L 0 0)) (hpd : parseMethodDescriptor y.desc = some ⟨ps, r⟩) (hlen : argsL.length = ps.length) (eT : T.heap = h) (hml : Ls.size = c.maxLocals) (hst : st0 = argsL.reverse ++ .ref a :: st) (hW : (st.map fun v => v.category).sum ≤ W) (hf : fr + 1 ≤ R.frames) (hl : W + (maxL + 11) + lo ≤ R.locals) (hc : cells ≤ R.cells) (hs : slots ≤ R.slots) (hd : decode c.code pc = .ok (.invokespecial index, 3)) (hq : pc + 3 = q) (K : ∀ T', Stand p l e R s m args below meth c T' locs cells slots → T'.heap = h → own_Go p e below P (T'.setTop (mkF m q Ls (w :: st)))) : own_Go p e below P (T.setTop (mkF m pc Ls st0)) := by
  refine own_callU X hx hZ hown w1 w2 w3 w5 wz w4 E hn hy hM hpd hlen eT hml hst hW hf hl hc hs hd hq fun v T' L X' hQ => ?_
  obtain ⟨rfl, eh, rfl⟩ := hQ
  rw [List.append_nil] at X'
  exact K T' X' eh
def own_W2 (s : State) (kc ks : Nat) (Q : Option Value → State → List Loc → Prop) (o : Outcome) (t : State) : Prop := ∃ v L, o = .returned v ∧ Q v t L ∧ ReturnedEndW s o t L kc ks
theorem own_EW2 {Q2 : Option Value → State → List Loc → Prop} (f : ∀ v (t : State) L, s.WarmedH t.vm → Q v t.heap L → Q2 v t L) {o : Outcome} {t : State} (h : own_E s kc ks Q o t) : own_W2 s kc ks Q2 o t := by
  obtain ⟨v, L, h1, h2, h3⟩ := h; exact ⟨v, L, h1, f v t L h3.2.1 h2, wide h3⟩
theorem own_EW2' {Q2 : Option Value → State → List Loc → Prop} {vm1 : Vm} {k1 : Nat} (hS : s.Since vm1 k1) (f : ∀ v (t : State) L, (s.setVm vm1).WarmedH t.vm → Q v t.heap L → Q2 v t L ∧ k1 ≤ t.heap.size) {o : Outcome} {t : State} (h : own_E (s.setVm vm1) kc ks Q o t) : own_W2 s kc ks Q2 o t := by
  obtain ⟨v, L, h1, h2, h3, h4, h5⟩ := h
  obtain ⟨f1, hk⟩ := f v t L h4 h2
  have S := State.Since.trans hS (h4.since t.heap.size) hk
  exact ⟨v, L, h1, f1, h3, S.1, S.2, h5.setVm s.vm⟩
theorem own_backW {Z : State} {a0 : Array Value} {h : Heap} {y : MethodName} {bytes : ByteArray} {maxL : Nat} {ret : Option FieldType} {rm : Room} {len W : Nat} {as' : Array Value} {PV : State → Prop} {Qs : Option Value → State → List Loc → Prop} (hM : MetFree l y (head1 [Cond.code y bytes maxL ret] rm) (fun aa U => aa = as' ∧ (Z.Warmed39 U.vm ∧ PV U) ∧ U.heap = h) (fun _ _ _ _ _ => True) (fun _ U o U' => ∃ v L, o = .returned v ∧ Qs v U' L ∧ ReturnedEndW U o U' L rm.cells rm.slots)) (hZ : Z.Warmed39 s.vm) (hI : ∀ U : State, s.WarmedH U.vm → U.heap = h → PV U) (wc : (Cond.code y bytes maxL ret).before a0 Z = true) (wz : (Cond.initialized y.cls).before a0 Z = true) (hf : rm.frames + 1 ≤ R.frames) (hl : W + (maxL + 11) + rm.locals ≤ R.locals) : BackS l R p e below s args y len W (fun A a => a = as' ∧ A.U.heap = h ∧ A.cells + rm.cells ≤ R.cells ∧ A.slots + rm.slots ≤ R.slots) (fun A _ v B => ∃ (L : List Loc) (U' : State), U'.vm = B.U.vm ∧ U'.heap = B.U.heap ∧ Qs v U' L ∧ B.locs = A.locs ++ L ∧ B.cells = A.cells + rm.cells ∧ B.slots = A.slots + rm.slots) :=
  BackS.of_freeW (bytes := bytes) (maxL := maxL) (ret := ret) (E := fun _ _ o t L k n => k = rm.cells ∧ n = rm.slots ∧ ∃ v, o = .returned v ∧ Qs v t L) hM hf hl
    (fun m meth c A a Y hp => have hU : Z.Warmed39 A.U.vm := wtrans hZ Y.warmed
      ⟨by show (Cond.and _ .tt).before a A.U = true; rw [Cond.before_and, mv hU wc]; rfl, mv hU wc, mv hU wz, hp.2.2.1, hp.2.2.2⟩)
    (fun m meth c A a g mk Y hp => ⟨hp.1, ⟨wtrans hZ Y.warmed, hI _ Y.warmed hp.2.1⟩, hp.2.1⟩) (fun _ _ _ _ _ _ _ _ _ => trivial)
    (fun _ _ _ _ ⟨v, L, h1, h2, h3⟩ => ⟨L, _, _, h3, rfl, rfl, v, h1, h2⟩)
    (fun m meth c A a g mk v t L k n Y hp _ _ ⟨e1, e2, v', e3, e4⟩ => by cases e3; subst e1 e2; exact ⟨L, t, rfl, rfl, e4, rfl, rfl, rfl⟩)
theorem own_callSW (X : Stand p l e R s m args below meth c T locs cells slots) (hx : p.tables.exec = Jvm.exec) {Z : State} {a0 : Array Value} {h : Heap} {own : String} {index : Nat} {y : MethodName} {bytes : ByteArray} {maxL : Nat} {ret : Option FieldType} {rm : Room} {W : Nat} {argsL : List Value} {PV : State → Prop} {Qs : Option Value → State → List Loc → Prop} {ps : List FieldType} {r : Option FieldType} {st0 : List Value} (hZ : Z.Warmed39 s.vm) (hown : s.vm.findClass own = some m.cls) (hI : ∀ U : State, s.WarmedH U.vm → U.heap = h → PV U) (w1 : (Cond.methodLink own index y).before a0 Z = true) (w2 : (Cond.static y).before a0 Z = true) (w3 : (Cond.initialized y.cls).before a0 Z = true) (w4 : (Cond.code y bytes maxL ret).before a0 Z = true) (hy : y.cls ≠ "java/lang/invoke/MethodHandle" ∧ y.cls ≠ "java/lang/invoke/VarHandle") (hM : MetFree l y (head1 [Cond.code y bytes maxL ret] rm) (fun aa U => aa = argsL.toArray ∧ (Z.Warmed39 U.vm ∧ PV U) ∧ U.heap = h) (fun _ _ _ _ _ => True) (fun _ U o U' => ∃ v L, o = .returned v ∧ Qs v U' L ∧ ReturnedEndW U o U' L rm.cells rm.slots)) (hpd : parseMethodDescriptor y.desc = some ⟨ps, r⟩) (hlen : argsL.length = ps.length) (eT : T.heap = h) (hml : Ls.size = c.maxLocals) (hst : st0 = argsL.reverse ++ st) (hW : (st.map fun v => v.category).sum ≤ W) (hf : rm.frames + 1 ≤ R.frames) (hl : W + (maxL + 11) + rm.locals ≤ R.locals) (hc : cells + rm.cells ≤ R.cells) (hs : slots + rm.slots ≤ R.slots) (hd : decode c.code pc = .ok (.invokestatic index, 3)) (hq : pc + 3 = q) (K : ∀ v T' U' L, Stand p l e R (s.setVm T'.vm) m args below meth c T' (locs ++ L) (cells + rm.cells) (slots + rm.slots) → s.Since T'.vm T'.heap.size → Z.Warmed39 (s.setVm T'.vm).vm → (s.setVm T'.vm).vm.findClass own = some m.cls → U'.vm = T'.vm → U'.heap = T'.heap → Qs v U' L → own_Go p e below P (T'.setTop (mkF m q Ls (v.toList ++ st)))) : own_Go p e below P (T.setTop (mkF m pc Ls st0)) := by
  subst hq hst
  obtain ⟨v, _, ⟨T', L', k', n'⟩, -, X', S', -, ⟨Lc, U', u1, u2, hQ, l', y', z'⟩, st'⟩ := callSS X hx hown (mvT hZ w1) (mvT hZ w2) (mvT hZ w3) (mvT hZ w4) hy (own_backW (W := W) hM hZ hI w4 w3 hf hl) (g := mkF m pc Ls (argsL.reverse ++ st)) rfl hml (argsL := argsL) (rest := st) (lenOf hpd hlen) rfl (by show 2 * 0 + _ ≤ _; omega) hd (fun _ _ => ⟨rfl, eT, hc, hs⟩)
  dsimp only [Pt.U, Pt.locs, Pt.cells, Pt.slots] at X' l' y' z' st' u1 u2 S'
  subst l' y' z'
  exact own_via (fun t => st'.trans) (K v T' U' Lc X' S' (State.Warmed39.trans (t := s) hZ S'.1) (by rw [show (s.setVm T'.vm).vm = T'.vm from rfl, S'.1.alike.findClass]; exact hown) u1 u2 hQ)
theorem own_callCW (X : Stand p l e R s m args below meth c T locs cells slots) (hx : p.tables.exec = Jvm.exec) {a : Addr} {Z : State} {a0 : Array Value} {h : Heap} {own : String} {index : Nat} {y : MethodName} {bytes : ByteArray} {maxL : Nat} {rm : Room} {W : Nat} {argsL : List Value} {PV : State → Prop} {Qs : Option Value → State → List Loc → Prop} {ps : List FieldType} {r : Option FieldType} {st0 : List Value} (hZ : Z.Warmed39 s.vm) (hown : s.vm.findClass own = some m.cls) (hI : ∀ U : State, s.WarmedH U.vm → U.heap = h → PV U) (hy1 : y.name = "<init>") (w1 : (Cond.methodLink own index y).before a0 Z = true) (w2 : (Cond.instanceMethod y).before a0 Z = true) (w3 : (Cond.initialized y.cls).before a0 Z = true) (w4 : (Cond.code y bytes maxL none).before a0 Z = true) (hy : y.cls ≠ "java/lang/invoke/MethodHandle" ∧ y.cls ≠ "java/lang/invoke/VarHandle") (hM : MetFree l y (head1 [Cond.code y bytes maxL none] rm) (fun aa U => aa = (.ref a :: argsL).toArray ∧ (Z.Warmed39 U.vm ∧ PV U) ∧ U.heap = h) (fun _ _ _ _ _ => True) (fun _ U o U' => ∃ v L, o = .returned v ∧ Qs v U' L ∧ ReturnedEndW U o U' L rm.cells rm.slots)) (hpd : parseMethodDescriptor y.desc = some ⟨ps, r⟩) (hlen : argsL.length = ps.length) (eT : T.heap = h) (hml : Ls.size = c.maxLocals) (hst : st0 = argsL.reverse ++ .ref a :: st) (hW : (st.map fun v => v.category).sum ≤ W) (hf : rm.frames + 1 ≤ R.frames) (hl : W + (maxL + 11) + rm.locals ≤ R.locals) (hc : cells + rm.cells ≤ R.cells) (hs : slots + rm.slots ≤ R.slots) (hd : decode c.code pc = .ok (.invokespecial index, 3)) (hq : pc + 3 = q) (K : ∀ v T' U' L, Stand p l e R (s.setVm T'.vm) m args below meth c T' (locs ++ L) (cells + rm.cells) (slots + rm.slots) → s.Since T'.vm T'.heap.size → Z.Warmed39 (s.setVm T'.vm).vm → (s.setVm T'.vm).vm.findClass own = some m.cls → U'.vm = T'.vm → U'.heap = T'.heap → Qs v U' L → own_Go p e below P (T'.setTop (mkF m q Ls (v.toList ++ st)))) : own_Go p e below P (T.setTop (mkF m pc Ls st0)) := by
  subst hq hst
  obtain ⟨v, _, ⟨T', L', k', n'⟩, -, X', S', -, ⟨Lc, U', u1, u2, hQ, l', y', z'⟩, st'⟩ := X.specialBackS hx hy1 hown (mvT hZ w1) (mvT hZ w2) (mvT hZ w4) hy (own_backW (W := W) hM hZ hI w4 w3 hf hl) (g := mkF m pc Ls (argsL.reverse ++ .ref a :: st)) rfl hml (Steps.refl _) (a := a) (argsL := argsL) (rest := st) (lenOf hpd hlen) rfl (by show 2 * 0 + _ ≤ _; omega) hd (fun _ _ => ⟨rfl, eT, hc, hs⟩)
  dsimp only [Pt.U, Pt.locs, Pt.cells, Pt.slots] at X' l' y' z' st' u1 u2 S'
  subst l' y' z'
  exact own_via (fun t => st'.trans) (K v T' U' Lc X' S' (State.Warmed39.trans (t := s) hZ S'.1) (by rw [show (s.setVm T'.vm).vm = T'.vm from rfl, S'.1.alike.findClass]; exact hown) u1 u2 hQ)
theorem own_ldcL {Z : State} {a0 : Array Value} {h : Heap} {vm0 : Vm} {k0 : Nat} {Ts : List String} (X : Stand p l e R (s.setVm vm0) m args below meth c T locs cells slots) (hx : p.tables.exec = Jvm.exec) (hZ : Z.Warmed39 (s.setVm vm0).vm) {own : String} {i : Nat} (hown : (s.setVm vm0).vm.findClass own = some m.cls) {text : String} {n : Nat} (w : (Cond.stringLink own i text).before a0 Z = true) (wS : ∀ a ∈ Bundle.stringAtoms, a.before a0 Z = true) (eT : T.heap = h) (hS : s.Since vm0 k0) (hk : k0 ≤ h.size) (N : Fr s.heap.size locs) (hkeep : ∀ (b : Addr) (cl : Cell), Z.heap[b]? = some cl → s.heap[b]? = some cl) (I : IB Z vm0 Ts) (hnot : text ∉ Ts) (hh : Jvm.Lit.constHeld Z own i) (hcw : Jvm.Lit.compactW.before a0 Z = true) {vs : List Value} {z : Int32} (ht : (∀ c ∈ text.toList, c.toNat < 256) ∧ text.toList.map (fun c => Value.int (Jvm.Lit.byteI c.toNat.toUInt16)) = vs) (hz : ¬ z < 0) (hl : z.toNatClampNeg = vs.length) (hn : 4 * text.toList.length ≤ n) (hbig : n ≤ 536870912) (hc : cells + 2 ≤ R.cells) (hl' : slots + (n + 4) ≤ R.slots) (hd : decode c.code pc = .ok (.ldc i, 2)) (hq : pc + 2 = q) (K : ∀ a T' h' k1 b, Stand p l e R (s.setVm T'.vm) m args below meth c T' locs (cells + 2) (slots + (n + 4)) → T'.heap = h' → Ext h h' → s.Since T'.vm k1 → k1 ≤ h'.size → Z.Warmed39 (s.setVm T'.vm).vm → (s.setVm T'.vm).vm.findClass own = some m.cls → Exa Z h' a "java/lang/String" → Fld Z h' a "java/lang/String" "coder" "B" (.int 0) → Fld Z h' a "java/lang/String" "value" "[B" (.ref b) → own_A Z h' b .byte vs → Lit (s.setVm T'.vm) own i a → own_Go p e below P (T'.setTop (mkF m q Ls (.ref a :: st)))) : own_Go p e below P (T.setTop (mkF m pc Ls st)) := by
  subst hq
  obtain ⟨a, T', h', k1, b, kk, X', e', E', S', kb, W', o', g1, g2, g3, g4, -, -, I', L', st'⟩ := ldcSVL (s := s) (vm0 := vm0) X hx hZ hown w wS eT hS hk N hkeep I hnot hh hcw ht hz hl (g := mkF m pc Ls st) rfl hd hn hbig hc hl'
  exact own_via (fun t => st' t) (K a T' h' k1 b X' e' E' S' kb W' o' g1 g2 g3 (own_A.of_arv g4 hl) L')
theorem own_ldcAg {Z : State} {a0 : Array Value} {vm0 : Vm} (X : Stand p l e R (s.setVm vm0) m args below meth c T locs cells slots) (hx : p.tables.exec = Jvm.exec) (hZ : Z.Warmed39 (s.setVm vm0).vm) {own : String} {i : Nat} (hown : (s.setVm vm0).vm.findClass own = some m.cls) {text : String} {a : Addr} (w : (Cond.stringLink own i text).before a0 Z = true) (L : Lit (s.setVm vm0) own i a) (hd : decode c.code pc = .ok (.ldc i, 2)) (hq : pc + 2 = q) (K : own_Go p e below P (T.setTop (mkF m q Ls (.ref a :: st)))) : own_Go p e below P (T.setTop (mkF m pc Ls st)) := by
  subst hq
  exact own_via (fun t => ldcAgain (s := s) (vm0 := vm0) X hx hZ hown w L (g := mkF m pc Ls st) rfl hd t) K
end OwnKitS

abbrev own_M (l : Launch) (y : MethodName) (code : ByteArray) (n : Nat) (ret : Option FieldType) (ws : List Jvm.Cond) (rm : Room) (as : Array Value) (Z : State) (h0 : Heap) (Q : Option Value → Heap → List Loc → Prop) : Prop := MetFree l y (head1 (Jvm.Cond.code y code n ret :: ws) rm) (fun a U => a = as ∧ Z.Warmed39 U.vm ∧ U.heap = h0) (fun _ _ _ _ _ => True) (fun _ U o U' => ∃ v L, o = .returned v ∧ Q v U'.heap L ∧ FrameEnd U o U' L rm.cells rm.slots)
theorem own_h {a0 : Array Value} {Z : State} (hw : ∀ d ∈ tables_1, d.before a0 Z = true) (i : Nat) {d : Jvm.Cond} (h : tables_1[i]? = some d) : d.before a0 Z = true := hw d (List.mem_of_getElem? h)
theorem own_prol {l : Launch} {y : MethodName} {code : ByteArray} {n : Nat} {ret : Option FieldType} {ws : List Jvm.Cond} {rm : Room} {as : Array Value} {Z : State} {h0 : Heap} {Q : Option Value → Heap → List Loc → Prop} {L0 : Array Slot} {C : String} (hC : y.cls = C) (hpl : plainName C = true) (hef : ∀ m, entryFrame m as n = mkF m 0 L0 [])
    (K : ∀ (p : Program) (e : Env) (s : State) (m : MethodId) (below : List Frame) (meth : Method) (c : Code) (s₁ : State), p.tables.exec = Jvm.exec → c.code = code → c.maxLocals = n → s.vm.findClass C = some m.cls → meth.name = y.name → meth.locks = false → meth.sig.returnType = ret → Stand p l e rm s m as below meth c s₁ [] 0 0 → s₁.heap = h0 → Z.Warmed39 s.vm → own_Go p e below (own_E s rm.cells rm.slots Q) (s₁.setTop (mkF m 0 L0 []))) : own_M l y code n ret ws rm as Z h0 Q := by
  subst hC
  refine MetFree.of_bodySF (plainFor_of_name hpl) hisR ?_
  intro p e s m args below meth c s₁ Bd hml0 hP hK
  obtain ⟨rfl, hZ, hh⟩ := hP
  have q := K p e s m below meth c s₁ Bd.exec Bd.bytes hml0 (findClass_of_methodNamed Bd.named) (name_of_methodNamed Bd.named Bd.method).1 (BodyLoose.notSynchronized Bd) Bd.returns (Stand.of_body Bd) (by rw [← hh, Bd.state]; rfl) hZ
  rw [← hef] at q
  exact q

def own_G (Z : State) (h : Heap) (cs : Int32) (G : Value) : Prop := (¬ cs = (0 : Int32)) ∧ G.isRef = true ∧ Sta Z h "java/lang/String" "COMPACT_STRINGS" "Z" (.int cs) ∧ Sta Z h "jdk/internal/util/Preconditions" "SIOOBE_FORMATTER" "Ljava/util/function/BiFunction;" G ∧ Sta Z h "java/lang/StringUTF16" "$assertionsDisabled" "Z" (.int (1 : Int32)) ∧ Sta Z h "java/lang/StringUTF16" "HI_BYTE_SHIFT" "I" (.int (0 : Int32)) ∧ Sta Z h "java/lang/StringUTF16" "LO_BYTE_SHIFT" "I" (.int (8 : Int32))
theorem own_G.ext {Z : State} {h h' : Heap} {cs : Int32} {G : Value} (F : own_G Z h cs G) (E : Ext h h') : own_G Z h' cs G := ⟨F.1, F.2.1, Sta.ext E F.2.2.1, Sta.ext E F.2.2.2.1, Sta.ext E F.2.2.2.2.1, Sta.ext E F.2.2.2.2.2.1, Sta.ext E F.2.2.2.2.2.2⟩
theorem own_G.wr {Z : State} {h h' : Heap} {cs : Int32} {G : Value} {a : Addr} {sl : Nat} {w : Value} (F : own_G Z h cs G) (W : Wr h h' a sl w) : own_G Z h' cs G := ⟨F.1, F.2.1, Sta.wr W F.2.2.1, Sta.wr W F.2.2.2.1, Sta.wr W F.2.2.2.2.1, Sta.wr W F.2.2.2.2.2.1, Sta.wr W F.2.2.2.2.2.2⟩
theorem own_G.keep {Z : State} {h h' : Heap} {cs : Int32} {G : Value} {ws : List Addr} (F : own_G Z h cs G) (K : Keep h h' ws) (q : ∀ a ∈ ws, ∀ c : Cell, h[a]? = some c → c.vm.isStatics = false) : own_G Z h' cs G := ⟨F.1, F.2.1, own_staKeep F.2.2.1 K q, own_staKeep F.2.2.2.1 K q, own_staKeep F.2.2.2.2.1 K q, own_staKeep F.2.2.2.2.2.1 K q, own_staKeep F.2.2.2.2.2.2 K q⟩
theorem own_pn0 : plainName "java/lang/StringLatin1" = true := by first | (simp [plainName, overriddenIn]; done) | decide +kernel
theorem own_ef29 (m : MethodId) (p1 : Int32) : entryFrame m #[.int p1] 1 = mkF m 0 #[.val (.int p1)] [] := by first | (simp [entryFrame, mkF, argsToLocals, Value.category]; done) | rfl
theorem own_d29_0 : decode jdk_43_method_3_code 0 = .ok (.iload_n 0, 1) := by decide +kernel
theorem own_d29_1 : decode jdk_43_method_3_code 1 = .ok (.sipush 255, 3) := by decide +kernel
theorem own_d29_4 : decode jdk_43_method_3_code 4 = .ok (.if_icmp .gt 7, 3) := by decide +kernel
theorem own_d29_7 : decode jdk_43_method_3_code 7 = .ok (.iconst 1, 1) := by decide +kernel
theorem own_d29_8 : decode jdk_43_method_3_code 8 = .ok (.goto 4, 3) := by decide +kernel
theorem own_d29_12 : decode jdk_43_method_3_code 12 = .ok (.ireturn, 1) := by decide +kernel
def own_f29_L (p1 : Int32) : Int32 := (1 : Int32)
set_option maxRecDepth 65536 in
set_option maxHeartbeats 40000000 in
theorem rm29_L (l : Launch) (Z : State) (a0 : Array Value) (hw : ∀ d ∈ tables_1, d.before a0 Z = true) (ws : List Jvm.Cond) (p1 : Int32) (h0 : Heap)  (kn0 : ¬ ((255 : Int32) < p1))  :
    own_M l (⟨"java/lang/StringLatin1", "canEncode", "(C)Z"⟩ : MethodName) jdk_43_method_3_code 1 (some .boolean) ws ({ frames := 0, cells := 0, slots := 0, locals := 0 } : Room) #[.int p1] Z h0 (own_P (.int (own_f29_L p1)) h0) := by
  refine own_prol (C := "java/lang/StringLatin1") rfl own_pn0 (fun m => own_ef29 m ..) ?_
  intro p e s m below meth c s₁ hx hby hml hown hnm hlk hret X0 e0 hZ
  refine own_iloadN X0 hx (hb hby own_d29_0) (q := 1) rfl rfl ?_
  refine own_sipush X0 hx (v := (255 : Int32)) (hb hby own_d29_1) (q := 4) rfl rfl ?_
  refine own_icmpP X0 hx (hb hby own_d29_4) (cd := .gt) (x := p1) (y := (255 : Int32)) (pt := 11) (q := 7) (by decide) (by decide) rfl rfl (fun h => False.elim ((kn0 : ¬ ((255 : Int32) < p1)) h)) (fun _ => ?_)
  refine own_iconst X0 hx (v := (1 : Int32)) (hb hby own_d29_7) (q := 8) rfl rfl ?_
  refine own_goto X0 hx (hb hby own_d29_8) (q := 12) (by decide) (by decide) ?_
  refine own_retN X0 hx hlk (t := .boolean) (by simp) hret (hb hby own_d29_12) ?_ (by decide) (by decide)
  have r : own_f29_L p1 = (1 : Int32) := by rw [own_f29_L]
  exact ⟨by rw [r] <;> rfl, e0, rfl⟩
theorem own_d29_11 : decode jdk_43_method_3_code 11 = .ok (.iconst 0, 1) := by decide +kernel
def own_f29_H (p1 : Int32) : Int32 := (0 : Int32)
set_option maxRecDepth 65536 in
set_option maxHeartbeats 40000000 in
theorem rm29_H (l : Launch) (Z : State) (a0 : Array Value) (hw : ∀ d ∈ tables_1, d.before a0 Z = true) (ws : List Jvm.Cond) (p1 : Int32) (h0 : Heap)  (kn0 : (255 : Int32) < p1)  :
    own_M l (⟨"java/lang/StringLatin1", "canEncode", "(C)Z"⟩ : MethodName) jdk_43_method_3_code 1 (some .boolean) ws ({ frames := 0, cells := 0, slots := 0, locals := 0 } : Room) #[.int p1] Z h0 (own_P (.int (own_f29_H p1)) h0) := by
  refine own_prol (C := "java/lang/StringLatin1") rfl own_pn0 (fun m => own_ef29 m ..) ?_
  intro p e s m below meth c s₁ hx hby hml hown hnm hlk hret X0 e0 hZ
  refine own_iloadN X0 hx (hb hby own_d29_0) (q := 1) rfl rfl ?_
  refine own_sipush X0 hx (v := (255 : Int32)) (hb hby own_d29_1) (q := 4) rfl rfl ?_
  refine own_icmpP X0 hx (hb hby own_d29_4) (cd := .gt) (x := p1) (y := (255 : Int32)) (pt := 11) (q := 7) (by decide) (by decide) rfl rfl (fun _ => ?_) (fun h => False.elim (h (kn0 : (255 : Int32) < p1)))
  refine own_iconst X0 hx (v := (0 : Int32)) (hb hby own_d29_11) (q := 12) rfl rfl ?_
  refine own_retN X0 hx hlk (t := .boolean) (by simp) hret (hb hby own_d29_12) ?_ (by decide) (by decide)
  have r : own_f29_H p1 = (0 : Int32) := by rw [own_f29_H]
  exact ⟨by rw [r] <;> rfl, e0, rfl⟩
theorem own_pn2 : plainName "jdk/internal/util/Preconditions" = true := by first | (simp [plainName, overriddenIn]; done) | decide +kernel
theorem own_ef24_null (m : MethodId) (p1 : Int32) (p2 : Int32) : entryFrame m #[.int p1, .int p2, .null] 3 = mkF m 0 #[.val (.int p1), .val (.int p2), .val .null] [] := by first | (simp [entryFrame, mkF, argsToLocals, Value.category]; done) | rfl
theorem own_d24_0 : decode jdk_41_method_11_code 0 = .ok (.iload_n 0, 1) := by decide +kernel
theorem own_d24_1 : decode jdk_41_method_11_code 1 = .ok (.ifCond .lt 8, 3) := by decide +kernel
theorem own_d24_4 : decode jdk_41_method_11_code 4 = .ok (.iload_n 0, 1) := by decide +kernel
theorem own_d24_5 : decode jdk_41_method_11_code 5 = .ok (.iload_n 1, 1) := by decide +kernel
theorem own_d24_6 : decode jdk_41_method_11_code 6 = .ok (.if_icmp .lt 10, 3) := by decide +kernel
theorem own_d24_16 : decode jdk_41_method_11_code 16 = .ok (.iload_n 0, 1) := by decide +kernel
theorem own_d24_17 : decode jdk_41_method_11_code 17 = .ok (.ireturn, 1) := by decide +kernel
def own_f24_n (p1 : Int32) (p2 : Int32) : Int32 := p1
set_option maxRecDepth 65536 in
set_option maxHeartbeats 40000000 in
theorem rm24_n (l : Launch) (Z : State) (a0 : Array Value) (hw : ∀ d ∈ tables_1, d.before a0 Z = true) (ws : List Jvm.Cond) (p1 : Int32) (p2 : Int32) (h0 : Heap)  (kn0 : ¬ (p1 < (0 : Int32))) (kn1 : p1 < p2)  :
    own_M l (⟨"jdk/internal/util/Preconditions", "checkIndex", "(IILjava/util/function/BiFunction;)I"⟩ : MethodName) jdk_41_method_11_code 3 (some .int) ws ({ frames := 0, cells := 0, slots := 0, locals := 0 } : Room) #[.int p1, .int p2, .null] Z h0 (own_P (.int (own_f24_n p1 p2)) h0) := by
  refine own_prol (C := "jdk/internal/util/Preconditions") rfl own_pn2 (fun m => own_ef24_null m ..) ?_
  intro p e s m below meth c s₁ hx hby hml hown hnm hlk hret X0 e0 hZ
  refine own_iloadN X0 hx (hb hby own_d24_0) (q := 1) rfl rfl ?_
  refine own_if0P X0 hx (hb hby own_d24_1) (cd := .lt) (x := p1) (pt := 9) (q := 4) (by decide) (by decide) rfl rfl (fun h => False.elim ((kn0 : ¬ (p1 < (0 : Int32))) h)) (fun _ => ?_)
  refine own_iloadN X0 hx (hb hby own_d24_4) (q := 5) rfl rfl ?_
  refine own_iloadN X0 hx (hb hby own_d24_5) (q := 6) rfl rfl ?_
  refine own_icmpP X0 hx (hb hby own_d24_6) (cd := .lt) (x := p1) (y := p2) (pt := 16) (q := 9) (by decide) (by decide) rfl rfl (fun _ => ?_) (fun h => False.elim (h (kn1 : p1 < p2)))
  refine own_iloadN X0 hx (hb hby own_d24_16) (q := 17) rfl rfl ?_
  refine own_retI X0 hx hlk hret (hb hby own_d24_17) ?_ (by decide) (by decide)
  have r : own_f24_n p1 p2 = p1 := by rw [own_f24_n]
  exact ⟨by rw [r] <;> rfl, e0, rfl⟩
theorem own_ef24 (m : MethodId) (p1 : Int32) (p2 : Int32) (a3 : Addr) : entryFrame m #[.int p1, .int p2, .ref a3] 3 = mkF m 0 #[.val (.int p1), .val (.int p2), .val (.ref a3)] [] := by first | (simp [entryFrame, mkF, argsToLocals, Value.category]; done) | rfl

def own_f24_r (p1 : Int32) (p2 : Int32) : Int32 := p1
set_option maxRecDepth 65536 in
set_option maxHeartbeats 40000000 in
theorem rm24_r (l : Launch) (Z : State) (a0 : Array Value) (hw : ∀ d ∈ tables_1, d.before a0 Z = true) (ws : List Jvm.Cond) (p1 : Int32) (p2 : Int32) (a3 : Addr) (h0 : Heap)  (kn0 : ¬ (p1 < (0 : Int32))) (kn1 : p1 < p2)  :
    own_M l (⟨"jdk/internal/util/Preconditions", "checkIndex", "(IILjava/util/function/BiFunction;)I"⟩ : MethodName) jdk_41_method_11_code 3 (some .int) ws ({ frames := 0, cells := 0, slots := 0, locals := 0 } : Room) #[.int p1, .int p2, .ref a3] Z h0 (own_P (.int (own_f24_r p1 p2)) h0) := by
  refine own_prol (C := "jdk/internal/util/Preconditions") rfl own_pn2 (fun m => own_ef24 m ..) ?_
  intro p e s m below meth c s₁ hx hby hml hown hnm hlk hret X0 e0 hZ
  refine own_iloadN X0 hx (hb hby own_d24_0) (q := 1) rfl rfl ?_
  refine own_if0P X0 hx (hb hby own_d24_1) (cd := .lt) (x := p1) (pt := 9) (q := 4) (by decide) (by decide) rfl rfl (fun h => False.elim ((kn0 : ¬ (p1 < (0 : Int32))) h)) (fun _ => ?_)
  refine own_iloadN X0 hx (hb hby own_d24_4) (q := 5) rfl rfl ?_
  refine own_iloadN X0 hx (hb hby own_d24_5) (q := 6) rfl rfl ?_
  refine own_icmpP X0 hx (hb hby own_d24_6) (cd := .lt) (x := p1) (y := p2) (pt := 16) (q := 9) (by decide) (by decide) rfl rfl (fun _ => ?_) (fun h => False.elim (h (kn1 : p1 < p2)))
  refine own_iloadN X0 hx (hb hby own_d24_16) (q := 17) rfl rfl ?_
  refine own_retI X0 hx hlk hret (hb hby own_d24_17) ?_ (by decide) (by decide)
  have r : own_f24_r p1 p2 = p1 := by rw [own_f24_r]
  exact ⟨by rw [r] <;> rfl, e0, rfl⟩
theorem own_pd0 : parseMethodDescriptor "(IILjava/util/function/BiFunction;)I" = some ⟨[.int, .int, (.object "java/util/function/BiFunction")], some .int⟩ := by decide +kernel
theorem own_pn5 : plainName "java/lang/String" = true := by first | (simp [plainName, overriddenIn]; done) | decide +kernel
theorem own_ef23 (m : MethodId) (p1 : Int32) (p2 : Int32) : entryFrame m #[.int p1, .int p2] 2 = mkF m 0 #[.val (.int p1), .val (.int p2)] [] := by first | (simp [entryFrame, mkF, argsToLocals, Value.category]; done) | rfl
theorem own_d23_0 : decode jdk_42_method_155_code 0 = .ok (.iload_n 0, 1) := by decide +kernel
theorem own_d23_1 : decode jdk_42_method_155_code 1 = .ok (.iload_n 1, 1) := by decide +kernel
theorem own_d23_2 : decode jdk_42_method_155_code 2 = .ok (.getstatic 1053, 3) := by decide +kernel
theorem own_d23_5 : decode jdk_42_method_155_code 5 = .ok (.invokestatic 1059, 3) := by decide +kernel
theorem own_d23_8 : decode jdk_42_method_155_code 8 = .ok (.pop, 1) := by decide +kernel
theorem own_d23_9 : decode jdk_42_method_155_code 9 = .ok (.return_, 1) := by decide +kernel
set_option maxRecDepth 65536 in
set_option maxHeartbeats 40000000 in
theorem rm23_n (l : Launch) (Z : State) (a0 : Array Value) (hw : ∀ d ∈ tables_1, d.before a0 Z = true) (ws : List Jvm.Cond) (p1 : Int32) (p2 : Int32) (h0 : Heap) (S0p : Sta Z h0 "jdk/internal/util/Preconditions" "SIOOBE_FORMATTER" "Ljava/util/function/BiFunction;" (.null)) (kn0 : ¬ (p1 < (0 : Int32))) (kn1 : p1 < p2)  :
    own_M l (⟨"java/lang/String", "checkIndex", "(II)V"⟩ : MethodName) jdk_42_method_155_code 2 none ws ({ frames := 1, cells := 0, slots := 0, locals := 14 } : Room) #[.int p1, .int p2] Z h0 (own_V h0) := by
  refine own_prol (C := "java/lang/String") rfl own_pn5 (fun m => own_ef23 m ..) ?_
  intro p e s m below meth c s₁ hx hby hml hown hnm hlk hret X0 e0 hZ
  refine own_iloadN X0 hx (hb hby own_d23_0) (q := 1) rfl rfl ?_
  refine own_iloadN X0 hx (hb hby own_d23_1) (q := 2) rfl rfl ?_
  refine own_getS X0 hx hZ hown (own_h hw 129 rfl) Via.refl e0 S0p (hb hby own_d23_2) (q := 5) rfl (fun T1 X2 e3 => ?_)
  refine own_callSP X2 hx hZ hown (own_h hw 131 rfl) (own_h hw 132 rfl) (own_h hw 130 rfl) (own_h hw 133 rfl) (by decide) (rm24_n l Z a0 hw [] p1 p2 h0  kn0 kn1) own_pd0 rfl e3 (by rw [hml]; rfl) (argsL := [.int p1, .int p2, .null]) (st := []) rfl (W := 0) (Nat.le_of_eq rfl) (by decide) (by decide) (by decide) (by decide) (hb hby own_d23_5) (q := 8) rfl (fun T4 X5 e6 => ?_)
  refine own_pop X5 hx (hb hby own_d23_8) (q := 9) rfl rfl ?_
  refine own_retV X5 hx hlk (rest := []) hret (hb hby own_d23_9) ?_ (by decide) (by decide)
  exact ⟨rfl, e6, rfl⟩

set_option maxRecDepth 65536 in
set_option maxHeartbeats 40000000 in
theorem rm23_r (l : Launch) (Z : State) (a0 : Array Value) (hw : ∀ d ∈ tables_1, d.before a0 Z = true) (ws : List Jvm.Cond) (p1 : Int32) (p2 : Int32) (g : Addr) (h0 : Heap) (S0p : Sta Z h0 "jdk/internal/util/Preconditions" "SIOOBE_FORMATTER" "Ljava/util/function/BiFunction;" (.ref g)) (kn0 : ¬ (p1 < (0 : Int32))) (kn1 : p1 < p2)  :
    own_M l (⟨"java/lang/String", "checkIndex", "(II)V"⟩ : MethodName) jdk_42_method_155_code 2 none ws ({ frames := 1, cells := 0, slots := 0, locals := 14 } : Room) #[.int p1, .int p2] Z h0 (own_V h0) := by
  refine own_prol (C := "java/lang/String") rfl own_pn5 (fun m => own_ef23 m ..) ?_
  intro p e s m below meth c s₁ hx hby hml hown hnm hlk hret X0 e0 hZ
  refine own_iloadN X0 hx (hb hby own_d23_0) (q := 1) rfl rfl ?_
  refine own_iloadN X0 hx (hb hby own_d23_1) (q := 2) rfl rfl ?_
  refine own_getS X0 hx hZ hown (own_h hw 129 rfl) Via.refl e0 S0p (hb hby own_d23_2) (q := 5) rfl (fun T7 X8 e9 => ?_)
  refine own_callSP X8 hx hZ hown (own_h hw 131 rfl) (own_h hw 132 rfl) (own_h hw 130 rfl) (own_h hw 133 rfl) (by decide) (rm24_r l Z a0 hw [] p1 p2 g h0  kn0 kn1) own_pd0 rfl e9 (by rw [hml]; rfl) (argsL := [.int p1, .int p2, .ref g]) (st := []) rfl (W := 0) (Nat.le_of_eq rfl) (by decide) (by decide) (by decide) (by decide) (hb hby own_d23_5) (q := 8) rfl (fun T10 X11 e12 => ?_)
  refine own_pop X11 hx (hb hby own_d23_8) (q := 9) rfl rfl ?_
  refine own_retV X11 hx hlk (rest := []) hret (hb hby own_d23_9) ?_ (by decide) (by decide)
  exact ⟨rfl, e12, rfl⟩
theorem rm23 (l : Launch) (Z : State) (a0 : Array Value) (hw : ∀ d ∈ tables_1, d.before a0 Z = true) (ws : List Jvm.Cond) (p1 : Int32) (p2 : Int32) (cs : Int32) (G : Value) (h0 : Heap) (G0p : own_G Z h0 cs G) (kn0 : ¬ (p1 < (0 : Int32))) (kn1 : p1 < p2)  :
    own_M l (⟨"java/lang/String", "checkIndex", "(II)V"⟩ : MethodName) jdk_42_method_155_code 2 none ws ({ frames := 1, cells := 0, slots := 0, locals := 14 } : Room) #[.int p1, .int p2] Z h0 (own_V h0) := by
  have S0p := G0p.2.2.2.1
  rcases ref_cases G0p.2.1 with rfl | ⟨g, rfl⟩
  · exact rm23_n l Z a0 hw ws p1 p2 h0 S0p kn0 kn1
  · exact rm23_r l Z a0 hw ws p1 p2 g h0 S0p kn0 kn1
theorem own_ef44_null (m : MethodId) (p1 : Int32) (p2 : Int32) (p3 : Int32) : entryFrame m #[.int p1, .int p2, .int p3, .null] 4 = mkF m 0 #[.val (.int p1), .val (.int p2), .val (.int p3), .val .null] [] := by first | (simp [entryFrame, mkF, argsToLocals, Value.category]; done) | rfl
theorem own_d44_0 : decode jdk_41_method_13_code 0 = .ok (.iload_n 2, 1) := by decide +kernel
theorem own_d44_1 : decode jdk_41_method_13_code 1 = .ok (.iload_n 0, 1) := by decide +kernel
theorem own_d44_2 : decode jdk_41_method_13_code 2 = .ok (.ior, 1) := by decide +kernel
theorem own_d44_3 : decode jdk_41_method_13_code 3 = .ok (.iload_n 1, 1) := by decide +kernel
theorem own_d44_4 : decode jdk_41_method_13_code 4 = .ok (.ior, 1) := by decide +kernel
theorem own_d44_5 : decode jdk_41_method_13_code 5 = .ok (.ifCond .lt 10, 3) := by decide +kernel
theorem own_d44_8 : decode jdk_41_method_13_code 8 = .ok (.iload_n 1, 1) := by decide +kernel
theorem own_d44_9 : decode jdk_41_method_13_code 9 = .ok (.iload_n 2, 1) := by decide +kernel
theorem own_d44_10 : decode jdk_41_method_13_code 10 = .ok (.iload_n 0, 1) := by decide +kernel
theorem own_d44_11 : decode jdk_41_method_13_code 11 = .ok (.isub, 1) := by decide +kernel
theorem own_d44_12 : decode jdk_41_method_13_code 12 = .ok (.if_icmp .le 11, 3) := by decide +kernel
theorem own_d44_23 : decode jdk_41_method_13_code 23 = .ok (.iload_n 0, 1) := by decide +kernel
theorem own_d44_24 : decode jdk_41_method_13_code 24 = .ok (.ireturn, 1) := by decide +kernel
def own_f44_n (p1 : Int32) (p2 : Int32) (p3 : Int32) : Int32 := p1
set_option maxRecDepth 65536 in
set_option maxHeartbeats 40000000 in
theorem rm44_n (l : Launch) (Z : State) (a0 : Array Value) (hw : ∀ d ∈ tables_1, d.before a0 Z = true) (ws : List Jvm.Cond) (p1 : Int32) (p2 : Int32) (p3 : Int32) (h0 : Heap)  (kn0 : ¬ (((p3 ||| p1) ||| p2) < (0 : Int32))) (kn1 : ¬ ((p3 - p1) < p2))  :
    own_M l (⟨"jdk/internal/util/Preconditions", "checkFromIndexSize", "(IIILjava/util/function/BiFunction;)I"⟩ : MethodName) jdk_41_method_13_code 4 (some .int) ws ({ frames := 0, cells := 0, slots := 0, locals := 0 } : Room) #[.int p1, .int p2, .int p3, .null] Z h0 (own_P (.int (own_f44_n p1 p2 p3)) h0) := by
  refine own_prol (C := "jdk/internal/util/Preconditions") rfl own_pn2 (fun m => own_ef44_null m ..) ?_
  intro p e s m below meth c s₁ hx hby hml hown hnm hlk hret X0 e0 hZ
  refine own_iloadN X0 hx (hb hby own_d44_0) (q := 1) rfl rfl ?_
  refine own_iloadN X0 hx (hb hby own_d44_1) (q := 2) rfl rfl ?_
  refine own_ior X0 hx (hb hby own_d44_2) (q := 3) rfl ?_
  refine own_iloadN X0 hx (hb hby own_d44_3) (q := 4) rfl rfl ?_
  refine own_ior X0 hx (hb hby own_d44_4) (q := 5) rfl ?_
  refine own_if0P X0 hx (hb hby own_d44_5) (cd := .lt) (x := (p3 ||| p1) ||| p2) (pt := 15) (q := 8) (by decide) (by decide) rfl rfl (fun h => False.elim ((kn0 : ¬ (((p3 ||| p1) ||| p2) < (0 : Int32))) h)) (fun _ => ?_)
  refine own_iloadN X0 hx (hb hby own_d44_8) (q := 9) rfl rfl ?_
  refine own_iloadN X0 hx (hb hby own_d44_9) (q := 10) rfl rfl ?_
  refine own_iloadN X0 hx (hb hby own_d44_10) (q := 11) rfl rfl ?_
  refine own_isub X0 hx (hb hby own_d44_11) (q := 12) rfl ?_
  refine own_icmpM X0 hx (hb hby own_d44_12) (cd := .le) (x := p2) (y := p3 - p1) (pt := 23) (q := 15) (by decide) (by decide) rfl rfl (fun _ => ?_) (fun h => False.elim ((kn1 : ¬ ((p3 - p1) < p2)) h))
  refine own_iloadN X0 hx (hb hby own_d44_23) (q := 24) rfl rfl ?_
  refine own_retI X0 hx hlk hret (hb hby own_d44_24) ?_ (by decide) (by decide)
  have r : own_f44_n p1 p2 p3 = p1 := by rw [own_f44_n]
  exact ⟨by rw [r] <;> rfl, e0, rfl⟩
theorem own_ef44 (m : MethodId) (p1 : Int32) (p2 : Int32) (p3 : Int32) (a4 : Addr) : entryFrame m #[.int p1, .int p2, .int p3, .ref a4] 4 = mkF m 0 #[.val (.int p1), .val (.int p2), .val (.int p3), .val (.ref a4)] [] := by first | (simp [entryFrame, mkF, argsToLocals, Value.category]; done) | rfl

def own_f44_r (p1 : Int32) (p2 : Int32) (p3 : Int32) : Int32 := p1
set_option maxRecDepth 65536 in
set_option maxHeartbeats 40000000 in
theorem rm44_r (l : Launch) (Z : State) (a0 : Array Value) (hw : ∀ d ∈ tables_1, d.before a0 Z = true) (ws : List Jvm.Cond) (p1 : Int32) (p2 : Int32) (p3 : Int32) (a4 : Addr) (h0 : Heap)  (kn0 : ¬ (((p3 ||| p1) ||| p2) < (0 : Int32))) (kn1 : ¬ ((p3 - p1) < p2))  :
    own_M l (⟨"jdk/internal/util/Preconditions", "checkFromIndexSize", "(IIILjava/util/function/BiFunction;)I"⟩ : MethodName) jdk_41_method_13_code 4 (some .int) ws ({ frames := 0, cells := 0, slots := 0, locals := 0 } : Room) #[.int p1, .int p2, .int p3, .ref a4] Z h0 (own_P (.int (own_f44_r p1 p2 p3)) h0) := by
  refine own_prol (C := "jdk/internal/util/Preconditions") rfl own_pn2 (fun m => own_ef44 m ..) ?_
  intro p e s m below meth c s₁ hx hby hml hown hnm hlk hret X0 e0 hZ
  refine own_iloadN X0 hx (hb hby own_d44_0) (q := 1) rfl rfl ?_
  refine own_iloadN X0 hx (hb hby own_d44_1) (q := 2) rfl rfl ?_
  refine own_ior X0 hx (hb hby own_d44_2) (q := 3) rfl ?_
  refine own_iloadN X0 hx (hb hby own_d44_3) (q := 4) rfl rfl ?_
  refine own_ior X0 hx (hb hby own_d44_4) (q := 5) rfl ?_
  refine own_if0P X0 hx (hb hby own_d44_5) (cd := .lt) (x := (p3 ||| p1) ||| p2) (pt := 15) (q := 8) (by decide) (by decide) rfl rfl (fun h => False.elim ((kn0 : ¬ (((p3 ||| p1) ||| p2) < (0 : Int32))) h)) (fun _ => ?_)
  refine own_iloadN X0 hx (hb hby own_d44_8) (q := 9) rfl rfl ?_
  refine own_iloadN X0 hx (hb hby own_d44_9) (q := 10) rfl rfl ?_
  refine own_iloadN X0 hx (hb hby own_d44_10) (q := 11) rfl rfl ?_
  refine own_isub X0 hx (hb hby own_d44_11) (q := 12) rfl ?_
  refine own_icmpM X0 hx (hb hby own_d44_12) (cd := .le) (x := p2) (y := p3 - p1) (pt := 23) (q := 15) (by decide) (by decide) rfl rfl (fun _ => ?_) (fun h => False.elim ((kn1 : ¬ ((p3 - p1) < p2)) h))
  refine own_iloadN X0 hx (hb hby own_d44_23) (q := 24) rfl rfl ?_
  refine own_retI X0 hx hlk hret (hb hby own_d44_24) ?_ (by decide) (by decide)
  have r : own_f44_r p1 p2 p3 = p1 := by rw [own_f44_r]
  exact ⟨by rw [r] <;> rfl, e0, rfl⟩
theorem own_pd1 : parseMethodDescriptor "(IIILjava/util/function/BiFunction;)I" = some ⟨[.int, .int, .int, (.object "java/util/function/BiFunction")], some .int⟩ := by decide +kernel
theorem own_ef43 (m : MethodId) (p1 : Int32) (p2 : Int32) (p3 : Int32) : entryFrame m #[.int p1, .int p2, .int p3] 3 = mkF m 0 #[.val (.int p1), .val (.int p2), .val (.int p3)] [] := by first | (simp [entryFrame, mkF, argsToLocals, Value.category]; done) | rfl
theorem own_d43_0 : decode jdk_42_method_157_code 0 = .ok (.iload_n 0, 1) := by decide +kernel
theorem own_d43_1 : decode jdk_42_method_157_code 1 = .ok (.iload_n 1, 1) := by decide +kernel
theorem own_d43_2 : decode jdk_42_method_157_code 2 = .ok (.iload_n 2, 1) := by decide +kernel
theorem own_d43_3 : decode jdk_42_method_157_code 3 = .ok (.getstatic 1053, 3) := by decide +kernel
theorem own_d43_6 : decode jdk_42_method_157_code 6 = .ok (.invokestatic 1065, 3) := by decide +kernel
theorem own_d43_9 : decode jdk_42_method_157_code 9 = .ok (.ireturn, 1) := by decide +kernel
def own_f43_n (p1 : Int32) (p2 : Int32) (p3 : Int32) : Int32 := own_f44_n p1 p2 p3
set_option maxRecDepth 65536 in
set_option maxHeartbeats 40000000 in
theorem rm43_n (l : Launch) (Z : State) (a0 : Array Value) (hw : ∀ d ∈ tables_1, d.before a0 Z = true) (ws : List Jvm.Cond) (p1 : Int32) (p2 : Int32) (p3 : Int32) (h0 : Heap) (S0p : Sta Z h0 "jdk/internal/util/Preconditions" "SIOOBE_FORMATTER" "Ljava/util/function/BiFunction;" (.null)) (kn0 : ¬ (((p3 ||| p1) ||| p2) < (0 : Int32))) (kn1 : ¬ ((p3 - p1) < p2))  :
    own_M l (⟨"java/lang/String", "checkBoundsOffCount", "(III)I"⟩ : MethodName) jdk_42_method_157_code 3 (some .int) ws ({ frames := 1, cells := 0, slots := 0, locals := 15 } : Room) #[.int p1, .int p2, .int p3] Z h0 (own_P (.int (own_f43_n p1 p2 p3)) h0) := by
  refine own_prol (C := "java/lang/String") rfl own_pn5 (fun m => own_ef43 m ..) ?_
  intro p e s m below meth c s₁ hx hby hml hown hnm hlk hret X0 e0 hZ
  refine own_iloadN X0 hx (hb hby own_d43_0) (q := 1) rfl rfl ?_
  refine own_iloadN X0 hx (hb hby own_d43_1) (q := 2) rfl rfl ?_
  refine own_iloadN X0 hx (hb hby own_d43_2) (q := 3) rfl rfl ?_
  refine own_getS X0 hx hZ hown (own_h hw 129 rfl) Via.refl e0 S0p (hb hby own_d43_3) (q := 6) rfl (fun T13 X14 e15 => ?_)
  refine own_callSP X14 hx hZ hown (own_h hw 207 rfl) (own_h hw 208 rfl) (own_h hw 130 rfl) (own_h hw 209 rfl) (by decide) (rm44_n l Z a0 hw [] p1 p2 p3 h0  kn0 kn1) own_pd1 rfl e15 (by rw [hml]; rfl) (argsL := [.int p1, .int p2, .int p3, .null]) (st := []) rfl (W := 0) (Nat.le_of_eq rfl) (by decide) (by decide) (by decide) (by decide) (hb hby own_d43_6) (q := 9) rfl (fun T16 X17 e18 => ?_)
  refine own_retI X17 hx hlk hret (hb hby own_d43_9) ?_ (by decide) (by decide)
  have r : own_f43_n p1 p2 p3 = own_f44_n p1 p2 p3 := by rw [own_f43_n]
  exact ⟨by rw [r] <;> rfl, e18, rfl⟩

def own_f43_r (p1 : Int32) (p2 : Int32) (p3 : Int32) : Int32 := own_f44_r p1 p2 p3
set_option maxRecDepth 65536 in
set_option maxHeartbeats 40000000 in
theorem rm43_r (l : Launch) (Z : State) (a0 : Array Value) (hw : ∀ d ∈ tables_1, d.before a0 Z = true) (ws : List Jvm.Cond) (p1 : Int32) (p2 : Int32) (p3 : Int32) (g : Addr) (h0 : Heap) (S0p : Sta Z h0 "jdk/internal/util/Preconditions" "SIOOBE_FORMATTER" "Ljava/util/function/BiFunction;" (.ref g)) (kn0 : ¬ (((p3 ||| p1) ||| p2) < (0 : Int32))) (kn1 : ¬ ((p3 - p1) < p2))  :
    own_M l (⟨"java/lang/String", "checkBoundsOffCount", "(III)I"⟩ : MethodName) jdk_42_method_157_code 3 (some .int) ws ({ frames := 1, cells := 0, slots := 0, locals := 15 } : Room) #[.int p1, .int p2, .int p3] Z h0 (own_P (.int (own_f43_r p1 p2 p3)) h0) := by
  refine own_prol (C := "java/lang/String") rfl own_pn5 (fun m => own_ef43 m ..) ?_
  intro p e s m below meth c s₁ hx hby hml hown hnm hlk hret X0 e0 hZ
  refine own_iloadN X0 hx (hb hby own_d43_0) (q := 1) rfl rfl ?_
  refine own_iloadN X0 hx (hb hby own_d43_1) (q := 2) rfl rfl ?_
  refine own_iloadN X0 hx (hb hby own_d43_2) (q := 3) rfl rfl ?_
  refine own_getS X0 hx hZ hown (own_h hw 129 rfl) Via.refl e0 S0p (hb hby own_d43_3) (q := 6) rfl (fun T19 X20 e21 => ?_)
  refine own_callSP X20 hx hZ hown (own_h hw 207 rfl) (own_h hw 208 rfl) (own_h hw 130 rfl) (own_h hw 209 rfl) (by decide) (rm44_r l Z a0 hw [] p1 p2 p3 g h0  kn0 kn1) own_pd1 rfl e21 (by rw [hml]; rfl) (argsL := [.int p1, .int p2, .int p3, .ref g]) (st := []) rfl (W := 0) (Nat.le_of_eq rfl) (by decide) (by decide) (by decide) (by decide) (hb hby own_d43_6) (q := 9) rfl (fun T22 X23 e24 => ?_)
  refine own_retI X23 hx hlk hret (hb hby own_d43_9) ?_ (by decide) (by decide)
  have r : own_f43_r p1 p2 p3 = own_f44_r p1 p2 p3 := by rw [own_f43_r]
  exact ⟨by rw [r] <;> rfl, e24, rfl⟩
def own_f43 (p1 : Int32) (p2 : Int32) (p3 : Int32) : Int32 := p1
theorem rm43 (l : Launch) (Z : State) (a0 : Array Value) (hw : ∀ d ∈ tables_1, d.before a0 Z = true) (ws : List Jvm.Cond) (p1 : Int32) (p2 : Int32) (p3 : Int32) (cs : Int32) (G : Value) (h0 : Heap) (G0p : own_G Z h0 cs G) (kn0 : ¬ (((p3 ||| p1) ||| p2) < (0 : Int32))) (kn1 : ¬ ((p3 - p1) < p2))  :
    own_M l (⟨"java/lang/String", "checkBoundsOffCount", "(III)I"⟩ : MethodName) jdk_42_method_157_code 3 (some .int) ws ({ frames := 1, cells := 0, slots := 0, locals := 15 } : Room) #[.int p1, .int p2, .int p3] Z h0 (own_P (.int (own_f43 p1 p2 p3)) h0) := by
  have S0p := G0p.2.2.2.1
  rcases ref_cases G0p.2.1 with rfl | ⟨g, rfl⟩
  · exact rm43_n l Z a0 hw ws p1 p2 p3 h0 S0p kn0 kn1
  · exact rm43_r l Z a0 hw ws p1 p2 p3 g h0 S0p kn0 kn1
theorem own_pn10 : plainName "java/lang/StringUTF16" = true := by first | (simp [plainName, overriddenIn]; done) | decide +kernel
theorem own_ef38 (m : MethodId) (a1 : Addr) : entryFrame m #[.ref a1] 1 = mkF m 0 #[.val (.ref a1)] [] := by first | (simp [entryFrame, mkF, argsToLocals, Value.category]; done) | rfl
theorem own_d38_0 : decode jdk_52_method_6_code 0 = .ok (.aload_n 0, 1) := by decide +kernel
theorem own_d38_1 : decode jdk_52_method_6_code 1 = .ok (.arraylength, 1) := by decide +kernel
theorem own_d38_2 : decode jdk_52_method_6_code 2 = .ok (.iconst 1, 1) := by decide +kernel
theorem own_d38_3 : decode jdk_52_method_6_code 3 = .ok (.ishr, 1) := by decide +kernel
theorem own_d38_4 : decode jdk_52_method_6_code 4 = .ok (.ireturn, 1) := by decide +kernel
def own_f38 (nn : Int32) : Int32 := nn >>> ((1 : Int32) &&& 31)
set_option maxRecDepth 65536 in
set_option maxHeartbeats 40000000 in
theorem rm38 (l : Launch) (Z : State) (a0 : Array Value) (hw : ∀ d ∈ tables_1, d.before a0 Z = true) (ws : List Jvm.Cond) (a1 : Addr) (vs : List Value) (nn : Int32) (h0 : Heap) (V0p : own_A Z h0 a1 .byte vs) (hl_vs : vs.length.toInt32 = nn)  :
    own_M l (⟨"java/lang/StringUTF16", "length", "([B)I"⟩ : MethodName) jdk_52_method_6_code 1 (some .int) ws ({ frames := 0, cells := 0, slots := 0, locals := 0 } : Room) #[.ref a1] Z h0 (own_P (.int (own_f38 nn)) h0) := by
  refine own_prol (C := "java/lang/StringUTF16") rfl own_pn10 (fun m => own_ef38 m ..) ?_
  intro p e s m below meth c s₁ hx hby hml hown hnm hlk hret X0 e0 hZ
  refine own_aloadN X0 hx (hb hby own_d38_0) (q := 1) rfl rfl rfl ?_
  refine own_alen X0 hx hZ (n := nn) e0 V0p hl_vs (hb hby own_d38_1) (q := 2) rfl ?_
  refine own_iconst X0 hx (v := (1 : Int32)) (hb hby own_d38_2) (q := 3) rfl rfl ?_
  refine own_ishr X0 hx (hb hby own_d38_3) (q := 4) rfl ?_
  refine own_retI X0 hx hlk hret (hb hby own_d38_4) ?_ (by decide) (by decide)
  have r : own_f38 nn = nn >>> ((1 : Int32) &&& 31) := by rw [own_f38]
  exact ⟨by rw [r] <;> rfl, e0, rfl⟩
theorem own_pd2 : parseMethodDescriptor "([B)I" = some ⟨[(.array .byte)], some .int⟩ := by decide +kernel
theorem own_pd3 : parseMethodDescriptor "(II)V" = some ⟨[.int, .int], none⟩ := by decide +kernel
theorem own_ef37 (m : MethodId) (p1 : Int32) (a2 : Addr) : entryFrame m #[.int p1, .ref a2] 2 = mkF m 0 #[.val (.int p1), .val (.ref a2)] [] := by first | (simp [entryFrame, mkF, argsToLocals, Value.category]; done) | rfl
theorem own_d37_0 : decode jdk_52_method_91_code 0 = .ok (.iload_n 0, 1) := by decide +kernel
theorem own_d37_1 : decode jdk_52_method_91_code 1 = .ok (.aload_n 1, 1) := by decide +kernel
theorem own_d37_2 : decode jdk_52_method_91_code 2 = .ok (.invokestatic 48, 3) := by decide +kernel
theorem own_d37_5 : decode jdk_52_method_91_code 5 = .ok (.invokestatic 414, 3) := by decide +kernel
theorem own_d37_8 : decode jdk_52_method_91_code 8 = .ok (.return_, 1) := by decide +kernel
set_option maxRecDepth 65536 in
set_option maxHeartbeats 40000000 in
theorem rm37 (l : Launch) (Z : State) (a0 : Array Value) (hw : ∀ d ∈ tables_1, d.before a0 Z = true) (ws : List Jvm.Cond) (p1 : Int32) (a2 : Addr) (cs : Int32) (G : Value) (vs : List Value) (nn : Int32) (h0 : Heap) (G0p : own_G Z h0 cs G) (V1p : own_A Z h0 a2 .byte vs) (kn0 : ¬ (p1 < (0 : Int32))) (kn1 : p1 < (own_f38 nn)) (hl_vs : vs.length.toInt32 = nn)  :
    own_M l (⟨"java/lang/StringUTF16", "checkIndex", "(I[B)V"⟩ : MethodName) jdk_52_method_91_code 2 none ws ({ frames := 2, cells := 0, slots := 0, locals := 27 } : Room) #[.int p1, .ref a2] Z h0 (own_V h0) := by
  refine own_prol (C := "java/lang/StringUTF16") rfl own_pn10 (fun m => own_ef37 m ..) ?_
  intro p e s m below meth c s₁ hx hby hml hown hnm hlk hret X0 e0 hZ
  refine own_iloadN X0 hx (hb hby own_d37_0) (q := 1) rfl rfl ?_
  refine own_aloadN X0 hx (hb hby own_d37_1) (q := 2) rfl rfl rfl ?_
  refine own_callSP X0 hx hZ hown (own_h hw 185 rfl) (own_h hw 186 rfl) (own_h hw 104 rfl) (own_h hw 187 rfl) (by decide) (rm38 l Z a0 hw [] a2 vs nn h0 V1p hl_vs) own_pd2 rfl e0 (by rw [hml]; rfl) (argsL := [.ref a2]) (st := [.int p1]) rfl (W := 1) (Nat.le_of_eq rfl) (by decide) (by decide) (by decide) (by decide) (hb hby own_d37_2) (q := 5) rfl (fun T25 X26 e27 => ?_)
  refine own_callSV X26 hx hZ hown (own_h hw 188 rfl) (own_h hw 127 rfl) (own_h hw 3 rfl) (own_h hw 128 rfl) (by decide) (rm23 l Z a0 hw [] p1 (own_f38 nn) cs G h0 G0p kn0 kn1) own_pd3 rfl e27 (by rw [hml]; rfl) (argsL := [.int p1, .int (own_f38 nn)]) (st := []) rfl (W := 0) (Nat.le_of_eq rfl) (by decide) (by decide) (by decide) (by decide) (hb hby own_d37_5) (q := 8) rfl (fun T31 X32 e33 => ?_)
  refine own_retV X32 hx hlk (rest := []) hret (hb hby own_d37_8) ?_ (by decide) (by decide)
  exact ⟨rfl, e33, rfl⟩
theorem own_pd4 : parseMethodDescriptor "(III)I" = some ⟨[.int, .int, .int], some .int⟩ := by decide +kernel
theorem own_ef42 (m : MethodId) (p1 : Int32) (p2 : Int32) (a3 : Addr) : entryFrame m #[.int p1, .int p2, .ref a3] 3 = mkF m 0 #[.val (.int p1), .val (.int p2), .val (.ref a3)] [] := by first | (simp [entryFrame, mkF, argsToLocals, Value.category]; done) | rfl
theorem own_d42_0 : decode jdk_52_method_94_code 0 = .ok (.iload_n 0, 1) := by decide +kernel
theorem own_d42_1 : decode jdk_52_method_94_code 1 = .ok (.iload_n 1, 1) := by decide +kernel
theorem own_d42_2 : decode jdk_52_method_94_code 2 = .ok (.aload_n 2, 1) := by decide +kernel
theorem own_d42_3 : decode jdk_52_method_94_code 3 = .ok (.invokestatic 48, 3) := by decide +kernel
theorem own_d42_6 : decode jdk_52_method_94_code 6 = .ok (.invokestatic 419, 3) := by decide +kernel
theorem own_d42_9 : decode jdk_52_method_94_code 9 = .ok (.pop, 1) := by decide +kernel
theorem own_d42_10 : decode jdk_52_method_94_code 10 = .ok (.return_, 1) := by decide +kernel
set_option maxRecDepth 65536 in
set_option maxHeartbeats 40000000 in
theorem rm42 (l : Launch) (Z : State) (a0 : Array Value) (hw : ∀ d ∈ tables_1, d.before a0 Z = true) (ws : List Jvm.Cond) (p1 : Int32) (p2 : Int32) (a3 : Addr) (cs : Int32) (G : Value) (vs : List Value) (nn : Int32) (h0 : Heap) (G0p : own_G Z h0 cs G) (V1p : own_A Z h0 a3 .byte vs) (kn0 : ¬ ((((own_f38 nn) ||| p1) ||| p2) < (0 : Int32))) (kn1 : ¬ (((own_f38 nn) - p1) < p2)) (hl_vs : vs.length.toInt32 = nn)  :
    own_M l (⟨"java/lang/StringUTF16", "checkBoundsOffCount", "(II[B)V"⟩ : MethodName) jdk_52_method_94_code 3 none ws ({ frames := 2, cells := 0, slots := 0, locals := 29 } : Room) #[.int p1, .int p2, .ref a3] Z h0 (own_V h0) := by
  refine own_prol (C := "java/lang/StringUTF16") rfl own_pn10 (fun m => own_ef42 m ..) ?_
  intro p e s m below meth c s₁ hx hby hml hown hnm hlk hret X0 e0 hZ
  refine own_iloadN X0 hx (hb hby own_d42_0) (q := 1) rfl rfl ?_
  refine own_iloadN X0 hx (hb hby own_d42_1) (q := 2) rfl rfl ?_
  refine own_aloadN X0 hx (hb hby own_d42_2) (q := 3) rfl rfl rfl ?_
  refine own_callSP X0 hx hZ hown (own_h hw 185 rfl) (own_h hw 186 rfl) (own_h hw 104 rfl) (own_h hw 187 rfl) (by decide) (rm38 l Z a0 hw [] a3 vs nn h0 V1p hl_vs) own_pd2 rfl e0 (by rw [hml]; rfl) (argsL := [.ref a3]) (st := [.int p2, .int p1]) rfl (W := 2) (Nat.le_of_eq rfl) (by decide) (by decide) (by decide) (by decide) (hb hby own_d42_3) (q := 6) rfl (fun T34 X35 e36 => ?_)
  refine own_callSP X35 hx hZ hown (own_h hw 204 rfl) (own_h hw 205 rfl) (own_h hw 3 rfl) (own_h hw 206 rfl) (by decide) (rm43 l Z a0 hw [] p1 p2 (own_f38 nn) cs G h0 G0p kn0 kn1) own_pd4 rfl e36 (by rw [hml]; rfl) (argsL := [.int p1, .int p2, .int (own_f38 nn)]) (st := []) rfl (W := 0) (Nat.le_of_eq rfl) (by decide) (by decide) (by decide) (by decide) (hb hby own_d42_6) (q := 9) rfl (fun T37 X38 e39 => ?_)
  refine own_pop X38 hx (hb hby own_d42_9) (q := 10) rfl rfl ?_
  refine own_retV X38 hx hlk (rest := []) hret (hb hby own_d42_10) ?_ (by decide) (by decide)
  exact ⟨rfl, e39, rfl⟩
theorem own_ef34 (m : MethodId) (a1 : Addr) (p2 : Int32) (p3 : Int32) : entryFrame m #[.ref a1, .int p2, .int p3] 3 = mkF m 0 #[.val (.ref a1), .val (.int p2), .val (.int p3)] [] := by first | (simp [entryFrame, mkF, argsToLocals, Value.category]; done) | rfl
theorem own_d34_0 : decode jdk_52_method_4_code 0 = .ok (.getstatic 44, 3) := by decide +kernel
theorem own_d34_3 : decode jdk_52_method_4_code 3 = .ok (.ifCond .ne 25, 3) := by decide +kernel
theorem own_d34_28 : decode jdk_52_method_4_code 28 = .ok (.iload_n 1, 1) := by decide +kernel
theorem own_d34_29 : decode jdk_52_method_4_code 29 = .ok (.iconst 1, 1) := by decide +kernel
theorem own_d34_30 : decode jdk_52_method_4_code 30 = .ok (.ishl, 1) := by decide +kernel
theorem own_d34_31 : decode jdk_52_method_4_code 31 = .ok (.istore_n 1, 1) := by decide +kernel
theorem own_d34_32 : decode jdk_52_method_4_code 32 = .ok (.aload_n 0, 1) := by decide +kernel
theorem own_d34_33 : decode jdk_52_method_4_code 33 = .ok (.iload_n 1, 1) := by decide +kernel
theorem own_d34_34 : decode jdk_52_method_4_code 34 = .ok (.iinc 1 1, 3) := by decide +kernel
theorem own_d34_37 : decode jdk_52_method_4_code 37 = .ok (.iload_n 2, 1) := by decide +kernel
theorem own_d34_38 : decode jdk_52_method_4_code 38 = .ok (.getstatic 59, 3) := by decide +kernel
theorem own_d34_41 : decode jdk_52_method_4_code 41 = .ok (.ishr, 1) := by decide +kernel
theorem own_d34_42 : decode jdk_52_method_4_code 42 = .ok (.i2b, 1) := by decide +kernel
theorem own_d34_43 : decode jdk_52_method_4_code 43 = .ok (.bastore, 1) := by decide +kernel
theorem own_d34_44 : decode jdk_52_method_4_code 44 = .ok (.aload_n 0, 1) := by decide +kernel
theorem own_d34_45 : decode jdk_52_method_4_code 45 = .ok (.iload_n 1, 1) := by decide +kernel
theorem own_d34_46 : decode jdk_52_method_4_code 46 = .ok (.iload_n 2, 1) := by decide +kernel
theorem own_d34_47 : decode jdk_52_method_4_code 47 = .ok (.getstatic 63, 3) := by decide +kernel
theorem own_d34_50 : decode jdk_52_method_4_code 50 = .ok (.ishr, 1) := by decide +kernel
theorem own_d34_51 : decode jdk_52_method_4_code 51 = .ok (.i2b, 1) := by decide +kernel
theorem own_d34_52 : decode jdk_52_method_4_code 52 = .ok (.bastore, 1) := by decide +kernel
theorem own_d34_53 : decode jdk_52_method_4_code 53 = .ok (.return_, 1) := by decide +kernel
def own_Q34 (Z : State) (a1 : Addr) (p2 : Int32) (p3 : Int32) (cs : Int32) (G : Value) (vs : List Value) (h0 : Heap) (n0 : Nat) (v : Option Value) (h : Heap) (L : List Loc) : Prop := v = none ∧ Fr n0 L ∧ Keep h0 h [a1] ∧ own_A Z h a1 .byte ((vs.set (p2 <<< ((1 : Int32) &&& 31)).toNatClampNeg (.int ((p3 >>> ((0 : Int32) &&& 31)).toInt8.toInt32))).set ((p2 <<< ((1 : Int32) &&& 31)) + (1 : Int32)).toNatClampNeg (.int ((p3 >>> ((8 : Int32) &&& 31)).toInt8.toInt32)))
set_option maxRecDepth 65536 in
set_option maxHeartbeats 40000000 in
theorem rm34 (l : Launch) (Z : State) (a0 : Array Value) (hw : ∀ d ∈ tables_1, d.before a0 Z = true) (ws : List Jvm.Cond) (a1 : Addr) (p2 : Int32) (p3 : Int32) (cs : Int32) (G : Value) (vs : List Value) (h0 : Heap) (n0 : Nat) (G0p : own_G Z h0 cs G) (V1p : own_A Z h0 a1 .byte vs) (G_a1 : n0 ≤ a1) (q0 : ¬ (p2 <<< ((1 : Int32) &&& 31)) < 0) (q1 : ¬ ((p2 <<< ((1 : Int32) &&& 31)) + (1 : Int32)) < 0) (i0 : (p2 <<< ((1 : Int32) &&& 31)).toNatClampNeg < vs.length) (i1 : ((p2 <<< ((1 : Int32) &&& 31)) + (1 : Int32)).toNatClampNeg < vs.length) :
    own_M l (⟨"java/lang/StringUTF16", "putChar", "([BII)V"⟩ : MethodName) jdk_52_method_4_code 3 none ws ({ frames := 0, cells := 0, slots := 0, locals := 0 } : Room) #[.ref a1, .int p2, .int p3] Z h0 (own_Q34 Z a1 p2 p3 cs G vs h0 n0) := by
  refine own_prol (C := "java/lang/StringUTF16") rfl own_pn10 (fun m => own_ef34 m ..) ?_
  intro p e s m below meth c s₁ hx hby hml hown hnm hlk hret X0 e0 hZ
  have N0 := Fr.nil n0
  have K0 := Keep.refl h0 [a1]
  refine own_getS X0 hx hZ hown (own_h hw 173 rfl) Via.refl e0 G0p.2.2.2.2.1 (hb hby own_d34_0) (q := 3) rfl (fun T40 X41 e42 => ?_)
  refine own_if0M X41 hx (hb hby own_d34_3) (cd := .ne) (x := (1 : Int32)) (pt := 28) (q := 6) (by decide) (by decide) rfl rfl (fun _ => ?_) (fun h => False.elim (((by decide) : ¬ ((1 : Int32) = (0 : Int32))) h))
  refine own_iloadN X41 hx (hb hby own_d34_28) (q := 29) rfl rfl ?_
  refine own_iconst X41 hx (v := (1 : Int32)) (hb hby own_d34_29) (q := 30) rfl rfl ?_
  refine own_ishl X41 hx (hb hby own_d34_30) (q := 31) rfl ?_
  refine own_istoreN (L' := #[.val (.ref a1), .val (.int (p2 <<< ((1 : Int32) &&& 31))), .val (.int p3)]) X41 hx (hb hby own_d34_31) (q := 32) rfl rfl ?_
  refine own_aloadN X41 hx (hb hby own_d34_32) (q := 33) rfl rfl rfl ?_
  refine own_iloadN X41 hx (hb hby own_d34_33) (q := 34) rfl rfl ?_
  refine own_iinc (L' := #[.val (.ref a1), .val (.int ((p2 <<< ((1 : Int32) &&& 31)) + (1 : Int32))), .val (.int p3)]) X41 hx (v := (1 : Int32)) (hb hby own_d34_34) (q := 37) rfl rfl rfl rfl ?_
  refine own_iloadN X41 hx (hb hby own_d34_37) (q := 38) rfl rfl ?_
  refine own_getS X41 hx hZ hown (own_h hw 174 rfl) Via.refl e42 G0p.2.2.2.2.2.1 (hb hby own_d34_38) (q := 41) rfl (fun T43 X44 e45 => ?_)
  refine own_ishr X44 hx (hb hby own_d34_41) (q := 42) rfl ?_
  refine own_i2b X44 hx (hb hby own_d34_42) (q := 43) rfl ?_
  refine own_bastore X44 hx hZ e45 V1p q0 rfl i0 (hb hby own_d34_43) (q := 44) rfl (fun T46 h49 X47 e48 W50 A51 => ?_)
  rw [own_bb] at A51
  replace A51 : own_A Z h49 a1 .byte (vs.set (p2 <<< ((1 : Int32) &&& 31)).toNatClampNeg (.int ((p3 >>> ((0 : Int32) &&& 31)).toInt8.toInt32))) := A51
  have G52 := G0p.wr W50
  have K53 := K0.wr W50 (Or.inl (List.mem_of_getElem? (i := 0) rfl))
  have N54 := Fr.snoc X47 N0 G_a1
  refine own_aloadN X47 hx (hb hby own_d34_44) (q := 45) rfl rfl rfl ?_
  refine own_iloadN X47 hx (hb hby own_d34_45) (q := 46) rfl rfl ?_
  refine own_iloadN X47 hx (hb hby own_d34_46) (q := 47) rfl rfl ?_
  refine own_getS X47 hx hZ hown (own_h hw 175 rfl) Via.refl e48 G52.2.2.2.2.2.2 (hb hby own_d34_47) (q := 50) rfl (fun T55 X56 e57 => ?_)
  refine own_ishr X56 hx (hb hby own_d34_50) (q := 51) rfl ?_
  refine own_i2b X56 hx (hb hby own_d34_51) (q := 52) rfl ?_
  refine own_bastore X56 hx hZ e57 A51 q1 rfl (by rw [List.length_set]; exact i1) (hb hby own_d34_52) (q := 53) rfl (fun T58 h61 X59 e60 W62 A63 => ?_)
  rw [own_bb] at A63
  replace A63 : own_A Z h61 a1 .byte ((vs.set (p2 <<< ((1 : Int32) &&& 31)).toNatClampNeg (.int ((p3 >>> ((0 : Int32) &&& 31)).toInt8.toInt32))).set ((p2 <<< ((1 : Int32) &&& 31)) + (1 : Int32)).toNatClampNeg (.int ((p3 >>> ((8 : Int32) &&& 31)).toInt8.toInt32))) := A63
  have G64 := G52.wr W62
  have K65 := K53.wr W62 (Or.inl (List.mem_of_getElem? (i := 0) rfl))
  have N66 := Fr.snoc X59 N54 G_a1
  refine own_retV X59 hx hlk (rest := []) hret (hb hby own_d34_53) ?_ (by decide) (by decide)
  show own_Q34 Z a1 p2 p3 cs G vs h0 n0 _ T58.heap _
  rw [e60]
  exact ⟨rfl, N66, K65, A63⟩
theorem own_pd5 : parseMethodDescriptor "(I[B)V" = some ⟨[.int, (.array .byte)], none⟩ := by decide +kernel
theorem own_pd6 : parseMethodDescriptor "([BII)V" = some ⟨[(.array .byte), .int, .int], none⟩ := by decide +kernel
theorem own_ef45 (m : MethodId) (a1 : Addr) (p2 : Int32) (p3 : Int32) : entryFrame m #[.ref a1, .int p2, .int p3] 3 = mkF m 0 #[.val (.ref a1), .val (.int p2), .val (.int p3)] [] := by first | (simp [entryFrame, mkF, argsToLocals, Value.category]; done) | rfl
theorem own_d45_0 : decode jdk_52_method_71_code 0 = .ok (.iload_n 1, 1) := by decide +kernel
theorem own_d45_1 : decode jdk_52_method_71_code 1 = .ok (.aload_n 0, 1) := by decide +kernel
theorem own_d45_2 : decode jdk_52_method_71_code 2 = .ok (.invokestatic 67, 3) := by decide +kernel
theorem own_d45_5 : decode jdk_52_method_71_code 5 = .ok (.aload_n 0, 1) := by decide +kernel
theorem own_d45_6 : decode jdk_52_method_71_code 6 = .ok (.iload_n 1, 1) := by decide +kernel
theorem own_d45_7 : decode jdk_52_method_71_code 7 = .ok (.iload_n 2, 1) := by decide +kernel
theorem own_d45_8 : decode jdk_52_method_71_code 8 = .ok (.invokestatic 111, 3) := by decide +kernel
theorem own_d45_11 : decode jdk_52_method_71_code 11 = .ok (.return_, 1) := by decide +kernel
def own_Q45 (Z : State) (a1 : Addr) (p2 : Int32) (p3 : Int32) (cs : Int32) (G : Value) (vs : List Value) (nn : Int32) (h0 : Heap) (n0 : Nat) (v : Option Value) (h : Heap) (L : List Loc) : Prop := v = none ∧ Fr n0 L ∧ Keep h0 h [a1] ∧ own_A Z h a1 .byte ((vs.set (p2 <<< ((1 : Int32) &&& 31)).toNatClampNeg (.int ((p3 >>> ((0 : Int32) &&& 31)).toInt8.toInt32))).set ((p2 <<< ((1 : Int32) &&& 31)) + (1 : Int32)).toNatClampNeg (.int ((p3 >>> ((8 : Int32) &&& 31)).toInt8.toInt32)))
set_option maxRecDepth 65536 in
set_option maxHeartbeats 40000000 in
theorem rm45 (l : Launch) (Z : State) (a0 : Array Value) (hw : ∀ d ∈ tables_1, d.before a0 Z = true) (ws : List Jvm.Cond) (a1 : Addr) (p2 : Int32) (p3 : Int32) (cs : Int32) (G : Value) (vs : List Value) (nn : Int32) (h0 : Heap) (n0 : Nat) (G0p : own_G Z h0 cs G) (V1p : own_A Z h0 a1 .byte vs) (G_a1 : n0 ≤ a1)  (kn0 : ¬ (p2 < (0 : Int32))) (kn1 : p2 < (own_f38 nn)) (hl_vs : vs.length.toInt32 = nn) (q0 : ¬ (p2 <<< ((1 : Int32) &&& 31)) < 0) (q1 : ¬ ((p2 <<< ((1 : Int32) &&& 31)) + (1 : Int32)) < 0) (i0 : (p2 <<< ((1 : Int32) &&& 31)).toNatClampNeg < vs.length) (i1 : ((p2 <<< ((1 : Int32) &&& 31)) + (1 : Int32)).toNatClampNeg < vs.length) :
    own_M l (⟨"java/lang/StringUTF16", "putCharSB", "([BII)V"⟩ : MethodName) jdk_52_method_71_code 3 none ws ({ frames := 3, cells := 0, slots := 0, locals := 40 } : Room) #[.ref a1, .int p2, .int p3] Z h0 (own_Q45 Z a1 p2 p3 cs G vs nn h0 n0) := by
  refine own_prol (C := "java/lang/StringUTF16") rfl own_pn10 (fun m => own_ef45 m ..) ?_
  intro p e s m below meth c s₁ hx hby hml hown hnm hlk hret X0 e0 hZ
  have N0 := Fr.nil n0
  have K0 := Keep.refl h0 [a1]
  refine own_iloadN X0 hx (hb hby own_d45_0) (q := 1) rfl rfl ?_
  refine own_aloadN X0 hx (hb hby own_d45_1) (q := 2) rfl rfl rfl ?_
  refine own_callSV X0 hx hZ hown (own_h hw 182 rfl) (own_h hw 183 rfl) (own_h hw 104 rfl) (own_h hw 184 rfl) (by decide) (rm37 l Z a0 hw [] p2 a1 cs G vs nn h0 G0p V1p kn0 kn1 hl_vs) own_pd5 rfl e0 (by rw [hml]; rfl) (argsL := [.int p2, .ref a1]) (st := []) rfl (W := 0) (Nat.le_of_eq rfl) (by decide) (by decide) (by decide) (by decide) (hb hby own_d45_2) (q := 5) rfl (fun T70 X71 e72 => ?_)
  refine own_aloadN X71 hx (hb hby own_d45_5) (q := 6) rfl rfl rfl ?_
  refine own_iloadN X71 hx (hb hby own_d45_6) (q := 7) rfl rfl ?_
  refine own_iloadN X71 hx (hb hby own_d45_7) (q := 8) rfl rfl ?_
  refine own_callS X71 hx hZ hown (own_h hw 170 rfl) (own_h hw 171 rfl) (own_h hw 104 rfl) (own_h hw 172 rfl) (by decide) (rm34 l Z a0 hw [] a1 p2 p3 cs G vs h0 n0 G0p V1p G_a1 q0 q1 i0 i1) own_pd6 rfl e72 (by rw [hml]; rfl) (argsL := [.ref a1, .int p2, .int p3]) (st := []) rfl (W := 0) (Nat.le_of_eq rfl) (by decide) (by decide) (by decide) (by decide) (hb hby own_d45_8) (q := 11) rfl (fun v79 T80 L81 X82 hQ83 => ?_)
  obtain ⟨rfl, N84, K85, A87⟩ := hQ83
  have G88 := G0p.keep K85 (allS V1p.plain all0)
  have K89 := K0.trans K85 (allS (Or.inl (List.mem_of_getElem? (i := 0) rfl)) all0)
  have N86 := Fr.app N0 N84
  show own_Go _ _ _ _ (T80.setTop (mkF m 11 #[.val (.ref a1), .val (.int p2), .val (.int p3)] []))
  refine own_retV X82 hx hlk (rest := []) hret (hb hby own_d45_11) ?_ (by decide) (by decide)
  show own_Q45 Z a1 p2 p3 cs G vs nn h0 n0 _ T80.heap _
  exact ⟨rfl, N86, K89, A87⟩
theorem own_ef35 (m : MethodId) (a1 : Addr) (p2 : Int32) : entryFrame m #[.ref a1, .int p2] 2 = mkF m 0 #[.val (.ref a1), .val (.int p2)] [] := by first | (simp [entryFrame, mkF, argsToLocals, Value.category]; done) | rfl
theorem own_d35_0 : decode jdk_52_method_5_code 0 = .ok (.getstatic 44, 3) := by decide +kernel
theorem own_d35_3 : decode jdk_52_method_5_code 3 = .ok (.ifCond .ne 25, 3) := by decide +kernel
theorem own_d35_28 : decode jdk_52_method_5_code 28 = .ok (.iload_n 1, 1) := by decide +kernel
theorem own_d35_29 : decode jdk_52_method_5_code 29 = .ok (.iconst 1, 1) := by decide +kernel
theorem own_d35_30 : decode jdk_52_method_5_code 30 = .ok (.ishl, 1) := by decide +kernel
theorem own_d35_31 : decode jdk_52_method_5_code 31 = .ok (.istore_n 1, 1) := by decide +kernel
theorem own_d35_32 : decode jdk_52_method_5_code 32 = .ok (.aload_n 0, 1) := by decide +kernel
theorem own_d35_33 : decode jdk_52_method_5_code 33 = .ok (.iload_n 1, 1) := by decide +kernel
theorem own_d35_34 : decode jdk_52_method_5_code 34 = .ok (.iinc 1 1, 3) := by decide +kernel
theorem own_d35_37 : decode jdk_52_method_5_code 37 = .ok (.baload, 1) := by decide +kernel
theorem own_d35_38 : decode jdk_52_method_5_code 38 = .ok (.sipush 255, 3) := by decide +kernel
theorem own_d35_41 : decode jdk_52_method_5_code 41 = .ok (.iand, 1) := by decide +kernel
theorem own_d35_42 : decode jdk_52_method_5_code 42 = .ok (.getstatic 59, 3) := by decide +kernel
theorem own_d35_45 : decode jdk_52_method_5_code 45 = .ok (.ishl, 1) := by decide +kernel
theorem own_d35_46 : decode jdk_52_method_5_code 46 = .ok (.aload_n 0, 1) := by decide +kernel
theorem own_d35_47 : decode jdk_52_method_5_code 47 = .ok (.iload_n 1, 1) := by decide +kernel
theorem own_d35_48 : decode jdk_52_method_5_code 48 = .ok (.baload, 1) := by decide +kernel
theorem own_d35_49 : decode jdk_52_method_5_code 49 = .ok (.sipush 255, 3) := by decide +kernel
theorem own_d35_52 : decode jdk_52_method_5_code 52 = .ok (.iand, 1) := by decide +kernel
theorem own_d35_53 : decode jdk_52_method_5_code 53 = .ok (.getstatic 63, 3) := by decide +kernel
theorem own_d35_56 : decode jdk_52_method_5_code 56 = .ok (.ishl, 1) := by decide +kernel
theorem own_d35_57 : decode jdk_52_method_5_code 57 = .ok (.ior, 1) := by decide +kernel
theorem own_d35_58 : decode jdk_52_method_5_code 58 = .ok (.i2c, 1) := by decide +kernel
theorem own_d35_59 : decode jdk_52_method_5_code 59 = .ok (.ireturn, 1) := by decide +kernel
def own_f35 (p2 : Int32) (cs : Int32) (y0 : Int32) (y1 : Int32) : Int32 := nar .char ((((y0 &&& (255 : Int32)) <<< ((0 : Int32) &&& 31)) ||| ((y1 &&& (255 : Int32)) <<< ((8 : Int32) &&& 31))).toUInt32.toUInt16.toUInt32.toInt32)
set_option maxRecDepth 65536 in
set_option maxHeartbeats 40000000 in
theorem rm35 (l : Launch) (Z : State) (a0 : Array Value) (hw : ∀ d ∈ tables_1, d.before a0 Z = true) (ws : List Jvm.Cond) (a1 : Addr) (p2 : Int32) (cs : Int32) (G : Value) (vs : List Value) (y0 : Int32) (y1 : Int32) (h0 : Heap) (G0p : own_G Z h0 cs G) (V1p : own_A Z h0 a1 .byte vs) (q0 : ¬ (p2 <<< ((1 : Int32) &&& 31)) < 0) (q1 : ¬ ((p2 <<< ((1 : Int32) &&& 31)) + (1 : Int32)) < 0) (g0 : vs[(p2 <<< ((1 : Int32) &&& 31)).toNatClampNeg]? = some (.int y0)) (g1 : vs[((p2 <<< ((1 : Int32) &&& 31)) + (1 : Int32)).toNatClampNeg]? = some (.int y1))  :
    own_M l (⟨"java/lang/StringUTF16", "getChar", "([BI)C"⟩ : MethodName) jdk_52_method_5_code 2 (some .char) ws ({ frames := 0, cells := 0, slots := 0, locals := 0 } : Room) #[.ref a1, .int p2] Z h0 (own_P (.int (own_f35 p2 cs y0 y1)) h0) := by
  refine own_prol (C := "java/lang/StringUTF16") rfl own_pn10 (fun m => own_ef35 m ..) ?_
  intro p e s m below meth c s₁ hx hby hml hown hnm hlk hret X0 e0 hZ
  refine own_getS X0 hx hZ hown (own_h hw 173 rfl) Via.refl e0 G0p.2.2.2.2.1 (hb hby own_d35_0) (q := 3) rfl (fun T90 X91 e92 => ?_)
  refine own_if0M X91 hx (hb hby own_d35_3) (cd := .ne) (x := (1 : Int32)) (pt := 28) (q := 6) (by decide) (by decide) rfl rfl (fun _ => ?_) (fun h => False.elim (((by decide) : ¬ ((1 : Int32) = (0 : Int32))) h))
  refine own_iloadN X91 hx (hb hby own_d35_28) (q := 29) rfl rfl ?_
  refine own_iconst X91 hx (v := (1 : Int32)) (hb hby own_d35_29) (q := 30) rfl rfl ?_
  refine own_ishl X91 hx (hb hby own_d35_30) (q := 31) rfl ?_
  refine own_istoreN (L' := #[.val (.ref a1), .val (.int (p2 <<< ((1 : Int32) &&& 31)))]) X91 hx (hb hby own_d35_31) (q := 32) rfl rfl ?_
  refine own_aloadN X91 hx (hb hby own_d35_32) (q := 33) rfl rfl rfl ?_
  refine own_iloadN X91 hx (hb hby own_d35_33) (q := 34) rfl rfl ?_
  refine own_iinc (L' := #[.val (.ref a1), .val (.int ((p2 <<< ((1 : Int32) &&& 31)) + (1 : Int32)))]) X91 hx (v := (1 : Int32)) (hb hby own_d35_34) (q := 37) rfl rfl rfl rfl ?_
  refine own_baload X91 hx hZ (i := (p2 <<< ((1 : Int32) &&& 31)).toNatClampNeg) (v := .int y0) e92 V1p q0 rfl g0 (hb hby own_d35_37) (q := 38) rfl ?_
  refine own_sipush X91 hx (v := (255 : Int32)) (hb hby own_d35_38) (q := 41) rfl rfl ?_
  refine own_iand X91 hx (hb hby own_d35_41) (q := 42) rfl ?_
  refine own_getS X91 hx hZ hown (own_h hw 174 rfl) Via.refl e92 G0p.2.2.2.2.2.1 (hb hby own_d35_42) (q := 45) rfl (fun T93 X94 e95 => ?_)
  refine own_ishl X94 hx (hb hby own_d35_45) (q := 46) rfl ?_
  refine own_aloadN X94 hx (hb hby own_d35_46) (q := 47) rfl rfl rfl ?_
  refine own_iloadN X94 hx (hb hby own_d35_47) (q := 48) rfl rfl ?_
  refine own_baload X94 hx hZ (i := ((p2 <<< ((1 : Int32) &&& 31)) + (1 : Int32)).toNatClampNeg) (v := .int y1) e95 V1p q1 rfl g1 (hb hby own_d35_48) (q := 49) rfl ?_
  refine own_sipush X94 hx (v := (255 : Int32)) (hb hby own_d35_49) (q := 52) rfl rfl ?_
  refine own_iand X94 hx (hb hby own_d35_52) (q := 53) rfl ?_
  refine own_getS X94 hx hZ hown (own_h hw 175 rfl) Via.refl e95 G0p.2.2.2.2.2.2 (hb hby own_d35_53) (q := 56) rfl (fun T96 X97 e98 => ?_)
  refine own_ishl X97 hx (hb hby own_d35_56) (q := 57) rfl ?_
  refine own_ior X97 hx (hb hby own_d35_57) (q := 58) rfl ?_
  refine own_i2c X97 hx (hb hby own_d35_58) (q := 59) rfl ?_
  refine own_retN X97 hx hlk (t := .char) (by simp) hret (hb hby own_d35_59) ?_ (by decide) (by decide)
  have r : own_f35 p2 cs y0 y1 = nar .char ((((y0 &&& (255 : Int32)) <<< ((0 : Int32) &&& 31)) ||| ((y1 &&& (255 : Int32)) <<< ((8 : Int32) &&& 31))).toUInt32.toUInt16.toUInt32.toInt32) := by rw [own_f35]
  exact ⟨by rw [r] <;> rfl, e98, rfl⟩
theorem own_ef33 (m : MethodId) (p1 : Int32) : entryFrame m #[.int p1] 1 = mkF m 0 #[.val (.int p1)] [] := by first | (simp [entryFrame, mkF, argsToLocals, Value.category]; done) | rfl
theorem own_d33_0 : decode jdk_52_method_3_code 0 = .ok (.iload_n 0, 1) := by decide +kernel
theorem own_d33_1 : decode jdk_52_method_3_code 1 = .ok (.ifCond .ge 11, 3) := by decide +kernel
theorem own_d33_12 : decode jdk_52_method_3_code 12 = .ok (.iload_n 0, 1) := by decide +kernel
theorem own_d33_13 : decode jdk_52_method_3_code 13 = .ok (.ldc 20, 2) := by decide +kernel
theorem own_d33_15 : decode jdk_52_method_3_code 15 = .ok (.if_icmp .lt 40, 3) := by decide +kernel
theorem own_d33_55 : decode jdk_52_method_3_code 55 = .ok (.iload_n 0, 1) := by decide +kernel
theorem own_d33_56 : decode jdk_52_method_3_code 56 = .ok (.iconst 1, 1) := by decide +kernel
theorem own_d33_57 : decode jdk_52_method_3_code 57 = .ok (.ishl, 1) := by decide +kernel
theorem own_d33_58 : decode jdk_52_method_3_code 58 = .ok (.ireturn, 1) := by decide +kernel
def own_f33 (p1 : Int32) : Int32 := p1 <<< ((1 : Int32) &&& 31)
set_option maxRecDepth 65536 in
set_option maxHeartbeats 40000000 in
theorem rm33 (l : Launch) (Z : State) (a0 : Array Value) (hw : ∀ d ∈ tables_1, d.before a0 Z = true) (ws : List Jvm.Cond) (p1 : Int32) (h0 : Heap)  (kn0 : ¬ (p1 < (0 : Int32))) (kn1 : p1 < (1073741823 : Int32))  :
    own_M l (⟨"java/lang/StringUTF16", "newBytesLength", "(I)I"⟩ : MethodName) jdk_52_method_3_code 1 (some .int) ws ({ frames := 0, cells := 0, slots := 0, locals := 0 } : Room) #[.int p1] Z h0 (own_P (.int (own_f33 p1)) h0) := by
  refine own_prol (C := "java/lang/StringUTF16") rfl own_pn10 (fun m => own_ef33 m ..) ?_
  intro p e s m below meth c s₁ hx hby hml hown hnm hlk hret X0 e0 hZ
  refine own_iloadN X0 hx (hb hby own_d33_0) (q := 1) rfl rfl ?_
  refine own_if0M X0 hx (hb hby own_d33_1) (cd := .ge) (x := p1) (pt := 12) (q := 4) (by decide) (by decide) rfl rfl (fun _ => ?_) (fun h => False.elim ((kn0 : ¬ (p1 < (0 : Int32))) h))
  refine own_iloadN X0 hx (hb hby own_d33_12) (q := 13) rfl rfl ?_
  refine own_ldc X0 hx hZ hown (own_h hw 169 rfl) (hb hby own_d33_13) (q := 15) rfl ?_
  refine own_icmpP X0 hx (hb hby own_d33_15) (cd := .lt) (x := p1) (y := (1073741823 : Int32)) (pt := 55) (q := 18) (by decide) (by decide) rfl rfl (fun _ => ?_) (fun h => False.elim (h (kn1 : p1 < (1073741823 : Int32))))
  refine own_iloadN X0 hx (hb hby own_d33_55) (q := 56) rfl rfl ?_
  refine own_iconst X0 hx (v := (1 : Int32)) (hb hby own_d33_56) (q := 57) rfl rfl ?_
  refine own_ishl X0 hx (hb hby own_d33_57) (q := 58) rfl ?_
  refine own_retI X0 hx hlk hret (hb hby own_d33_58) ?_ (by decide) (by decide)
  have r : own_f33 p1 = p1 <<< ((1 : Int32) &&& 31) := by rw [own_f33]
  exact ⟨by rw [r] <;> rfl, e0, rfl⟩
theorem own_repl {x : Int32} {v : Value} (h : ¬ x < 0) : (List.replicate x.toNatClampNeg v).length.toInt32 = x := by rw [List.length_replicate]; exact (back32 h).1
theorem own_pd7 : parseMethodDescriptor "(I)I" = some ⟨[.int], some .int⟩ := by decide +kernel
theorem own_ef32 (m : MethodId) (p1 : Int32) : entryFrame m #[.int p1] 1 = mkF m 0 #[.val (.int p1)] [] := by first | (simp [entryFrame, mkF, argsToLocals, Value.category]; done) | rfl
theorem own_d32_0 : decode jdk_52_method_2_code 0 = .ok (.iload_n 0, 1) := by decide +kernel
theorem own_d32_1 : decode jdk_52_method_2_code 1 = .ok (.invokestatic 11, 3) := by decide +kernel
theorem own_d32_4 : decode jdk_52_method_2_code 4 = .ok (.newarray .byte, 2) := by decide +kernel
theorem own_d32_6 : decode jdk_52_method_2_code 6 = .ok (.areturn, 1) := by decide +kernel
def own_Q32 (Z : State) (p1 : Int32) (h0 : Heap) (n0 : Nat) (v : Option Value) (h : Heap) (L : List Loc) : Prop := ∃ ra0 : Addr, v = some (.ref ra0) ∧ Fr n0 L ∧ Keep h0 h [] ∧ h0.size ≤ ra0 ∧ Exa Z h ra0 "[B" ∧ own_A Z h ra0 .byte (List.replicate (own_f33 p1).toNatClampNeg (.int (0 : Int32)))
set_option maxRecDepth 65536 in
set_option maxHeartbeats 40000000 in
theorem rm32 (l : Launch) (Z : State) (a0 : Array Value) (hw : ∀ d ∈ tables_1, d.before a0 Z = true) (ws : List Jvm.Cond) (p1 : Int32) (h0 : Heap) (n0 : Nat) (Z0 : n0 ≤ h0.size)   (kn0 : ¬ (p1 < (0 : Int32))) (kn1 : p1 < (1073741823 : Int32)) (kn2 : ¬ ((own_f33 p1) < (0 : Int32))) (hcap : (own_f33 p1).toNatClampNeg ≤ 6) :
    own_M l (⟨"java/lang/StringUTF16", "newBytesFor", "(I)[B"⟩ : MethodName) jdk_52_method_2_code 1 (some (.array .byte)) ws ({ frames := 1, cells := 1, slots := 6, locals := 12 } : Room) #[.int p1] Z h0 (own_Q32 Z p1 h0 n0) := by
  refine own_prol (C := "java/lang/StringUTF16") rfl own_pn10 (fun m => own_ef32 m ..) ?_
  intro p e s m below meth c s₁ hx hby hml hown hnm hlk hret X0 e0 hZ
  have N0 := Fr.nil n0
  have K0 := Keep.refl h0 []
  refine own_iloadN X0 hx (hb hby own_d32_0) (q := 1) rfl rfl ?_
  refine own_callSP X0 hx hZ hown (own_h hw 166 rfl) (own_h hw 167 rfl) (own_h hw 104 rfl) (own_h hw 168 rfl) (by decide) (rm33 l Z a0 hw [] p1 h0  kn0 kn1) own_pd7 rfl e0 (by rw [hml]; rfl) (argsL := [.int p1]) (st := []) rfl (W := 0) (Nat.le_of_eq rfl) (by decide) (by decide) (by decide) (by decide) (hb hby own_d32_1) (q := 4) rfl (fun T99 X100 e101 => ?_)
  refine own_newE X100 hx hZ (aty := .byte) (ty := .byte) (ad := "[B") (k := (own_f33 p1).toNatClampNeg) (cap := 6) rfl rfl (own_h hw 15 rfl) e101 kn2 rfl hcap (by decide) (by decide) (by decide) (hb hby own_d32_4) (q := 6) rfl (fun T102 h105 a106 X103 e104 g107 E108 A109 E110 => ?_)
  have O111 : h0.size ≤ a106 := by rw [g107]; exact K0.1
  have K112 := K0.ext E108
  have Z113 : n0 ≤ a106 := by rw [g107]; exact Z0
  have Z114 : n0 ≤ h105.size := Nat.le_trans Z0 E108.1
  replace A109 : own_A Z h105 a106 .byte (List.replicate (own_f33 p1).toNatClampNeg (.int (0 : Int32))) := A109
  refine own_retA X103 hx hlk rfl rfl rfl hret (hb hby own_d32_6) ?_ (by decide) (by decide)
  show own_Q32 Z p1 h0 n0 _ T102.heap _
  rw [e104]
  exact ⟨a106, rfl, N0, K112, O111, E110, A109⟩
theorem own_rt {u : Int32} (h0 : ¬ u < 0) (h1 : ¬ (65535 : Int32) < u) : nar .char ((((((u >>> ((0 : Int32) &&& 31)).toInt8.toInt32) &&& (255 : Int32)) <<< ((0 : Int32) &&& 31)) ||| ((((u >>> ((8 : Int32) &&& 31)).toInt8.toInt32) &&& (255 : Int32)) <<< ((8 : Int32) &&& 31))).toUInt32.toUInt16.toUInt32.toInt32) = u := by
  rw [Int32.lt_iff_toInt_lt] at h0 h1
  simp only [Int32.reduceToInt] at h0 h1
  have s0 := c_ishr u 0 0 (by decide)
  have s8 := c_ishr u 8 8 (by decide)
  generalize (u >>> ((0 : Int32) &&& 31)) = x0 at *
  generalize (u >>> ((8 : Int32) &&& 31)) = x8 at *
  have b0 := c_i2b x0
  have b8 := c_i2b x8
  have m0 := c_mask x0.toInt8.toInt32 255 8 (by decide) (by decide)
  have m8 := c_mask x8.toInt8.toInt32 255 8 (by decide) (by decide)
  generalize (x0.toInt8.toInt32 &&& (255 : Int32)) = y0 at *
  generalize (x8.toInt8.toInt32 &&& (255 : Int32)) = y8 at *
  have l0 := c_ishl y0 0 0 (by decide)
  have l8 := c_ishl y8 8 8 (by decide)
  have r0 := rng32 (y0 <<< ((0 : Int32) &&& 31))
  have r8 := rng32 (y8 <<< ((8 : Int32) &&& 31))
  generalize (y0 <<< ((0 : Int32) &&& 31)) = z0 at *
  generalize (y8 <<< ((8 : Int32) &&& 31)) = z8 at *
  have e0 : z0.toInt = u.toInt % 256 := by omega
  have e8 : z8.toInt = u.toInt / 256 * 256 := by omega
  have o := c_or' z0 z8 8 (by decide) 256 (by decide) (by omega) (by omega) (by omega)
  have r := rng32 (z0 ||| z8)
  have c1 := c_i2c (z0 ||| z8)
  have c2 := c_i2c ((z0 ||| z8).toUInt32.toUInt16.toUInt32.toInt32)
  show ((z0 ||| z8).toUInt32.toUInt16.toUInt32.toInt32).toUInt32.toUInt16.toUInt32.toInt32 = u
  rw [← Int32.toInt_inj]; omega
theorem own_pd8 : parseMethodDescriptor "(I)[B" = some ⟨[.int], some (.array .byte)⟩ := by decide +kernel
theorem own_ef31_k0_k1 (m : MethodId) (a1 : Addr) : entryFrame m #[.ref a1, .int (0 : Int32), .int (1 : Int32)] 5 = mkF m 0 #[.val (.ref a1), .val (.int (0 : Int32)), .val (.int (1 : Int32)), .unset, .unset] [] := by first | (simp [entryFrame, mkF, argsToLocals, Value.category]; done) | rfl
theorem own_d31_0 : decode jdk_52_method_14_code 0 = .ok (.iload_n 2, 1) := by decide +kernel
theorem own_d31_1 : decode jdk_52_method_14_code 1 = .ok (.invokestatic 107, 3) := by decide +kernel
theorem own_d31_4 : decode jdk_52_method_14_code 4 = .ok (.astore_n 3, 1) := by decide +kernel
theorem own_d31_5 : decode jdk_52_method_14_code 5 = .ok (.iconst 0, 1) := by decide +kernel
theorem own_d31_6 : decode jdk_52_method_14_code 6 = .ok (.istore 4, 2) := by decide +kernel
theorem own_d31_8 : decode jdk_52_method_14_code 8 = .ok (.iload 4, 2) := by decide +kernel
theorem own_d31_10 : decode jdk_52_method_14_code 10 = .ok (.iload_n 2, 1) := by decide +kernel
theorem own_d31_11 : decode jdk_52_method_14_code 11 = .ok (.if_icmp .ge 21, 3) := by decide +kernel
theorem own_d31_14 : decode jdk_52_method_14_code 14 = .ok (.aload_n 3, 1) := by decide +kernel
theorem own_d31_15 : decode jdk_52_method_14_code 15 = .ok (.iload 4, 2) := by decide +kernel
theorem own_d31_17 : decode jdk_52_method_14_code 17 = .ok (.aload_n 0, 1) := by decide +kernel
theorem own_d31_18 : decode jdk_52_method_14_code 18 = .ok (.iload_n 1, 1) := by decide +kernel
theorem own_d31_19 : decode jdk_52_method_14_code 19 = .ok (.caload, 1) := by decide +kernel
theorem own_d31_20 : decode jdk_52_method_14_code 20 = .ok (.invokestatic 111, 3) := by decide +kernel
theorem own_d31_23 : decode jdk_52_method_14_code 23 = .ok (.iinc 1 1, 3) := by decide +kernel
theorem own_d31_26 : decode jdk_52_method_14_code 26 = .ok (.iinc 4 1, 3) := by decide +kernel
theorem own_d31_29 : decode jdk_52_method_14_code 29 = .ok (.goto (-21), 3) := by decide +kernel
theorem own_d31_32 : decode jdk_52_method_14_code 32 = .ok (.aload_n 3, 1) := by decide +kernel
theorem own_d31_33 : decode jdk_52_method_14_code 33 = .ok (.areturn, 1) := by decide +kernel
def own_Q31_1 (Z : State) (a1 : Addr) (cs : Int32) (G : Value) (u0 : Int32) (h0 : Heap) (n0 : Nat) (v : Option Value) (h : Heap) (L : List Loc) : Prop := ∃ ra0 : Addr, v = some (.ref ra0) ∧ Fr n0 L ∧ Keep h0 h [] ∧ h0.size ≤ ra0 ∧ Exa Z h ra0 "[B" ∧ own_A Z h ra0 .byte [.int ((u0 >>> ((0 : Int32) &&& 31)).toInt8.toInt32), .int ((u0 >>> ((8 : Int32) &&& 31)).toInt8.toInt32)]
set_option maxRecDepth 65536 in
set_option maxHeartbeats 40000000 in
theorem rm31_1 (l : Launch) (Z : State) (a0 : Array Value) (hw : ∀ d ∈ tables_1, d.before a0 Z = true) (ws : List Jvm.Cond) (a1 : Addr) (cs : Int32) (G : Value) (u0 : Int32) (h0 : Heap) (n0 : Nat) (Z0 : n0 ≤ h0.size) (G0p : own_G Z h0 cs G) (V1p : own_A Z h0 a1 .char [.int u0]) :
    own_M l (⟨"java/lang/StringUTF16", "toBytes", "([CII)[B"⟩ : MethodName) jdk_52_method_14_code 5 (some (.array .byte)) ws ({ frames := 2, cells := 1, slots := 6, locals := 24 } : Room) #[.ref a1, .int (0 : Int32), .int (1 : Int32)] Z h0 (own_Q31_1 Z a1 cs G u0 h0 n0) := by
  refine own_prol (C := "java/lang/StringUTF16") rfl own_pn10 (fun m => own_ef31_k0_k1 m ..) ?_
  intro p e s m below meth c s₁ hx hby hml hown hnm hlk hret X0 e0 hZ
  have N0 := Fr.nil n0
  have K0 := Keep.refl h0 []
  refine own_iloadN X0 hx (hb hby own_d31_0) (q := 1) rfl rfl ?_
  refine own_callS X0 hx hZ hown (own_h hw 163 rfl) (own_h hw 164 rfl) (own_h hw 104 rfl) (own_h hw 165 rfl) (by decide) (rm32 l Z a0 hw [] (1 : Int32) h0 n0 Z0  (by decide) (by decide) (by decide) (by decide)) own_pd8 rfl e0 (by rw [hml]; rfl) (argsL := [.int (1 : Int32)]) (st := []) rfl (W := 0) (Nat.le_of_eq rfl) (by decide) (by decide) (by decide) (by decide) (hb hby own_d31_1) (q := 4) rfl (fun v121 T122 L123 X124 hQ125 => ?_)
  obtain ⟨a129, rfl, N126, K127, O130, E131, A132⟩ := hQ125
  have G133 := G0p.keep K127 all0
  have V134 := V1p.keep K127 nin0
  have Z135 : n0 ≤ T122.heap.size := Nat.le_trans Z0 K127.1
  have K136 := K0.trans K127 all0
  have N128 := Fr.app N0 N126
  have ne137 : a1 ≠ a129 := Nat.ne_of_lt (Nat.lt_of_lt_of_le V1p.lt O130)
  have Z138 : n0 ≤ a129 := Nat.le_trans Z0 O130
  have O139 : h0.size ≤ a129 := Nat.le_trans K0.1 O130
  show own_Go _ _ _ _ (T122.setTop (mkF m 4 #[.val (.ref a1), .val (.int (0 : Int32)), .val (.int (1 : Int32)), .unset, .unset] [.ref a129]))
  rw [show (own_f33 (1 : Int32)).toNatClampNeg = 2 from by decide] at A132
  replace A132 : own_A Z T122.heap a129 .byte [.int (0 : Int32), .int (0 : Int32)] := A132
  refine own_astoreN (L' := #[.val (.ref a1), .val (.int (0 : Int32)), .val (.int (1 : Int32)), .val (.ref a129), .unset]) X124 hx (hb hby own_d31_4) (q := 5) rfl rfl rfl ?_
  refine own_iconst X124 hx (v := (0 : Int32)) (hb hby own_d31_5) (q := 6) rfl rfl ?_
  refine own_istore (L' := #[.val (.ref a1), .val (.int (0 : Int32)), .val (.int (1 : Int32)), .val (.ref a129), .val (.int (0 : Int32))]) X124 hx (hb hby own_d31_6) (q := 8) rfl rfl ?_
  refine own_iload X124 hx (hb hby own_d31_8) (q := 10) rfl rfl ?_
  refine own_iloadN X124 hx (hb hby own_d31_10) (q := 11) rfl rfl ?_
  refine own_icmpM X124 hx (hb hby own_d31_11) (cd := .ge) (x := (0 : Int32)) (y := (1 : Int32)) (pt := 32) (q := 14) (by decide) (by decide) rfl rfl (fun h => False.elim (h ((by decide) : (0 : Int32) < (1 : Int32)))) (fun _ => ?_)
  refine own_aloadN X124 hx (hb hby own_d31_14) (q := 15) rfl rfl rfl ?_
  refine own_iload X124 hx (hb hby own_d31_15) (q := 17) rfl rfl ?_
  refine own_aloadN X124 hx (hb hby own_d31_17) (q := 18) rfl rfl rfl ?_
  refine own_iloadN X124 hx (hb hby own_d31_18) (q := 19) rfl rfl ?_
  refine own_caload X124 hx hZ (i := 0) (v := .int u0) rfl V134 (by decide) (by decide) rfl (hb hby own_d31_19) (q := 20) rfl ?_
  refine own_callS X124 hx hZ hown (own_h hw 170 rfl) (own_h hw 171 rfl) (own_h hw 104 rfl) (own_h hw 172 rfl) (by decide) (rm34 l Z a0 hw [] a129 (0 : Int32) u0 cs G ([.int (0 : Int32), .int (0 : Int32)]) T122.heap n0 G133 A132 Z138 (by decide) (by decide) (by rw [show ((0 : Int32) <<< ((1 : Int32) &&& 31)).toNatClampNeg = 0 from by decide]; exact Nat.le_of_ble_eq_true rfl) (by rw [show (((0 : Int32) <<< ((1 : Int32) &&& 31)) + (1 : Int32)).toNatClampNeg = 1 from by decide]; exact Nat.le_of_ble_eq_true rfl)) own_pd6 rfl rfl (by rw [hml]; rfl) (argsL := [.ref a129, .int (0 : Int32), .int u0]) (st := []) rfl (W := 0) (Nat.le_of_eq rfl) (by decide) (by decide) (by decide) (by decide) (hb hby own_d31_20) (q := 23) rfl (fun v146 T147 L148 X149 hQ150 => ?_)
  obtain ⟨rfl, N151, K152, A154⟩ := hQ150
  have G155 := G133.keep K152 (allS (own_exaPlain E131) all0)
  have V156 := V134.keep K152 (ninS ne137 nin0)
  have E157 := E131.keep K152
  have Z158 : n0 ≤ T147.heap.size := Nat.le_trans Z135 K152.1
  have K159 := K136.trans K152 (allS (Or.inr O139) all0)
  have N153 := Fr.app N128 N151
  show own_Go _ _ _ _ (T147.setTop (mkF m 23 #[.val (.ref a1), .val (.int (0 : Int32)), .val (.int (1 : Int32)), .val (.ref a129), .val (.int (0 : Int32))] []))
  rw [show ((0 : Int32) <<< ((1 : Int32) &&& 31)).toNatClampNeg = 0 from by decide, show (((0 : Int32) <<< ((1 : Int32) &&& 31)) + (1 : Int32)).toNatClampNeg = 1 from by decide] at A154
  replace A154 : own_A Z T147.heap a129 .byte [.int ((u0 >>> ((0 : Int32) &&& 31)).toInt8.toInt32), .int ((u0 >>> ((8 : Int32) &&& 31)).toInt8.toInt32)] := A154
  refine own_iinc (L' := #[.val (.ref a1), .val (.int ((0 : Int32) + (1 : Int32))), .val (.int (1 : Int32)), .val (.ref a129), .val (.int (0 : Int32))]) X149 hx (v := (1 : Int32)) (hb hby own_d31_23) (q := 26) rfl rfl rfl rfl ?_
  rw [show ((0 : Int32) + (1 : Int32) : Int32) = (1 : Int32) from by decide]
  refine own_iinc (L' := #[.val (.ref a1), .val (.int (1 : Int32)), .val (.int (1 : Int32)), .val (.ref a129), .val (.int ((0 : Int32) + (1 : Int32)))]) X149 hx (v := (1 : Int32)) (hb hby own_d31_26) (q := 29) rfl rfl rfl rfl ?_
  rw [show ((0 : Int32) + (1 : Int32) : Int32) = (1 : Int32) from by decide]
  refine own_goto X149 hx (hb hby own_d31_29) (q := 8) (by decide) (by decide) ?_
  refine own_iload X149 hx (hb hby own_d31_8) (q := 10) rfl rfl ?_
  refine own_iloadN X149 hx (hb hby own_d31_10) (q := 11) rfl rfl ?_
  refine own_icmpM X149 hx (hb hby own_d31_11) (cd := .ge) (x := (1 : Int32)) (y := (1 : Int32)) (pt := 32) (q := 14) (by decide) (by decide) rfl rfl (fun _ => ?_) (fun h => False.elim (((by decide) : ¬ ((1 : Int32) < (1 : Int32))) h))
  refine own_aloadN X149 hx (hb hby own_d31_32) (q := 33) rfl rfl rfl ?_
  refine own_retA X149 hx hlk rfl rfl rfl hret (hb hby own_d31_33) ?_ (by decide) (by decide)
  show own_Q31_1 Z a1 cs G u0 h0 n0 _ T147.heap _
  exact ⟨a129, rfl, N153, K159, O139, E157, A154⟩
theorem own_ef19_k1 (m : MethodId) (a1 : Addr) : entryFrame m #[.ref a1, .int (1 : Int32)] 2 = mkF m 0 #[.val (.ref a1), .val (.int (1 : Int32))] [] := by first | (simp [entryFrame, mkF, argsToLocals, Value.category]; done) | rfl
theorem own_d19_0 : decode jdk_52_method_15_code 0 = .ok (.iload_n 1, 1) := by decide +kernel
theorem own_d19_1 : decode jdk_52_method_15_code 1 = .ok (.aload_n 0, 1) := by decide +kernel
theorem own_d19_2 : decode jdk_52_method_15_code 2 = .ok (.arraylength, 1) := by decide +kernel
theorem own_d19_3 : decode jdk_52_method_15_code 3 = .ok (.isub, 1) := by decide +kernel
theorem own_d19_4 : decode jdk_52_method_15_code 4 = .ok (.bipush 31, 2) := by decide +kernel
theorem own_d19_6 : decode jdk_52_method_15_code 6 = .ok (.iushr, 1) := by decide +kernel
theorem own_d19_7 : decode jdk_52_method_15_code 7 = .ok (.i2b, 1) := by decide +kernel
theorem own_d19_8 : decode jdk_52_method_15_code 8 = .ok (.ireturn, 1) := by decide +kernel
def own_f19_1_1  : Int32 := (0 : Int32)
set_option maxRecDepth 65536 in
set_option maxHeartbeats 40000000 in
theorem rm19_1_1 (l : Launch) (Z : State) (a0 : Array Value) (hw : ∀ d ∈ tables_1, d.before a0 Z = true) (ws : List Jvm.Cond) (a1 : Addr) (vs : List Value) (h0 : Heap) (V0p : own_A Z h0 a1 .byte vs) (hl_vs : vs.length = 1)  :
    own_M l (⟨"java/lang/StringUTF16", "coderFromArrayLen", "([BI)B"⟩ : MethodName) jdk_52_method_15_code 2 (some .byte) ws ({ frames := 0, cells := 0, slots := 0, locals := 0 } : Room) #[.ref a1, .int (1 : Int32)] Z h0 (own_P (.int (own_f19_1_1 )) h0) := by
  refine own_prol (C := "java/lang/StringUTF16") rfl own_pn10 (fun m => own_ef19_k1 m ..) ?_
  intro p e s m below meth c s₁ hx hby hml hown hnm hlk hret X0 e0 hZ
  refine own_iloadN X0 hx (hb hby own_d19_0) (q := 1) rfl rfl ?_
  refine own_aloadN X0 hx (hb hby own_d19_1) (q := 2) rfl rfl rfl ?_
  refine own_alen X0 hx hZ (n := (1 : Int32)) e0 V0p (by rw [hl_vs]; rfl) (hb hby own_d19_2) (q := 3) rfl ?_
  refine own_isub X0 hx (hb hby own_d19_3) (q := 4) rfl ?_
  rw [show ((1 : Int32) - (1 : Int32) : Int32) = (0 : Int32) from by decide]
  refine own_bipush X0 hx (v := (31 : Int32)) (hb hby own_d19_4) (q := 6) rfl rfl ?_
  refine own_iushr X0 hx (hb hby own_d19_6) (q := 7) rfl ?_
  rw [show (XT.ushr (0 : Int32) (31 : Int32) : Int32) = (0 : Int32) from by decide]
  refine own_i2b X0 hx (hb hby own_d19_7) (q := 8) rfl ?_
  rw [show ((0 : Int32).toInt8.toInt32 : Int32) = (0 : Int32) from by decide]
  refine own_retN X0 hx hlk (t := .byte) (by simp) hret (hb hby own_d19_8) ?_ (by decide) (by decide)
  have r : own_f19_1_1  = (0 : Int32) := by rw [own_f19_1_1]
  exact ⟨by rw [r] <;> rfl, e0, rfl⟩

def own_f19_2_1  : Int32 := (1 : Int32)
set_option maxRecDepth 65536 in
set_option maxHeartbeats 40000000 in
theorem rm19_2_1 (l : Launch) (Z : State) (a0 : Array Value) (hw : ∀ d ∈ tables_1, d.before a0 Z = true) (ws : List Jvm.Cond) (a1 : Addr) (vs : List Value) (h0 : Heap) (V0p : own_A Z h0 a1 .byte vs) (hl_vs : vs.length = 2)  :
    own_M l (⟨"java/lang/StringUTF16", "coderFromArrayLen", "([BI)B"⟩ : MethodName) jdk_52_method_15_code 2 (some .byte) ws ({ frames := 0, cells := 0, slots := 0, locals := 0 } : Room) #[.ref a1, .int (1 : Int32)] Z h0 (own_P (.int (own_f19_2_1 )) h0) := by
  refine own_prol (C := "java/lang/StringUTF16") rfl own_pn10 (fun m => own_ef19_k1 m ..) ?_
  intro p e s m below meth c s₁ hx hby hml hown hnm hlk hret X0 e0 hZ
  refine own_iloadN X0 hx (hb hby own_d19_0) (q := 1) rfl rfl ?_
  refine own_aloadN X0 hx (hb hby own_d19_1) (q := 2) rfl rfl rfl ?_
  refine own_alen X0 hx hZ (n := (2 : Int32)) e0 V0p (by rw [hl_vs]; rfl) (hb hby own_d19_2) (q := 3) rfl ?_
  refine own_isub X0 hx (hb hby own_d19_3) (q := 4) rfl ?_
  rw [show ((1 : Int32) - (2 : Int32) : Int32) = (-1 : Int32) from by decide]
  refine own_bipush X0 hx (v := (31 : Int32)) (hb hby own_d19_4) (q := 6) rfl rfl ?_
  refine own_iushr X0 hx (hb hby own_d19_6) (q := 7) rfl ?_
  rw [show (XT.ushr (-1 : Int32) (31 : Int32) : Int32) = (1 : Int32) from by decide]
  refine own_i2b X0 hx (hb hby own_d19_7) (q := 8) rfl ?_
  rw [show ((1 : Int32).toInt8.toInt32 : Int32) = (1 : Int32) from by decide]
  refine own_retN X0 hx hlk (t := .byte) (by simp) hret (hb hby own_d19_8) ?_ (by decide) (by decide)
  have r : own_f19_2_1  = (1 : Int32) := by rw [own_f19_2_1]
  exact ⟨by rw [r] <;> rfl, e0, rfl⟩
theorem own_ef18_k0_k0_k1 (m : MethodId) (a1 : Addr) (a3 : Addr) : entryFrame m #[.ref a1, .int (0 : Int32), .ref a3, .int (0 : Int32), .int (1 : Int32)] 7 = mkF m 0 #[.val (.ref a1), .val (.int (0 : Int32)), .val (.ref a3), .val (.int (0 : Int32)), .val (.int (1 : Int32)), .unset, .unset] [] := by first | (simp [entryFrame, mkF, argsToLocals, Value.category]; done) | rfl
theorem own_d18_0 : decode jdk_52_method_21_code 0 = .ok (.iconst 0, 1) := by decide +kernel
theorem own_d18_1 : decode jdk_52_method_21_code 1 = .ok (.istore 5, 2) := by decide +kernel
theorem own_d18_3 : decode jdk_52_method_21_code 3 = .ok (.iload 5, 2) := by decide +kernel
theorem own_d18_5 : decode jdk_52_method_21_code 5 = .ok (.iload 4, 2) := by decide +kernel
theorem own_d18_7 : decode jdk_52_method_21_code 7 = .ok (.if_icmp .ge 37, 3) := by decide +kernel
theorem own_d18_10 : decode jdk_52_method_21_code 10 = .ok (.aload_n 0, 1) := by decide +kernel
theorem own_d18_11 : decode jdk_52_method_21_code 11 = .ok (.iload_n 1, 1) := by decide +kernel
theorem own_d18_12 : decode jdk_52_method_21_code 12 = .ok (.caload, 1) := by decide +kernel
theorem own_d18_13 : decode jdk_52_method_21_code 13 = .ok (.istore 6, 2) := by decide +kernel
theorem own_d18_15 : decode jdk_52_method_21_code 15 = .ok (.iload 6, 2) := by decide +kernel
theorem own_d18_17 : decode jdk_52_method_21_code 17 = .ok (.sipush 255, 3) := by decide +kernel
theorem own_d18_20 : decode jdk_52_method_21_code 20 = .ok (.if_icmp .le 6, 3) := by decide +kernel
theorem own_d18_23 : decode jdk_52_method_21_code 23 = .ok (.iload 5, 2) := by decide +kernel
theorem own_d18_25 : decode jdk_52_method_21_code 25 = .ok (.ireturn, 1) := by decide +kernel
def own_f18_10 (a1 : Addr) (a3 : Addr) (u0 : Int32) : Int32 := (0 : Int32)
def own_Q18_10 (Z : State) (a1 : Addr) (a3 : Addr) (u0 : Int32) (h0 : Heap) (n0 : Nat) (v : Option Value) (h : Heap) (L : List Loc) : Prop := v = some (.int (own_f18_10 a1 a3 u0)) ∧ Fr n0 L ∧ Keep h0 h [a3] ∧ own_A Z h a1 .char [.int u0] ∧ own_A Z h a3 .byte [.int (0 : Int32)]
set_option maxRecDepth 65536 in
set_option maxHeartbeats 40000000 in
theorem rm18_10 (l : Launch) (Z : State) (a0 : Array Value) (hw : ∀ d ∈ tables_1, d.before a0 Z = true) (ws : List Jvm.Cond) (a1 : Addr) (a3 : Addr) (u0 : Int32) (h0 : Heap) (n0 : Nat) (V0p : own_A Z h0 a1 .char [.int u0]) (V1p : own_A Z h0 a3 .byte [.int (0 : Int32)]) (G_a3 : n0 ≤ a3) (ne_a1_a3 : a1 ≠ a3)  (kn0 : (255 : Int32) < u0) :
    own_M l (⟨"java/lang/StringUTF16", "compress", "([CI[BII)I"⟩ : MethodName) jdk_52_method_21_code 7 (some .int) ws ({ frames := 0, cells := 0, slots := 0, locals := 0 } : Room) #[.ref a1, .int (0 : Int32), .ref a3, .int (0 : Int32), .int (1 : Int32)] Z h0 (own_Q18_10 Z a1 a3 u0 h0 n0) := by
  refine own_prol (C := "java/lang/StringUTF16") rfl own_pn10 (fun m => own_ef18_k0_k0_k1 m ..) ?_
  intro p e s m below meth c s₁ hx hby hml hown hnm hlk hret X0 e0 hZ
  have N0 := Fr.nil n0
  have K0 := Keep.refl h0 [a3]
  refine own_iconst X0 hx (v := (0 : Int32)) (hb hby own_d18_0) (q := 1) rfl rfl ?_
  refine own_istore (L' := #[.val (.ref a1), .val (.int (0 : Int32)), .val (.ref a3), .val (.int (0 : Int32)), .val (.int (1 : Int32)), .val (.int (0 : Int32)), .unset]) X0 hx (hb hby own_d18_1) (q := 3) rfl rfl ?_
  refine own_iload X0 hx (hb hby own_d18_3) (q := 5) rfl rfl ?_
  refine own_iload X0 hx (hb hby own_d18_5) (q := 7) rfl rfl ?_
  refine own_icmpM X0 hx (hb hby own_d18_7) (cd := .ge) (x := (0 : Int32)) (y := (1 : Int32)) (pt := 44) (q := 10) (by decide) (by decide) rfl rfl (fun h => False.elim (h ((by decide) : (0 : Int32) < (1 : Int32)))) (fun _ => ?_)
  refine own_aloadN X0 hx (hb hby own_d18_10) (q := 11) rfl rfl rfl ?_
  refine own_iloadN X0 hx (hb hby own_d18_11) (q := 12) rfl rfl ?_
  refine own_caload X0 hx hZ (i := 0) (v := .int u0) e0 V0p (by decide) (by decide) rfl (hb hby own_d18_12) (q := 13) rfl ?_
  refine own_istore (L' := #[.val (.ref a1), .val (.int (0 : Int32)), .val (.ref a3), .val (.int (0 : Int32)), .val (.int (1 : Int32)), .val (.int (0 : Int32)), .val (.int u0)]) X0 hx (hb hby own_d18_13) (q := 15) rfl rfl ?_
  refine own_iload X0 hx (hb hby own_d18_15) (q := 17) rfl rfl ?_
  refine own_sipush X0 hx (v := (255 : Int32)) (hb hby own_d18_17) (q := 20) rfl rfl ?_
  refine own_icmpM X0 hx (hb hby own_d18_20) (cd := .le) (x := u0) (y := (255 : Int32)) (pt := 26) (q := 23) (by decide) (by decide) rfl rfl (fun h => False.elim (h (kn0 : (255 : Int32) < u0))) (fun _ => ?_)
  refine own_iload X0 hx (hb hby own_d18_23) (q := 25) rfl rfl ?_
  refine own_retI X0 hx hlk hret (hb hby own_d18_25) ?_ (by decide) (by decide)
  have r : own_f18_10 a1 a3 u0 = (0 : Int32) := by rw [own_f18_10]
  show own_Q18_10 Z a1 a3 u0 h0 n0 _ s₁.heap _
  rw [e0]
  exact ⟨(by rw [r] <;> rfl), N0, K0, V0p, V1p⟩
theorem own_pd9 : parseMethodDescriptor "([CI[BII)I" = some ⟨[(.array .char), .int, (.array .byte), .int, .int], some .int⟩ := by decide +kernel
theorem own_pd10 : parseMethodDescriptor "([CII)[B" = some ⟨[(.array .char), .int, .int], some (.array .byte)⟩ := by decide +kernel
theorem own_pd11 : parseMethodDescriptor "([BI)C" = some ⟨[(.array .byte), .int], some .char⟩ := by decide +kernel
theorem own_ef17_k0_k1 (m : MethodId) (a1 : Addr) : entryFrame m #[.ref a1, .int (0 : Int32), .int (1 : Int32)] 6 = mkF m 0 #[.val (.ref a1), .val (.int (0 : Int32)), .val (.int (1 : Int32)), .unset, .unset, .unset] [] := by first | (simp [entryFrame, mkF, argsToLocals, Value.category]; done) | rfl
theorem own_d17_0 : decode jdk_52_method_16_code 0 = .ok (.iload_n 2, 1) := by decide +kernel
theorem own_d17_1 : decode jdk_52_method_16_code 1 = .ok (.newarray .byte, 2) := by decide +kernel
theorem own_d17_3 : decode jdk_52_method_16_code 3 = .ok (.astore_n 3, 1) := by decide +kernel
theorem own_d17_4 : decode jdk_52_method_16_code 4 = .ok (.aload_n 0, 1) := by decide +kernel
theorem own_d17_5 : decode jdk_52_method_16_code 5 = .ok (.iload_n 1, 1) := by decide +kernel
theorem own_d17_6 : decode jdk_52_method_16_code 6 = .ok (.aload_n 3, 1) := by decide +kernel
theorem own_d17_7 : decode jdk_52_method_16_code 7 = .ok (.iconst 0, 1) := by decide +kernel
theorem own_d17_8 : decode jdk_52_method_16_code 8 = .ok (.iload_n 2, 1) := by decide +kernel
theorem own_d17_9 : decode jdk_52_method_16_code 9 = .ok (.invokestatic 115, 3) := by decide +kernel
theorem own_d17_12 : decode jdk_52_method_16_code 12 = .ok (.istore 4, 2) := by decide +kernel
theorem own_d17_14 : decode jdk_52_method_16_code 14 = .ok (.iload 4, 2) := by decide +kernel
theorem own_d17_16 : decode jdk_52_method_16_code 16 = .ok (.iload_n 2, 1) := by decide +kernel
theorem own_d17_17 : decode jdk_52_method_16_code 17 = .ok (.if_icmp .eq 40, 3) := by decide +kernel
theorem own_d17_20 : decode jdk_52_method_16_code 20 = .ok (.aload_n 0, 1) := by decide +kernel
theorem own_d17_21 : decode jdk_52_method_16_code 21 = .ok (.iload_n 1, 1) := by decide +kernel
theorem own_d17_22 : decode jdk_52_method_16_code 22 = .ok (.iload_n 2, 1) := by decide +kernel
theorem own_d17_23 : decode jdk_52_method_16_code 23 = .ok (.invokestatic 119, 3) := by decide +kernel
theorem own_d17_26 : decode jdk_52_method_16_code 26 = .ok (.astore 5, 2) := by decide +kernel
theorem own_d17_28 : decode jdk_52_method_16_code 28 = .ok (.aload 5, 2) := by decide +kernel
theorem own_d17_30 : decode jdk_52_method_16_code 30 = .ok (.iload 4, 2) := by decide +kernel
theorem own_d17_32 : decode jdk_52_method_16_code 32 = .ok (.invokestatic 71, 3) := by decide +kernel
theorem own_d17_35 : decode jdk_52_method_16_code 35 = .ok (.sipush 255, 3) := by decide +kernel
theorem own_d17_38 : decode jdk_52_method_16_code 38 = .ok (.if_icmp .gt 16, 3) := by decide +kernel
theorem own_d17_54 : decode jdk_52_method_16_code 54 = .ok (.aload 5, 2) := by decide +kernel
theorem own_d17_56 : decode jdk_52_method_16_code 56 = .ok (.areturn, 1) := by decide +kernel
def own_Q17_10 (Z : State) (a1 : Addr) (cs : Int32) (G : Value) (u0 : Int32) (h0 : Heap) (n0 : Nat) (v : Option Value) (h : Heap) (L : List Loc) : Prop := ∃ ra0 : Addr, v = some (.ref ra0) ∧ Fr n0 L ∧ Keep h0 h [] ∧ h0.size ≤ ra0 ∧ Exa Z h ra0 "[B" ∧ own_A Z h ra0 .byte [.int ((u0 >>> ((0 : Int32) &&& 31)).toInt8.toInt32), .int ((u0 >>> ((8 : Int32) &&& 31)).toInt8.toInt32)]
set_option maxRecDepth 65536 in
set_option maxHeartbeats 40000000 in
theorem rm17_10 (l : Launch) (Z : State) (a0 : Array Value) (hw : ∀ d ∈ tables_1, d.before a0 Z = true) (ws : List Jvm.Cond) (a1 : Addr) (cs : Int32) (G : Value) (u0 : Int32) (h0 : Heap) (n0 : Nat) (Z0 : n0 ≤ h0.size) (G0p : own_G Z h0 cs G) (V1p : own_A Z h0 a1 .char [.int u0])  (kn0 : (255 : Int32) < u0) (kn1 : ¬ (u0 < (0 : Int32))) (kn2 : ¬ ((65535 : Int32) < u0)) :
    own_M l (⟨"java/lang/StringUTF16", "compress", "([CII)[B"⟩ : MethodName) jdk_52_method_16_code 6 (some (.array .byte)) ws ({ frames := 3, cells := 2, slots := 7, locals := 40 } : Room) #[.ref a1, .int (0 : Int32), .int (1 : Int32)] Z h0 (own_Q17_10 Z a1 cs G u0 h0 n0) := by
  refine own_prol (C := "java/lang/StringUTF16") rfl own_pn10 (fun m => own_ef17_k0_k1 m ..) ?_
  intro p e s m below meth c s₁ hx hby hml hown hnm hlk hret X0 e0 hZ
  have N0 := Fr.nil n0
  have K0 := Keep.refl h0 []
  refine own_iloadN X0 hx (hb hby own_d17_0) (q := 1) rfl rfl ?_
  refine own_newE X0 hx hZ (aty := .byte) (ty := .byte) (ad := "[B") (k := 1) (cap := 1) rfl rfl (own_h hw 15 rfl) e0 (by decide) (by decide) (by decide) (by decide) (by decide) (by decide) (hb hby own_d17_1) (q := 3) rfl (fun T160 h163 a164 X161 e162 g165 E166 A167 E168 => ?_)
  have O169 : h0.size ≤ a164 := by rw [g165]; exact K0.1
  have L170 := G0p.ext E166
  have V171 := V1p.ext E166
  have K172 := K0.ext E166
  have ne173 : a1 ≠ a164 := by rw [g165]; exact Nat.ne_of_lt V1p.lt
  have Z174 : n0 ≤ a164 := by rw [g165]; exact Z0
  have Z175 : n0 ≤ h163.size := Nat.le_trans Z0 E166.1
  replace A167 : own_A Z h163 a164 .byte [.int (0 : Int32)] := A167
  refine own_astoreN (L' := #[.val (.ref a1), .val (.int (0 : Int32)), .val (.int (1 : Int32)), .val (.ref a164), .unset, .unset]) X161 hx (hb hby own_d17_3) (q := 4) rfl rfl rfl ?_
  refine own_aloadN X161 hx (hb hby own_d17_4) (q := 5) rfl rfl rfl ?_
  refine own_iloadN X161 hx (hb hby own_d17_5) (q := 6) rfl rfl ?_
  refine own_aloadN X161 hx (hb hby own_d17_6) (q := 7) rfl rfl rfl ?_
  refine own_iconst X161 hx (v := (0 : Int32)) (hb hby own_d17_7) (q := 8) rfl rfl ?_
  refine own_iloadN X161 hx (hb hby own_d17_8) (q := 9) rfl rfl ?_
  refine own_callS X161 hx hZ hown (own_h hw 106 rfl) (own_h hw 107 rfl) (own_h hw 104 rfl) (own_h hw 108 rfl) (by decide) (rm18_10 l Z a0 hw [] a1 a164 u0 h163 n0 V171 A167 Z174 ne173 kn0) own_pd9 rfl e162 (by rw [hml]; rfl) (argsL := [.ref a1, .int (0 : Int32), .ref a164, .int (0 : Int32), .int (1 : Int32)]) (st := []) rfl (W := 0) (Nat.le_of_eq rfl) (by decide) (by decide) (by decide) (by decide) (hb hby own_d17_9) (q := 12) rfl (fun v182 T183 L184 X185 hQ186 => ?_)
  obtain ⟨rfl, N187, K188, A190, A191⟩ := hQ186
  have L192 := L170.keep K188 (allS (own_exaPlain E168) all0)
  have E193 := E168.keep K188
  have Z194 : n0 ≤ T183.heap.size := Nat.le_trans Z175 K188.1
  have K195 := K172.trans K188 (allS (Or.inr O169) all0)
  have N189 := Fr.app N0 N187
  show own_Go _ _ _ _ (T183.setTop (mkF m 12 #[.val (.ref a1), .val (.int (0 : Int32)), .val (.int (1 : Int32)), .val (.ref a164), .unset, .unset] [.int (0 : Int32)]))
  refine own_istore (L' := #[.val (.ref a1), .val (.int (0 : Int32)), .val (.int (1 : Int32)), .val (.ref a164), .val (.int (0 : Int32)), .unset]) X185 hx (hb hby own_d17_12) (q := 14) rfl rfl ?_
  refine own_iload X185 hx (hb hby own_d17_14) (q := 16) rfl rfl ?_
  refine own_iloadN X185 hx (hb hby own_d17_16) (q := 17) rfl rfl ?_
  refine own_icmpP X185 hx (hb hby own_d17_17) (cd := .eq) (x := (0 : Int32)) (y := (1 : Int32)) (pt := 57) (q := 20) (by decide) (by decide) rfl rfl (fun h => False.elim (((by decide) : ¬ ((0 : Int32) = (1 : Int32))) h)) (fun _ => ?_)
  refine own_aloadN X185 hx (hb hby own_d17_20) (q := 21) rfl rfl rfl ?_
  refine own_iloadN X185 hx (hb hby own_d17_21) (q := 22) rfl rfl ?_
  refine own_iloadN X185 hx (hb hby own_d17_22) (q := 23) rfl rfl ?_
  refine own_callS X185 hx hZ hown (own_h hw 160 rfl) (own_h hw 161 rfl) (own_h hw 104 rfl) (own_h hw 162 rfl) (by decide) (rm31_1 l Z a0 hw [] a1 cs G u0 T183.heap n0 Z194 L192 A190 ) own_pd10 rfl rfl (by rw [hml]; rfl) (argsL := [.ref a1, .int (0 : Int32), .int (1 : Int32)]) (st := []) rfl (W := 0) (Nat.le_of_eq rfl) (by decide) (by decide) (by decide) (by decide) (hb hby own_d17_23) (q := 26) rfl (fun v202 T203 L204 X205 hQ206 => ?_)
  obtain ⟨a210, rfl, N207, K208, O211, E212, A213⟩ := hQ206
  have L214 := L192.keep K208 all0
  have A215 := A190.keep K208 nin0
  have A216 := A191.keep K208 nin0
  have E217 := E193.keep K208
  have Z218 : n0 ≤ T203.heap.size := Nat.le_trans Z194 K208.1
  have K219 := K195.trans K208 all0
  have N209 := Fr.app N189 N207
  have ne220 : a1 ≠ a210 := Nat.ne_of_lt (Nat.lt_of_lt_of_le A190.lt O211)
  have ne221 : a164 ≠ a210 := Nat.ne_of_lt (Nat.lt_of_lt_of_le E193.lt O211)
  have Z222 : n0 ≤ a210 := Nat.le_trans Z194 O211
  have O223 : h0.size ≤ a210 := Nat.le_trans K195.1 O211
  show own_Go _ _ _ _ (T203.setTop (mkF m 26 #[.val (.ref a1), .val (.int (0 : Int32)), .val (.int (1 : Int32)), .val (.ref a164), .val (.int (0 : Int32)), .unset] [.ref a210]))
  refine own_astore (L' := #[.val (.ref a1), .val (.int (0 : Int32)), .val (.int (1 : Int32)), .val (.ref a164), .val (.int (0 : Int32)), .val (.ref a210)]) X205 hx (hb hby own_d17_26) (q := 28) rfl rfl rfl ?_
  refine own_aload X205 hx (hb hby own_d17_28) (q := 30) rfl rfl rfl ?_
  refine own_iload X205 hx (hb hby own_d17_30) (q := 32) rfl rfl ?_
  refine own_callSP X205 hx hZ hown (own_h hw 176 rfl) (own_h hw 177 rfl) (own_h hw 104 rfl) (own_h hw 178 rfl) (by decide) (rm35 l Z a0 hw [] a210 (0 : Int32) cs G ([.int ((u0 >>> ((0 : Int32) &&& 31)).toInt8.toInt32), .int ((u0 >>> ((8 : Int32) &&& 31)).toInt8.toInt32)]) ((u0 >>> ((0 : Int32) &&& 31)).toInt8.toInt32) ((u0 >>> ((8 : Int32) &&& 31)).toInt8.toInt32) T203.heap L214 A213 (by decide) (by decide) (by rw [show ((0 : Int32) <<< ((1 : Int32) &&& 31)).toNatClampNeg = 0 from by decide]; rfl) (by rw [show (((0 : Int32) <<< ((1 : Int32) &&& 31)) + (1 : Int32)).toNatClampNeg = 1 from by decide]; rfl)) own_pd11 rfl rfl (by rw [hml]; rfl) (argsL := [.ref a210, .int (0 : Int32)]) (st := []) rfl (W := 0) (Nat.le_of_eq rfl) (by decide) (by decide) (by decide) (by decide) (hb hby own_d17_32) (q := 35) rfl (fun T224 X225 e226 => ?_)
  refine own_sipush X225 hx (v := (255 : Int32)) (hb hby own_d17_35) (q := 38) rfl rfl ?_
  refine own_icmpP X225 hx (hb hby own_d17_38) (cd := .gt) (x := own_f35 (0 : Int32) cs ((u0 >>> ((0 : Int32) &&& 31)).toInt8.toInt32) ((u0 >>> ((8 : Int32) &&& 31)).toInt8.toInt32)) (y := (255 : Int32)) (pt := 54) (q := 41) (by decide) (by decide) rfl rfl (fun _ => ?_) (fun h => False.elim (h ((by unfold own_f35; rw [own_rt kn1 kn2]; exact kn0) : (255 : Int32) < (own_f35 (0 : Int32) cs ((u0 >>> ((0 : Int32) &&& 31)).toInt8.toInt32) ((u0 >>> ((8 : Int32) &&& 31)).toInt8.toInt32)))))
  refine own_aload X225 hx (hb hby own_d17_54) (q := 56) rfl rfl rfl ?_
  refine own_retA X225 hx hlk rfl rfl rfl hret (hb hby own_d17_56) ?_ (by decide) (by decide)
  show own_Q17_10 Z a1 cs G u0 h0 n0 _ T224.heap _
  rw [e226]
  exact ⟨a210, rfl, N209, K219, O223, E212, A213⟩
theorem own_d18_26 : decode jdk_52_method_21_code 26 = .ok (.aload_n 2, 1) := by decide +kernel
theorem own_d18_27 : decode jdk_52_method_21_code 27 = .ok (.iload_n 3, 1) := by decide +kernel
theorem own_d18_28 : decode jdk_52_method_21_code 28 = .ok (.iload 6, 2) := by decide +kernel
theorem own_d18_30 : decode jdk_52_method_21_code 30 = .ok (.i2b, 1) := by decide +kernel
theorem own_d18_31 : decode jdk_52_method_21_code 31 = .ok (.bastore, 1) := by decide +kernel
theorem own_d18_32 : decode jdk_52_method_21_code 32 = .ok (.iinc 1 1, 3) := by decide +kernel
theorem own_d18_35 : decode jdk_52_method_21_code 35 = .ok (.iinc 3 1, 3) := by decide +kernel
theorem own_d18_38 : decode jdk_52_method_21_code 38 = .ok (.iinc 5 1, 3) := by decide +kernel
theorem own_d18_41 : decode jdk_52_method_21_code 41 = .ok (.goto (-38), 3) := by decide +kernel
theorem own_d18_44 : decode jdk_52_method_21_code 44 = .ok (.iload 4, 2) := by decide +kernel
theorem own_d18_46 : decode jdk_52_method_21_code 46 = .ok (.ireturn, 1) := by decide +kernel
def own_f18_11 (a1 : Addr) (a3 : Addr) (u0 : Int32) : Int32 := (1 : Int32)
def own_Q18_11 (Z : State) (a1 : Addr) (a3 : Addr) (u0 : Int32) (h0 : Heap) (n0 : Nat) (v : Option Value) (h : Heap) (L : List Loc) : Prop := v = some (.int (own_f18_11 a1 a3 u0)) ∧ Fr n0 L ∧ Keep h0 h [a3] ∧ own_A Z h a1 .char [.int u0] ∧ own_A Z h a3 .byte [.int u0.toInt8.toInt32]
set_option maxRecDepth 65536 in
set_option maxHeartbeats 40000000 in
theorem rm18_11 (l : Launch) (Z : State) (a0 : Array Value) (hw : ∀ d ∈ tables_1, d.before a0 Z = true) (ws : List Jvm.Cond) (a1 : Addr) (a3 : Addr) (u0 : Int32) (h0 : Heap) (n0 : Nat) (V0p : own_A Z h0 a1 .char [.int u0]) (V1p : own_A Z h0 a3 .byte [.int (0 : Int32)]) (G_a3 : n0 ≤ a3) (ne_a1_a3 : a1 ≠ a3)  (kn0 : ¬ ((255 : Int32) < u0)) :
    own_M l (⟨"java/lang/StringUTF16", "compress", "([CI[BII)I"⟩ : MethodName) jdk_52_method_21_code 7 (some .int) ws ({ frames := 0, cells := 0, slots := 0, locals := 0 } : Room) #[.ref a1, .int (0 : Int32), .ref a3, .int (0 : Int32), .int (1 : Int32)] Z h0 (own_Q18_11 Z a1 a3 u0 h0 n0) := by
  refine own_prol (C := "java/lang/StringUTF16") rfl own_pn10 (fun m => own_ef18_k0_k0_k1 m ..) ?_
  intro p e s m below meth c s₁ hx hby hml hown hnm hlk hret X0 e0 hZ
  have N0 := Fr.nil n0
  have K0 := Keep.refl h0 [a3]
  refine own_iconst X0 hx (v := (0 : Int32)) (hb hby own_d18_0) (q := 1) rfl rfl ?_
  refine own_istore (L' := #[.val (.ref a1), .val (.int (0 : Int32)), .val (.ref a3), .val (.int (0 : Int32)), .val (.int (1 : Int32)), .val (.int (0 : Int32)), .unset]) X0 hx (hb hby own_d18_1) (q := 3) rfl rfl ?_
  refine own_iload X0 hx (hb hby own_d18_3) (q := 5) rfl rfl ?_
  refine own_iload X0 hx (hb hby own_d18_5) (q := 7) rfl rfl ?_
  refine own_icmpM X0 hx (hb hby own_d18_7) (cd := .ge) (x := (0 : Int32)) (y := (1 : Int32)) (pt := 44) (q := 10) (by decide) (by decide) rfl rfl (fun h => False.elim (h ((by decide) : (0 : Int32) < (1 : Int32)))) (fun _ => ?_)
  refine own_aloadN X0 hx (hb hby own_d18_10) (q := 11) rfl rfl rfl ?_
  refine own_iloadN X0 hx (hb hby own_d18_11) (q := 12) rfl rfl ?_
  refine own_caload X0 hx hZ (i := 0) (v := .int u0) e0 V0p (by decide) (by decide) rfl (hb hby own_d18_12) (q := 13) rfl ?_
  refine own_istore (L' := #[.val (.ref a1), .val (.int (0 : Int32)), .val (.ref a3), .val (.int (0 : Int32)), .val (.int (1 : Int32)), .val (.int (0 : Int32)), .val (.int u0)]) X0 hx (hb hby own_d18_13) (q := 15) rfl rfl ?_
  refine own_iload X0 hx (hb hby own_d18_15) (q := 17) rfl rfl ?_
  refine own_sipush X0 hx (v := (255 : Int32)) (hb hby own_d18_17) (q := 20) rfl rfl ?_
  refine own_icmpM X0 hx (hb hby own_d18_20) (cd := .le) (x := u0) (y := (255 : Int32)) (pt := 26) (q := 23) (by decide) (by decide) rfl rfl (fun _ => ?_) (fun h => False.elim ((kn0 : ¬ ((255 : Int32) < u0)) h))
  refine own_aloadN X0 hx (hb hby own_d18_26) (q := 27) rfl rfl rfl ?_
  refine own_iloadN X0 hx (hb hby own_d18_27) (q := 28) rfl rfl ?_
  refine own_iload X0 hx (hb hby own_d18_28) (q := 30) rfl rfl ?_
  refine own_i2b X0 hx (hb hby own_d18_30) (q := 31) rfl ?_
  refine own_bastore X0 hx hZ (i := 0) e0 V1p (by decide) (by decide) (Nat.le_of_ble_eq_true rfl) (hb hby own_d18_31) (q := 32) rfl (fun T227 h230 X228 e229 W231 A232 => ?_)
  rw [own_bb] at A232
  replace A232 : own_A Z h230 a3 .byte [.int u0.toInt8.toInt32] := A232
  have V233 := V0p.other W231 ne_a1_a3
  have K234 := K0.wr W231 (Or.inl (List.mem_of_getElem? (i := 0) rfl))
  have N235 := Fr.snoc X228 N0 G_a3
  refine own_iinc (L' := #[.val (.ref a1), .val (.int ((0 : Int32) + (1 : Int32))), .val (.ref a3), .val (.int (0 : Int32)), .val (.int (1 : Int32)), .val (.int (0 : Int32)), .val (.int u0)]) X228 hx (v := (1 : Int32)) (hb hby own_d18_32) (q := 35) rfl rfl rfl rfl ?_
  rw [show ((0 : Int32) + (1 : Int32) : Int32) = (1 : Int32) from by decide]
  refine own_iinc (L' := #[.val (.ref a1), .val (.int (1 : Int32)), .val (.ref a3), .val (.int ((0 : Int32) + (1 : Int32))), .val (.int (1 : Int32)), .val (.int (0 : Int32)), .val (.int u0)]) X228 hx (v := (1 : Int32)) (hb hby own_d18_35) (q := 38) rfl rfl rfl rfl ?_
  rw [show ((0 : Int32) + (1 : Int32) : Int32) = (1 : Int32) from by decide]
  refine own_iinc (L' := #[.val (.ref a1), .val (.int (1 : Int32)), .val (.ref a3), .val (.int (1 : Int32)), .val (.int (1 : Int32)), .val (.int ((0 : Int32) + (1 : Int32))), .val (.int u0)]) X228 hx (v := (1 : Int32)) (hb hby own_d18_38) (q := 41) rfl rfl rfl rfl ?_
  rw [show ((0 : Int32) + (1 : Int32) : Int32) = (1 : Int32) from by decide]
  refine own_goto X228 hx (hb hby own_d18_41) (q := 3) (by decide) (by decide) ?_
  refine own_iload X228 hx (hb hby own_d18_3) (q := 5) rfl rfl ?_
  refine own_iload X228 hx (hb hby own_d18_5) (q := 7) rfl rfl ?_
  refine own_icmpM X228 hx (hb hby own_d18_7) (cd := .ge) (x := (1 : Int32)) (y := (1 : Int32)) (pt := 44) (q := 10) (by decide) (by decide) rfl rfl (fun _ => ?_) (fun h => False.elim (((by decide) : ¬ ((1 : Int32) < (1 : Int32))) h))
  refine own_iload X228 hx (hb hby own_d18_44) (q := 46) rfl rfl ?_
  refine own_retI X228 hx hlk hret (hb hby own_d18_46) ?_ (by decide) (by decide)
  have r : own_f18_11 a1 a3 u0 = (1 : Int32) := by rw [own_f18_11]
  show own_Q18_11 Z a1 a3 u0 h0 n0 _ T227.heap _
  rw [e229]
  exact ⟨(by rw [r] <;> rfl), N235, K234, V233, A232⟩
theorem own_d17_57 : decode jdk_52_method_16_code 57 = .ok (.aload_n 3, 1) := by decide +kernel
theorem own_d17_58 : decode jdk_52_method_16_code 58 = .ok (.areturn, 1) := by decide +kernel
def own_Q17_11 (Z : State) (a1 : Addr) (cs : Int32) (G : Value) (u0 : Int32) (h0 : Heap) (n0 : Nat) (v : Option Value) (h : Heap) (L : List Loc) : Prop := ∃ ra0 : Addr, v = some (.ref ra0) ∧ Fr n0 L ∧ Keep h0 h [] ∧ h0.size ≤ ra0 ∧ Exa Z h ra0 "[B" ∧ own_A Z h ra0 .byte [.int u0.toInt8.toInt32]
set_option maxRecDepth 65536 in
set_option maxHeartbeats 40000000 in
theorem rm17_11 (l : Launch) (Z : State) (a0 : Array Value) (hw : ∀ d ∈ tables_1, d.before a0 Z = true) (ws : List Jvm.Cond) (a1 : Addr) (cs : Int32) (G : Value) (u0 : Int32) (h0 : Heap) (n0 : Nat) (Z0 : n0 ≤ h0.size) (G0p : own_G Z h0 cs G) (V1p : own_A Z h0 a1 .char [.int u0])  (kn0 : ¬ ((255 : Int32) < u0)) (kn1 : ¬ (u0 < (0 : Int32))) (kn2 : ¬ ((65535 : Int32) < u0)) :
    own_M l (⟨"java/lang/StringUTF16", "compress", "([CII)[B"⟩ : MethodName) jdk_52_method_16_code 6 (some (.array .byte)) ws ({ frames := 1, cells := 1, slots := 1, locals := 18 } : Room) #[.ref a1, .int (0 : Int32), .int (1 : Int32)] Z h0 (own_Q17_11 Z a1 cs G u0 h0 n0) := by
  refine own_prol (C := "java/lang/StringUTF16") rfl own_pn10 (fun m => own_ef17_k0_k1 m ..) ?_
  intro p e s m below meth c s₁ hx hby hml hown hnm hlk hret X0 e0 hZ
  have N0 := Fr.nil n0
  have K0 := Keep.refl h0 []
  refine own_iloadN X0 hx (hb hby own_d17_0) (q := 1) rfl rfl ?_
  refine own_newE X0 hx hZ (aty := .byte) (ty := .byte) (ad := "[B") (k := 1) (cap := 1) rfl rfl (own_h hw 15 rfl) e0 (by decide) (by decide) (by decide) (by decide) (by decide) (by decide) (hb hby own_d17_1) (q := 3) rfl (fun T236 h239 a240 X237 e238 g241 E242 A243 E244 => ?_)
  have O245 : h0.size ≤ a240 := by rw [g241]; exact K0.1
  have L246 := G0p.ext E242
  have V247 := V1p.ext E242
  have K248 := K0.ext E242
  have ne249 : a1 ≠ a240 := by rw [g241]; exact Nat.ne_of_lt V1p.lt
  have Z250 : n0 ≤ a240 := by rw [g241]; exact Z0
  have Z251 : n0 ≤ h239.size := Nat.le_trans Z0 E242.1
  replace A243 : own_A Z h239 a240 .byte [.int (0 : Int32)] := A243
  refine own_astoreN (L' := #[.val (.ref a1), .val (.int (0 : Int32)), .val (.int (1 : Int32)), .val (.ref a240), .unset, .unset]) X237 hx (hb hby own_d17_3) (q := 4) rfl rfl rfl ?_
  refine own_aloadN X237 hx (hb hby own_d17_4) (q := 5) rfl rfl rfl ?_
  refine own_iloadN X237 hx (hb hby own_d17_5) (q := 6) rfl rfl ?_
  refine own_aloadN X237 hx (hb hby own_d17_6) (q := 7) rfl rfl rfl ?_
  refine own_iconst X237 hx (v := (0 : Int32)) (hb hby own_d17_7) (q := 8) rfl rfl ?_
  refine own_iloadN X237 hx (hb hby own_d17_8) (q := 9) rfl rfl ?_
  refine own_callS X237 hx hZ hown (own_h hw 106 rfl) (own_h hw 107 rfl) (own_h hw 104 rfl) (own_h hw 108 rfl) (by decide) (rm18_11 l Z a0 hw [] a1 a240 u0 h239 n0 V247 A243 Z250 ne249 kn0) own_pd9 rfl e238 (by rw [hml]; rfl) (argsL := [.ref a1, .int (0 : Int32), .ref a240, .int (0 : Int32), .int (1 : Int32)]) (st := []) rfl (W := 0) (Nat.le_of_eq rfl) (by decide) (by decide) (by decide) (by decide) (hb hby own_d17_9) (q := 12) rfl (fun v258 T259 L260 X261 hQ262 => ?_)
  obtain ⟨rfl, N263, K264, A266, A267⟩ := hQ262
  have L268 := L246.keep K264 (allS (own_exaPlain E244) all0)
  have E269 := E244.keep K264
  have Z270 : n0 ≤ T259.heap.size := Nat.le_trans Z251 K264.1
  have K271 := K248.trans K264 (allS (Or.inr O245) all0)
  have N265 := Fr.app N0 N263
  show own_Go _ _ _ _ (T259.setTop (mkF m 12 #[.val (.ref a1), .val (.int (0 : Int32)), .val (.int (1 : Int32)), .val (.ref a240), .unset, .unset] [.int (1 : Int32)]))
  refine own_istore (L' := #[.val (.ref a1), .val (.int (0 : Int32)), .val (.int (1 : Int32)), .val (.ref a240), .val (.int (1 : Int32)), .unset]) X261 hx (hb hby own_d17_12) (q := 14) rfl rfl ?_
  refine own_iload X261 hx (hb hby own_d17_14) (q := 16) rfl rfl ?_
  refine own_iloadN X261 hx (hb hby own_d17_16) (q := 17) rfl rfl ?_
  refine own_icmpP X261 hx (hb hby own_d17_17) (cd := .eq) (x := (1 : Int32)) (y := (1 : Int32)) (pt := 57) (q := 20) (by decide) (by decide) rfl rfl (fun _ => ?_) (fun h => False.elim (h ((by decide) : (1 : Int32) = (1 : Int32))))
  refine own_aloadN X261 hx (hb hby own_d17_57) (q := 58) rfl rfl rfl ?_
  refine own_retA X261 hx hlk rfl rfl rfl hret (hb hby own_d17_58) ?_ (by decide) (by decide)
  show own_Q17_11 Z a1 cs G u0 h0 n0 _ T259.heap _
  exact ⟨a240, rfl, N265, K271, O245, E269, A267⟩
theorem rm17_1H (l : Launch) (Z : State) (a0 : Array Value) (hw : ∀ d ∈ tables_1, d.before a0 Z = true) (ws : List Jvm.Cond) (a1 : Addr) (cs : Int32) (G : Value) (u0 : Int32) (h0 : Heap) (n0 : Nat) (Z0 : n0 ≤ h0.size) (G0p : own_G Z h0 cs G) (V1p : own_A Z h0 a1 .char [.int u0])  (kn0 : ¬ (u0 < (0 : Int32))) (kn1 : ¬ ((65535 : Int32) < u0)) (hH : (255 : Int32) < u0) :
    own_M l (⟨"java/lang/StringUTF16", "compress", "([CII)[B"⟩ : MethodName) jdk_52_method_16_code 6 (some (.array .byte)) ws ({ frames := 3, cells := 2, slots := 7, locals := 40 } : Room) #[.ref a1, .int (0 : Int32), .int (1 : Int32)] Z h0 (own_Q17_10 Z a1 cs G u0 h0 n0) := by
  have c0 : (255 : Int32) < u0 := by simpa [] using hH
  exact rm17_10 l Z a0 hw ws a1 cs G u0 h0 n0 Z0 G0p V1p c0 kn0 kn1
theorem own_ef31_k0_k2 (m : MethodId) (a1 : Addr) : entryFrame m #[.ref a1, .int (0 : Int32), .int (2 : Int32)] 5 = mkF m 0 #[.val (.ref a1), .val (.int (0 : Int32)), .val (.int (2 : Int32)), .unset, .unset] [] := by first | (simp [entryFrame, mkF, argsToLocals, Value.category]; done) | rfl

def own_Q31_2 (Z : State) (a1 : Addr) (cs : Int32) (G : Value) (u0 : Int32) (u1 : Int32) (h0 : Heap) (n0 : Nat) (v : Option Value) (h : Heap) (L : List Loc) : Prop := ∃ ra0 : Addr, v = some (.ref ra0) ∧ Fr n0 L ∧ Keep h0 h [] ∧ h0.size ≤ ra0 ∧ Exa Z h ra0 "[B" ∧ own_A Z h ra0 .byte [.int ((u0 >>> ((0 : Int32) &&& 31)).toInt8.toInt32), .int ((u0 >>> ((8 : Int32) &&& 31)).toInt8.toInt32), .int ((u1 >>> ((0 : Int32) &&& 31)).toInt8.toInt32), .int ((u1 >>> ((8 : Int32) &&& 31)).toInt8.toInt32)]
set_option maxRecDepth 65536 in
set_option maxHeartbeats 40000000 in
theorem rm31_2 (l : Launch) (Z : State) (a0 : Array Value) (hw : ∀ d ∈ tables_1, d.before a0 Z = true) (ws : List Jvm.Cond) (a1 : Addr) (cs : Int32) (G : Value) (u0 : Int32) (u1 : Int32) (h0 : Heap) (n0 : Nat) (Z0 : n0 ≤ h0.size) (G0p : own_G Z h0 cs G) (V1p : own_A Z h0 a1 .char [.int u0, .int u1]) :
    own_M l (⟨"java/lang/StringUTF16", "toBytes", "([CII)[B"⟩ : MethodName) jdk_52_method_14_code 5 (some (.array .byte)) ws ({ frames := 2, cells := 1, slots := 6, locals := 24 } : Room) #[.ref a1, .int (0 : Int32), .int (2 : Int32)] Z h0 (own_Q31_2 Z a1 cs G u0 u1 h0 n0) := by
  refine own_prol (C := "java/lang/StringUTF16") rfl own_pn10 (fun m => own_ef31_k0_k2 m ..) ?_
  intro p e s m below meth c s₁ hx hby hml hown hnm hlk hret X0 e0 hZ
  have N0 := Fr.nil n0
  have K0 := Keep.refl h0 []
  refine own_iloadN X0 hx (hb hby own_d31_0) (q := 1) rfl rfl ?_
  refine own_callS X0 hx hZ hown (own_h hw 163 rfl) (own_h hw 164 rfl) (own_h hw 104 rfl) (own_h hw 165 rfl) (by decide) (rm32 l Z a0 hw [] (2 : Int32) h0 n0 Z0  (by decide) (by decide) (by decide) (by decide)) own_pd8 rfl e0 (by rw [hml]; rfl) (argsL := [.int (2 : Int32)]) (st := []) rfl (W := 0) (Nat.le_of_eq rfl) (by decide) (by decide) (by decide) (by decide) (hb hby own_d31_1) (q := 4) rfl (fun v278 T279 L280 X281 hQ282 => ?_)
  obtain ⟨a286, rfl, N283, K284, O287, E288, A289⟩ := hQ282
  have G290 := G0p.keep K284 all0
  have V291 := V1p.keep K284 nin0
  have Z292 : n0 ≤ T279.heap.size := Nat.le_trans Z0 K284.1
  have K293 := K0.trans K284 all0
  have N285 := Fr.app N0 N283
  have ne294 : a1 ≠ a286 := Nat.ne_of_lt (Nat.lt_of_lt_of_le V1p.lt O287)
  have Z295 : n0 ≤ a286 := Nat.le_trans Z0 O287
  have O296 : h0.size ≤ a286 := Nat.le_trans K0.1 O287
  show own_Go _ _ _ _ (T279.setTop (mkF m 4 #[.val (.ref a1), .val (.int (0 : Int32)), .val (.int (2 : Int32)), .unset, .unset] [.ref a286]))
  rw [show (own_f33 (2 : Int32)).toNatClampNeg = 4 from by decide] at A289
  replace A289 : own_A Z T279.heap a286 .byte [.int (0 : Int32), .int (0 : Int32), .int (0 : Int32), .int (0 : Int32)] := A289
  refine own_astoreN (L' := #[.val (.ref a1), .val (.int (0 : Int32)), .val (.int (2 : Int32)), .val (.ref a286), .unset]) X281 hx (hb hby own_d31_4) (q := 5) rfl rfl rfl ?_
  refine own_iconst X281 hx (v := (0 : Int32)) (hb hby own_d31_5) (q := 6) rfl rfl ?_
  refine own_istore (L' := #[.val (.ref a1), .val (.int (0 : Int32)), .val (.int (2 : Int32)), .val (.ref a286), .val (.int (0 : Int32))]) X281 hx (hb hby own_d31_6) (q := 8) rfl rfl ?_
  refine own_iload X281 hx (hb hby own_d31_8) (q := 10) rfl rfl ?_
  refine own_iloadN X281 hx (hb hby own_d31_10) (q := 11) rfl rfl ?_
  refine own_icmpM X281 hx (hb hby own_d31_11) (cd := .ge) (x := (0 : Int32)) (y := (2 : Int32)) (pt := 32) (q := 14) (by decide) (by decide) rfl rfl (fun h => False.elim (h ((by decide) : (0 : Int32) < (2 : Int32)))) (fun _ => ?_)
  refine own_aloadN X281 hx (hb hby own_d31_14) (q := 15) rfl rfl rfl ?_
  refine own_iload X281 hx (hb hby own_d31_15) (q := 17) rfl rfl ?_
  refine own_aloadN X281 hx (hb hby own_d31_17) (q := 18) rfl rfl rfl ?_
  refine own_iloadN X281 hx (hb hby own_d31_18) (q := 19) rfl rfl ?_
  refine own_caload X281 hx hZ (i := 0) (v := .int u0) rfl V291 (by decide) (by decide) rfl (hb hby own_d31_19) (q := 20) rfl ?_
  refine own_callS X281 hx hZ hown (own_h hw 170 rfl) (own_h hw 171 rfl) (own_h hw 104 rfl) (own_h hw 172 rfl) (by decide) (rm34 l Z a0 hw [] a286 (0 : Int32) u0 cs G ([.int (0 : Int32), .int (0 : Int32), .int (0 : Int32), .int (0 : Int32)]) T279.heap n0 G290 A289 Z295 (by decide) (by decide) (by rw [show ((0 : Int32) <<< ((1 : Int32) &&& 31)).toNatClampNeg = 0 from by decide]; exact Nat.le_of_ble_eq_true rfl) (by rw [show (((0 : Int32) <<< ((1 : Int32) &&& 31)) + (1 : Int32)).toNatClampNeg = 1 from by decide]; exact Nat.le_of_ble_eq_true rfl)) own_pd6 rfl rfl (by rw [hml]; rfl) (argsL := [.ref a286, .int (0 : Int32), .int u0]) (st := []) rfl (W := 0) (Nat.le_of_eq rfl) (by decide) (by decide) (by decide) (by decide) (hb hby own_d31_20) (q := 23) rfl (fun v303 T304 L305 X306 hQ307 => ?_)
  obtain ⟨rfl, N308, K309, A311⟩ := hQ307
  have G312 := G290.keep K309 (allS (own_exaPlain E288) all0)
  have V313 := V291.keep K309 (ninS ne294 nin0)
  have E314 := E288.keep K309
  have Z315 : n0 ≤ T304.heap.size := Nat.le_trans Z292 K309.1
  have K316 := K293.trans K309 (allS (Or.inr O296) all0)
  have N310 := Fr.app N285 N308
  show own_Go _ _ _ _ (T304.setTop (mkF m 23 #[.val (.ref a1), .val (.int (0 : Int32)), .val (.int (2 : Int32)), .val (.ref a286), .val (.int (0 : Int32))] []))
  rw [show ((0 : Int32) <<< ((1 : Int32) &&& 31)).toNatClampNeg = 0 from by decide, show (((0 : Int32) <<< ((1 : Int32) &&& 31)) + (1 : Int32)).toNatClampNeg = 1 from by decide] at A311
  replace A311 : own_A Z T304.heap a286 .byte [.int ((u0 >>> ((0 : Int32) &&& 31)).toInt8.toInt32), .int ((u0 >>> ((8 : Int32) &&& 31)).toInt8.toInt32), .int (0 : Int32), .int (0 : Int32)] := A311
  refine own_iinc (L' := #[.val (.ref a1), .val (.int ((0 : Int32) + (1 : Int32))), .val (.int (2 : Int32)), .val (.ref a286), .val (.int (0 : Int32))]) X306 hx (v := (1 : Int32)) (hb hby own_d31_23) (q := 26) rfl rfl rfl rfl ?_
  rw [show ((0 : Int32) + (1 : Int32) : Int32) = (1 : Int32) from by decide]
  refine own_iinc (L' := #[.val (.ref a1), .val (.int (1 : Int32)), .val (.int (2 : Int32)), .val (.ref a286), .val (.int ((0 : Int32) + (1 : Int32)))]) X306 hx (v := (1 : Int32)) (hb hby own_d31_26) (q := 29) rfl rfl rfl rfl ?_
  rw [show ((0 : Int32) + (1 : Int32) : Int32) = (1 : Int32) from by decide]
  refine own_goto X306 hx (hb hby own_d31_29) (q := 8) (by decide) (by decide) ?_
  refine own_iload X306 hx (hb hby own_d31_8) (q := 10) rfl rfl ?_
  refine own_iloadN X306 hx (hb hby own_d31_10) (q := 11) rfl rfl ?_
  refine own_icmpM X306 hx (hb hby own_d31_11) (cd := .ge) (x := (1 : Int32)) (y := (2 : Int32)) (pt := 32) (q := 14) (by decide) (by decide) rfl rfl (fun h => False.elim (h ((by decide) : (1 : Int32) < (2 : Int32)))) (fun _ => ?_)
  refine own_aloadN X306 hx (hb hby own_d31_14) (q := 15) rfl rfl rfl ?_
  refine own_iload X306 hx (hb hby own_d31_15) (q := 17) rfl rfl ?_
  refine own_aloadN X306 hx (hb hby own_d31_17) (q := 18) rfl rfl rfl ?_
  refine own_iloadN X306 hx (hb hby own_d31_18) (q := 19) rfl rfl ?_
  refine own_caload X306 hx hZ (i := 1) (v := .int u1) rfl V313 (by decide) (by decide) rfl (hb hby own_d31_19) (q := 20) rfl ?_
  refine own_callS X306 hx hZ hown (own_h hw 170 rfl) (own_h hw 171 rfl) (own_h hw 104 rfl) (own_h hw 172 rfl) (by decide) (rm34 l Z a0 hw [] a286 (1 : Int32) u1 cs G ([.int ((u0 >>> ((0 : Int32) &&& 31)).toInt8.toInt32), .int ((u0 >>> ((8 : Int32) &&& 31)).toInt8.toInt32), .int (0 : Int32), .int (0 : Int32)]) T304.heap n0 G312 A311 Z295 (by decide) (by decide) (by rw [show ((1 : Int32) <<< ((1 : Int32) &&& 31)).toNatClampNeg = 2 from by decide]; exact Nat.le_of_ble_eq_true rfl) (by rw [show (((1 : Int32) <<< ((1 : Int32) &&& 31)) + (1 : Int32)).toNatClampNeg = 3 from by decide]; exact Nat.le_of_ble_eq_true rfl)) own_pd6 rfl rfl (by rw [hml]; rfl) (argsL := [.ref a286, .int (1 : Int32), .int u1]) (st := []) rfl (W := 0) (Nat.le_of_eq rfl) (by decide) (by decide) (by decide) (by decide) (hb hby own_d31_20) (q := 23) rfl (fun v323 T324 L325 X326 hQ327 => ?_)
  obtain ⟨rfl, N328, K329, A331⟩ := hQ327
  have G332 := G312.keep K329 (allS (own_exaPlain E314) all0)
  have V333 := V313.keep K329 (ninS ne294 nin0)
  have E334 := E314.keep K329
  have Z335 : n0 ≤ T324.heap.size := Nat.le_trans Z315 K329.1
  have K336 := K316.trans K329 (allS (Or.inr O296) all0)
  have N330 := Fr.app N310 N328
  show own_Go _ _ _ _ (T324.setTop (mkF m 23 #[.val (.ref a1), .val (.int (1 : Int32)), .val (.int (2 : Int32)), .val (.ref a286), .val (.int (1 : Int32))] []))
  rw [show ((1 : Int32) <<< ((1 : Int32) &&& 31)).toNatClampNeg = 2 from by decide, show (((1 : Int32) <<< ((1 : Int32) &&& 31)) + (1 : Int32)).toNatClampNeg = 3 from by decide] at A331
  replace A331 : own_A Z T324.heap a286 .byte [.int ((u0 >>> ((0 : Int32) &&& 31)).toInt8.toInt32), .int ((u0 >>> ((8 : Int32) &&& 31)).toInt8.toInt32), .int ((u1 >>> ((0 : Int32) &&& 31)).toInt8.toInt32), .int ((u1 >>> ((8 : Int32) &&& 31)).toInt8.toInt32)] := A331
  refine own_iinc (L' := #[.val (.ref a1), .val (.int ((1 : Int32) + (1 : Int32))), .val (.int (2 : Int32)), .val (.ref a286), .val (.int (1 : Int32))]) X326 hx (v := (1 : Int32)) (hb hby own_d31_23) (q := 26) rfl rfl rfl rfl ?_
  rw [show ((1 : Int32) + (1 : Int32) : Int32) = (2 : Int32) from by decide]
  refine own_iinc (L' := #[.val (.ref a1), .val (.int (2 : Int32)), .val (.int (2 : Int32)), .val (.ref a286), .val (.int ((1 : Int32) + (1 : Int32)))]) X326 hx (v := (1 : Int32)) (hb hby own_d31_26) (q := 29) rfl rfl rfl rfl ?_
  rw [show ((1 : Int32) + (1 : Int32) : Int32) = (2 : Int32) from by decide]
  refine own_goto X326 hx (hb hby own_d31_29) (q := 8) (by decide) (by decide) ?_
  refine own_iload X326 hx (hb hby own_d31_8) (q := 10) rfl rfl ?_
  refine own_iloadN X326 hx (hb hby own_d31_10) (q := 11) rfl rfl ?_
  refine own_icmpM X326 hx (hb hby own_d31_11) (cd := .ge) (x := (2 : Int32)) (y := (2 : Int32)) (pt := 32) (q := 14) (by decide) (by decide) rfl rfl (fun _ => ?_) (fun h => False.elim (((by decide) : ¬ ((2 : Int32) < (2 : Int32))) h))
  refine own_aloadN X326 hx (hb hby own_d31_32) (q := 33) rfl rfl rfl ?_
  refine own_retA X326 hx hlk rfl rfl rfl hret (hb hby own_d31_33) ?_ (by decide) (by decide)
  show own_Q31_2 Z a1 cs G u0 u1 h0 n0 _ T324.heap _
  exact ⟨a286, rfl, N330, K336, O296, E334, A331⟩
theorem own_ef19_k2 (m : MethodId) (a1 : Addr) : entryFrame m #[.ref a1, .int (2 : Int32)] 2 = mkF m 0 #[.val (.ref a1), .val (.int (2 : Int32))] [] := by first | (simp [entryFrame, mkF, argsToLocals, Value.category]; done) | rfl

def own_f19_2_2  : Int32 := (0 : Int32)
set_option maxRecDepth 65536 in
set_option maxHeartbeats 40000000 in
theorem rm19_2_2 (l : Launch) (Z : State) (a0 : Array Value) (hw : ∀ d ∈ tables_1, d.before a0 Z = true) (ws : List Jvm.Cond) (a1 : Addr) (vs : List Value) (h0 : Heap) (V0p : own_A Z h0 a1 .byte vs) (hl_vs : vs.length = 2)  :
    own_M l (⟨"java/lang/StringUTF16", "coderFromArrayLen", "([BI)B"⟩ : MethodName) jdk_52_method_15_code 2 (some .byte) ws ({ frames := 0, cells := 0, slots := 0, locals := 0 } : Room) #[.ref a1, .int (2 : Int32)] Z h0 (own_P (.int (own_f19_2_2 )) h0) := by
  refine own_prol (C := "java/lang/StringUTF16") rfl own_pn10 (fun m => own_ef19_k2 m ..) ?_
  intro p e s m below meth c s₁ hx hby hml hown hnm hlk hret X0 e0 hZ
  refine own_iloadN X0 hx (hb hby own_d19_0) (q := 1) rfl rfl ?_
  refine own_aloadN X0 hx (hb hby own_d19_1) (q := 2) rfl rfl rfl ?_
  refine own_alen X0 hx hZ (n := (2 : Int32)) e0 V0p (by rw [hl_vs]; rfl) (hb hby own_d19_2) (q := 3) rfl ?_
  refine own_isub X0 hx (hb hby own_d19_3) (q := 4) rfl ?_
  rw [show ((2 : Int32) - (2 : Int32) : Int32) = (0 : Int32) from by decide]
  refine own_bipush X0 hx (v := (31 : Int32)) (hb hby own_d19_4) (q := 6) rfl rfl ?_
  refine own_iushr X0 hx (hb hby own_d19_6) (q := 7) rfl ?_
  rw [show (XT.ushr (0 : Int32) (31 : Int32) : Int32) = (0 : Int32) from by decide]
  refine own_i2b X0 hx (hb hby own_d19_7) (q := 8) rfl ?_
  rw [show ((0 : Int32).toInt8.toInt32 : Int32) = (0 : Int32) from by decide]
  refine own_retN X0 hx hlk (t := .byte) (by simp) hret (hb hby own_d19_8) ?_ (by decide) (by decide)
  have r : own_f19_2_2  = (0 : Int32) := by rw [own_f19_2_2]
  exact ⟨by rw [r] <;> rfl, e0, rfl⟩

def own_f19_4_2  : Int32 := (1 : Int32)
set_option maxRecDepth 65536 in
set_option maxHeartbeats 40000000 in
theorem rm19_4_2 (l : Launch) (Z : State) (a0 : Array Value) (hw : ∀ d ∈ tables_1, d.before a0 Z = true) (ws : List Jvm.Cond) (a1 : Addr) (vs : List Value) (h0 : Heap) (V0p : own_A Z h0 a1 .byte vs) (hl_vs : vs.length = 4)  :
    own_M l (⟨"java/lang/StringUTF16", "coderFromArrayLen", "([BI)B"⟩ : MethodName) jdk_52_method_15_code 2 (some .byte) ws ({ frames := 0, cells := 0, slots := 0, locals := 0 } : Room) #[.ref a1, .int (2 : Int32)] Z h0 (own_P (.int (own_f19_4_2 )) h0) := by
  refine own_prol (C := "java/lang/StringUTF16") rfl own_pn10 (fun m => own_ef19_k2 m ..) ?_
  intro p e s m below meth c s₁ hx hby hml hown hnm hlk hret X0 e0 hZ
  refine own_iloadN X0 hx (hb hby own_d19_0) (q := 1) rfl rfl ?_
  refine own_aloadN X0 hx (hb hby own_d19_1) (q := 2) rfl rfl rfl ?_
  refine own_alen X0 hx hZ (n := (4 : Int32)) e0 V0p (by rw [hl_vs]; rfl) (hb hby own_d19_2) (q := 3) rfl ?_
  refine own_isub X0 hx (hb hby own_d19_3) (q := 4) rfl ?_
  rw [show ((2 : Int32) - (4 : Int32) : Int32) = (-2 : Int32) from by decide]
  refine own_bipush X0 hx (v := (31 : Int32)) (hb hby own_d19_4) (q := 6) rfl rfl ?_
  refine own_iushr X0 hx (hb hby own_d19_6) (q := 7) rfl ?_
  rw [show (XT.ushr (-2 : Int32) (31 : Int32) : Int32) = (1 : Int32) from by decide]
  refine own_i2b X0 hx (hb hby own_d19_7) (q := 8) rfl ?_
  rw [show ((1 : Int32).toInt8.toInt32 : Int32) = (1 : Int32) from by decide]
  refine own_retN X0 hx hlk (t := .byte) (by simp) hret (hb hby own_d19_8) ?_ (by decide) (by decide)
  have r : own_f19_4_2  = (1 : Int32) := by rw [own_f19_4_2]
  exact ⟨by rw [r] <;> rfl, e0, rfl⟩
theorem own_ef18_k0_k0_k2 (m : MethodId) (a1 : Addr) (a3 : Addr) : entryFrame m #[.ref a1, .int (0 : Int32), .ref a3, .int (0 : Int32), .int (2 : Int32)] 7 = mkF m 0 #[.val (.ref a1), .val (.int (0 : Int32)), .val (.ref a3), .val (.int (0 : Int32)), .val (.int (2 : Int32)), .unset, .unset] [] := by first | (simp [entryFrame, mkF, argsToLocals, Value.category]; done) | rfl

def own_f18_20 (a1 : Addr) (a3 : Addr) (u0 : Int32) (u1 : Int32) : Int32 := (0 : Int32)
def own_Q18_20 (Z : State) (a1 : Addr) (a3 : Addr) (u0 : Int32) (u1 : Int32) (h0 : Heap) (n0 : Nat) (v : Option Value) (h : Heap) (L : List Loc) : Prop := v = some (.int (own_f18_20 a1 a3 u0 u1)) ∧ Fr n0 L ∧ Keep h0 h [a3] ∧ own_A Z h a1 .char [.int u0, .int u1] ∧ own_A Z h a3 .byte [.int (0 : Int32), .int (0 : Int32)]
set_option maxRecDepth 65536 in
set_option maxHeartbeats 40000000 in
theorem rm18_20 (l : Launch) (Z : State) (a0 : Array Value) (hw : ∀ d ∈ tables_1, d.before a0 Z = true) (ws : List Jvm.Cond) (a1 : Addr) (a3 : Addr) (u0 : Int32) (u1 : Int32) (h0 : Heap) (n0 : Nat) (V0p : own_A Z h0 a1 .char [.int u0, .int u1]) (V1p : own_A Z h0 a3 .byte [.int (0 : Int32), .int (0 : Int32)]) (G_a3 : n0 ≤ a3) (ne_a1_a3 : a1 ≠ a3)  (kn0 : (255 : Int32) < u0) :
    own_M l (⟨"java/lang/StringUTF16", "compress", "([CI[BII)I"⟩ : MethodName) jdk_52_method_21_code 7 (some .int) ws ({ frames := 0, cells := 0, slots := 0, locals := 0 } : Room) #[.ref a1, .int (0 : Int32), .ref a3, .int (0 : Int32), .int (2 : Int32)] Z h0 (own_Q18_20 Z a1 a3 u0 u1 h0 n0) := by
  refine own_prol (C := "java/lang/StringUTF16") rfl own_pn10 (fun m => own_ef18_k0_k0_k2 m ..) ?_
  intro p e s m below meth c s₁ hx hby hml hown hnm hlk hret X0 e0 hZ
  have N0 := Fr.nil n0
  have K0 := Keep.refl h0 [a3]
  refine own_iconst X0 hx (v := (0 : Int32)) (hb hby own_d18_0) (q := 1) rfl rfl ?_
  refine own_istore (L' := #[.val (.ref a1), .val (.int (0 : Int32)), .val (.ref a3), .val (.int (0 : Int32)), .val (.int (2 : Int32)), .val (.int (0 : Int32)), .unset]) X0 hx (hb hby own_d18_1) (q := 3) rfl rfl ?_
  refine own_iload X0 hx (hb hby own_d18_3) (q := 5) rfl rfl ?_
  refine own_iload X0 hx (hb hby own_d18_5) (q := 7) rfl rfl ?_
  refine own_icmpM X0 hx (hb hby own_d18_7) (cd := .ge) (x := (0 : Int32)) (y := (2 : Int32)) (pt := 44) (q := 10) (by decide) (by decide) rfl rfl (fun h => False.elim (h ((by decide) : (0 : Int32) < (2 : Int32)))) (fun _ => ?_)
  refine own_aloadN X0 hx (hb hby own_d18_10) (q := 11) rfl rfl rfl ?_
  refine own_iloadN X0 hx (hb hby own_d18_11) (q := 12) rfl rfl ?_
  refine own_caload X0 hx hZ (i := 0) (v := .int u0) e0 V0p (by decide) (by decide) rfl (hb hby own_d18_12) (q := 13) rfl ?_
  refine own_istore (L' := #[.val (.ref a1), .val (.int (0 : Int32)), .val (.ref a3), .val (.int (0 : Int32)), .val (.int (2 : Int32)), .val (.int (0 : Int32)), .val (.int u0)]) X0 hx (hb hby own_d18_13) (q := 15) rfl rfl ?_
  refine own_iload X0 hx (hb hby own_d18_15) (q := 17) rfl rfl ?_
  refine own_sipush X0 hx (v := (255 : Int32)) (hb hby own_d18_17) (q := 20) rfl rfl ?_
  refine own_icmpM X0 hx (hb hby own_d18_20) (cd := .le) (x := u0) (y := (255 : Int32)) (pt := 26) (q := 23) (by decide) (by decide) rfl rfl (fun h => False.elim (h (kn0 : (255 : Int32) < u0))) (fun _ => ?_)
  refine own_iload X0 hx (hb hby own_d18_23) (q := 25) rfl rfl ?_
  refine own_retI X0 hx hlk hret (hb hby own_d18_25) ?_ (by decide) (by decide)
  have r : own_f18_20 a1 a3 u0 u1 = (0 : Int32) := by rw [own_f18_20]
  show own_Q18_20 Z a1 a3 u0 u1 h0 n0 _ s₁.heap _
  rw [e0]
  exact ⟨(by rw [r] <;> rfl), N0, K0, V0p, V1p⟩
theorem own_ef17_k0_k2 (m : MethodId) (a1 : Addr) : entryFrame m #[.ref a1, .int (0 : Int32), .int (2 : Int32)] 6 = mkF m 0 #[.val (.ref a1), .val (.int (0 : Int32)), .val (.int (2 : Int32)), .unset, .unset, .unset] [] := by first | (simp [entryFrame, mkF, argsToLocals, Value.category]; done) | rfl

def own_Q17_20 (Z : State) (a1 : Addr) (cs : Int32) (G : Value) (u0 : Int32) (u1 : Int32) (h0 : Heap) (n0 : Nat) (v : Option Value) (h : Heap) (L : List Loc) : Prop := ∃ ra0 : Addr, v = some (.ref ra0) ∧ Fr n0 L ∧ Keep h0 h [] ∧ h0.size ≤ ra0 ∧ Exa Z h ra0 "[B" ∧ own_A Z h ra0 .byte [.int ((u0 >>> ((0 : Int32) &&& 31)).toInt8.toInt32), .int ((u0 >>> ((8 : Int32) &&& 31)).toInt8.toInt32), .int ((u1 >>> ((0 : Int32) &&& 31)).toInt8.toInt32), .int ((u1 >>> ((8 : Int32) &&& 31)).toInt8.toInt32)]
set_option maxRecDepth 65536 in
set_option maxHeartbeats 40000000 in
theorem rm17_20 (l : Launch) (Z : State) (a0 : Array Value) (hw : ∀ d ∈ tables_1, d.before a0 Z = true) (ws : List Jvm.Cond) (a1 : Addr) (cs : Int32) (G : Value) (u0 : Int32) (u1 : Int32) (h0 : Heap) (n0 : Nat) (Z0 : n0 ≤ h0.size) (G0p : own_G Z h0 cs G) (V1p : own_A Z h0 a1 .char [.int u0, .int u1])  (kn0 : (255 : Int32) < u0) (kn1 : ¬ (u0 < (0 : Int32))) (kn2 : ¬ ((65535 : Int32) < u0)) (kn3 : ¬ (u1 < (0 : Int32))) (kn4 : ¬ ((65535 : Int32) < u1)) :
    own_M l (⟨"java/lang/StringUTF16", "compress", "([CII)[B"⟩ : MethodName) jdk_52_method_16_code 6 (some (.array .byte)) ws ({ frames := 3, cells := 2, slots := 8, locals := 40 } : Room) #[.ref a1, .int (0 : Int32), .int (2 : Int32)] Z h0 (own_Q17_20 Z a1 cs G u0 u1 h0 n0) := by
  refine own_prol (C := "java/lang/StringUTF16") rfl own_pn10 (fun m => own_ef17_k0_k2 m ..) ?_
  intro p e s m below meth c s₁ hx hby hml hown hnm hlk hret X0 e0 hZ
  have N0 := Fr.nil n0
  have K0 := Keep.refl h0 []
  refine own_iloadN X0 hx (hb hby own_d17_0) (q := 1) rfl rfl ?_
  refine own_newE X0 hx hZ (aty := .byte) (ty := .byte) (ad := "[B") (k := 2) (cap := 2) rfl rfl (own_h hw 15 rfl) e0 (by decide) (by decide) (by decide) (by decide) (by decide) (by decide) (hb hby own_d17_1) (q := 3) rfl (fun T337 h340 a341 X338 e339 g342 E343 A344 E345 => ?_)
  have O346 : h0.size ≤ a341 := by rw [g342]; exact K0.1
  have L347 := G0p.ext E343
  have V348 := V1p.ext E343
  have K349 := K0.ext E343
  have ne350 : a1 ≠ a341 := by rw [g342]; exact Nat.ne_of_lt V1p.lt
  have Z351 : n0 ≤ a341 := by rw [g342]; exact Z0
  have Z352 : n0 ≤ h340.size := Nat.le_trans Z0 E343.1
  replace A344 : own_A Z h340 a341 .byte [.int (0 : Int32), .int (0 : Int32)] := A344
  refine own_astoreN (L' := #[.val (.ref a1), .val (.int (0 : Int32)), .val (.int (2 : Int32)), .val (.ref a341), .unset, .unset]) X338 hx (hb hby own_d17_3) (q := 4) rfl rfl rfl ?_
  refine own_aloadN X338 hx (hb hby own_d17_4) (q := 5) rfl rfl rfl ?_
  refine own_iloadN X338 hx (hb hby own_d17_5) (q := 6) rfl rfl ?_
  refine own_aloadN X338 hx (hb hby own_d17_6) (q := 7) rfl rfl rfl ?_
  refine own_iconst X338 hx (v := (0 : Int32)) (hb hby own_d17_7) (q := 8) rfl rfl ?_
  refine own_iloadN X338 hx (hb hby own_d17_8) (q := 9) rfl rfl ?_
  refine own_callS X338 hx hZ hown (own_h hw 106 rfl) (own_h hw 107 rfl) (own_h hw 104 rfl) (own_h hw 108 rfl) (by decide) (rm18_20 l Z a0 hw [] a1 a341 u0 u1 h340 n0 V348 A344 Z351 ne350 kn0) own_pd9 rfl e339 (by rw [hml]; rfl) (argsL := [.ref a1, .int (0 : Int32), .ref a341, .int (0 : Int32), .int (2 : Int32)]) (st := []) rfl (W := 0) (Nat.le_of_eq rfl) (by decide) (by decide) (by decide) (by decide) (hb hby own_d17_9) (q := 12) rfl (fun v359 T360 L361 X362 hQ363 => ?_)
  obtain ⟨rfl, N364, K365, A367, A368⟩ := hQ363
  have L369 := L347.keep K365 (allS (own_exaPlain E345) all0)
  have E370 := E345.keep K365
  have Z371 : n0 ≤ T360.heap.size := Nat.le_trans Z352 K365.1
  have K372 := K349.trans K365 (allS (Or.inr O346) all0)
  have N366 := Fr.app N0 N364
  show own_Go _ _ _ _ (T360.setTop (mkF m 12 #[.val (.ref a1), .val (.int (0 : Int32)), .val (.int (2 : Int32)), .val (.ref a341), .unset, .unset] [.int (0 : Int32)]))
  refine own_istore (L' := #[.val (.ref a1), .val (.int (0 : Int32)), .val (.int (2 : Int32)), .val (.ref a341), .val (.int (0 : Int32)), .unset]) X362 hx (hb hby own_d17_12) (q := 14) rfl rfl ?_
  refine own_iload X362 hx (hb hby own_d17_14) (q := 16) rfl rfl ?_
  refine own_iloadN X362 hx (hb hby own_d17_16) (q := 17) rfl rfl ?_
  refine own_icmpP X362 hx (hb hby own_d17_17) (cd := .eq) (x := (0 : Int32)) (y := (2 : Int32)) (pt := 57) (q := 20) (by decide) (by decide) rfl rfl (fun h => False.elim (((by decide) : ¬ ((0 : Int32) = (2 : Int32))) h)) (fun _ => ?_)
  refine own_aloadN X362 hx (hb hby own_d17_20) (q := 21) rfl rfl rfl ?_
  refine own_iloadN X362 hx (hb hby own_d17_21) (q := 22) rfl rfl ?_
  refine own_iloadN X362 hx (hb hby own_d17_22) (q := 23) rfl rfl ?_
  refine own_callS X362 hx hZ hown (own_h hw 160 rfl) (own_h hw 161 rfl) (own_h hw 104 rfl) (own_h hw 162 rfl) (by decide) (rm31_2 l Z a0 hw [] a1 cs G u0 u1 T360.heap n0 Z371 L369 A367 ) own_pd10 rfl rfl (by rw [hml]; rfl) (argsL := [.ref a1, .int (0 : Int32), .int (2 : Int32)]) (st := []) rfl (W := 0) (Nat.le_of_eq rfl) (by decide) (by decide) (by decide) (by decide) (hb hby own_d17_23) (q := 26) rfl (fun v379 T380 L381 X382 hQ383 => ?_)
  obtain ⟨a387, rfl, N384, K385, O388, E389, A390⟩ := hQ383
  have L391 := L369.keep K385 all0
  have A392 := A367.keep K385 nin0
  have A393 := A368.keep K385 nin0
  have E394 := E370.keep K385
  have Z395 : n0 ≤ T380.heap.size := Nat.le_trans Z371 K385.1
  have K396 := K372.trans K385 all0
  have N386 := Fr.app N366 N384
  have ne397 : a1 ≠ a387 := Nat.ne_of_lt (Nat.lt_of_lt_of_le A367.lt O388)
  have ne398 : a341 ≠ a387 := Nat.ne_of_lt (Nat.lt_of_lt_of_le E370.lt O388)
  have Z399 : n0 ≤ a387 := Nat.le_trans Z371 O388
  have O400 : h0.size ≤ a387 := Nat.le_trans K372.1 O388
  show own_Go _ _ _ _ (T380.setTop (mkF m 26 #[.val (.ref a1), .val (.int (0 : Int32)), .val (.int (2 : Int32)), .val (.ref a341), .val (.int (0 : Int32)), .unset] [.ref a387]))
  refine own_astore (L' := #[.val (.ref a1), .val (.int (0 : Int32)), .val (.int (2 : Int32)), .val (.ref a341), .val (.int (0 : Int32)), .val (.ref a387)]) X382 hx (hb hby own_d17_26) (q := 28) rfl rfl rfl ?_
  refine own_aload X382 hx (hb hby own_d17_28) (q := 30) rfl rfl rfl ?_
  refine own_iload X382 hx (hb hby own_d17_30) (q := 32) rfl rfl ?_
  refine own_callSP X382 hx hZ hown (own_h hw 176 rfl) (own_h hw 177 rfl) (own_h hw 104 rfl) (own_h hw 178 rfl) (by decide) (rm35 l Z a0 hw [] a387 (0 : Int32) cs G ([.int ((u0 >>> ((0 : Int32) &&& 31)).toInt8.toInt32), .int ((u0 >>> ((8 : Int32) &&& 31)).toInt8.toInt32), .int ((u1 >>> ((0 : Int32) &&& 31)).toInt8.toInt32), .int ((u1 >>> ((8 : Int32) &&& 31)).toInt8.toInt32)]) ((u0 >>> ((0 : Int32) &&& 31)).toInt8.toInt32) ((u0 >>> ((8 : Int32) &&& 31)).toInt8.toInt32) T380.heap L391 A390 (by decide) (by decide) (by rw [show ((0 : Int32) <<< ((1 : Int32) &&& 31)).toNatClampNeg = 0 from by decide]; rfl) (by rw [show (((0 : Int32) <<< ((1 : Int32) &&& 31)) + (1 : Int32)).toNatClampNeg = 1 from by decide]; rfl)) own_pd11 rfl rfl (by rw [hml]; rfl) (argsL := [.ref a387, .int (0 : Int32)]) (st := []) rfl (W := 0) (Nat.le_of_eq rfl) (by decide) (by decide) (by decide) (by decide) (hb hby own_d17_32) (q := 35) rfl (fun T401 X402 e403 => ?_)
  refine own_sipush X402 hx (v := (255 : Int32)) (hb hby own_d17_35) (q := 38) rfl rfl ?_
  refine own_icmpP X402 hx (hb hby own_d17_38) (cd := .gt) (x := own_f35 (0 : Int32) cs ((u0 >>> ((0 : Int32) &&& 31)).toInt8.toInt32) ((u0 >>> ((8 : Int32) &&& 31)).toInt8.toInt32)) (y := (255 : Int32)) (pt := 54) (q := 41) (by decide) (by decide) rfl rfl (fun _ => ?_) (fun h => False.elim (h ((by unfold own_f35; rw [own_rt kn1 kn2]; exact kn0) : (255 : Int32) < (own_f35 (0 : Int32) cs ((u0 >>> ((0 : Int32) &&& 31)).toInt8.toInt32) ((u0 >>> ((8 : Int32) &&& 31)).toInt8.toInt32)))))
  refine own_aload X402 hx (hb hby own_d17_54) (q := 56) rfl rfl rfl ?_
  refine own_retA X402 hx hlk rfl rfl rfl hret (hb hby own_d17_56) ?_ (by decide) (by decide)
  show own_Q17_20 Z a1 cs G u0 u1 h0 n0 _ T401.heap _
  rw [e403]
  exact ⟨a387, rfl, N386, K396, O400, E389, A390⟩

def own_f18_21 (a1 : Addr) (a3 : Addr) (u0 : Int32) (u1 : Int32) : Int32 := (1 : Int32)
def own_Q18_21 (Z : State) (a1 : Addr) (a3 : Addr) (u0 : Int32) (u1 : Int32) (h0 : Heap) (n0 : Nat) (v : Option Value) (h : Heap) (L : List Loc) : Prop := v = some (.int (own_f18_21 a1 a3 u0 u1)) ∧ Fr n0 L ∧ Keep h0 h [a3] ∧ own_A Z h a1 .char [.int u0, .int u1] ∧ own_A Z h a3 .byte [.int u0.toInt8.toInt32, .int (0 : Int32)]
set_option maxRecDepth 65536 in
set_option maxHeartbeats 40000000 in
theorem rm18_21 (l : Launch) (Z : State) (a0 : Array Value) (hw : ∀ d ∈ tables_1, d.before a0 Z = true) (ws : List Jvm.Cond) (a1 : Addr) (a3 : Addr) (u0 : Int32) (u1 : Int32) (h0 : Heap) (n0 : Nat) (V0p : own_A Z h0 a1 .char [.int u0, .int u1]) (V1p : own_A Z h0 a3 .byte [.int (0 : Int32), .int (0 : Int32)]) (G_a3 : n0 ≤ a3) (ne_a1_a3 : a1 ≠ a3)  (kn0 : ¬ ((255 : Int32) < u0)) (kn1 : (255 : Int32) < u1) :
    own_M l (⟨"java/lang/StringUTF16", "compress", "([CI[BII)I"⟩ : MethodName) jdk_52_method_21_code 7 (some .int) ws ({ frames := 0, cells := 0, slots := 0, locals := 0 } : Room) #[.ref a1, .int (0 : Int32), .ref a3, .int (0 : Int32), .int (2 : Int32)] Z h0 (own_Q18_21 Z a1 a3 u0 u1 h0 n0) := by
  refine own_prol (C := "java/lang/StringUTF16") rfl own_pn10 (fun m => own_ef18_k0_k0_k2 m ..) ?_
  intro p e s m below meth c s₁ hx hby hml hown hnm hlk hret X0 e0 hZ
  have N0 := Fr.nil n0
  have K0 := Keep.refl h0 [a3]
  refine own_iconst X0 hx (v := (0 : Int32)) (hb hby own_d18_0) (q := 1) rfl rfl ?_
  refine own_istore (L' := #[.val (.ref a1), .val (.int (0 : Int32)), .val (.ref a3), .val (.int (0 : Int32)), .val (.int (2 : Int32)), .val (.int (0 : Int32)), .unset]) X0 hx (hb hby own_d18_1) (q := 3) rfl rfl ?_
  refine own_iload X0 hx (hb hby own_d18_3) (q := 5) rfl rfl ?_
  refine own_iload X0 hx (hb hby own_d18_5) (q := 7) rfl rfl ?_
  refine own_icmpM X0 hx (hb hby own_d18_7) (cd := .ge) (x := (0 : Int32)) (y := (2 : Int32)) (pt := 44) (q := 10) (by decide) (by decide) rfl rfl (fun h => False.elim (h ((by decide) : (0 : Int32) < (2 : Int32)))) (fun _ => ?_)
  refine own_aloadN X0 hx (hb hby own_d18_10) (q := 11) rfl rfl rfl ?_
  refine own_iloadN X0 hx (hb hby own_d18_11) (q := 12) rfl rfl ?_
  refine own_caload X0 hx hZ (i := 0) (v := .int u0) e0 V0p (by decide) (by decide) rfl (hb hby own_d18_12) (q := 13) rfl ?_
  refine own_istore (L' := #[.val (.ref a1), .val (.int (0 : Int32)), .val (.ref a3), .val (.int (0 : Int32)), .val (.int (2 : Int32)), .val (.int (0 : Int32)), .val (.int u0)]) X0 hx (hb hby own_d18_13) (q := 15) rfl rfl ?_
  refine own_iload X0 hx (hb hby own_d18_15) (q := 17) rfl rfl ?_
  refine own_sipush X0 hx (v := (255 : Int32)) (hb hby own_d18_17) (q := 20) rfl rfl ?_
  refine own_icmpM X0 hx (hb hby own_d18_20) (cd := .le) (x := u0) (y := (255 : Int32)) (pt := 26) (q := 23) (by decide) (by decide) rfl rfl (fun _ => ?_) (fun h => False.elim ((kn0 : ¬ ((255 : Int32) < u0)) h))
  refine own_aloadN X0 hx (hb hby own_d18_26) (q := 27) rfl rfl rfl ?_
  refine own_iloadN X0 hx (hb hby own_d18_27) (q := 28) rfl rfl ?_
  refine own_iload X0 hx (hb hby own_d18_28) (q := 30) rfl rfl ?_
  refine own_i2b X0 hx (hb hby own_d18_30) (q := 31) rfl ?_
  refine own_bastore X0 hx hZ (i := 0) e0 V1p (by decide) (by decide) (Nat.le_of_ble_eq_true rfl) (hb hby own_d18_31) (q := 32) rfl (fun T404 h407 X405 e406 W408 A409 => ?_)
  rw [own_bb] at A409
  replace A409 : own_A Z h407 a3 .byte [.int u0.toInt8.toInt32, .int (0 : Int32)] := A409
  have V410 := V0p.other W408 ne_a1_a3
  have K411 := K0.wr W408 (Or.inl (List.mem_of_getElem? (i := 0) rfl))
  have N412 := Fr.snoc X405 N0 G_a3
  refine own_iinc (L' := #[.val (.ref a1), .val (.int ((0 : Int32) + (1 : Int32))), .val (.ref a3), .val (.int (0 : Int32)), .val (.int (2 : Int32)), .val (.int (0 : Int32)), .val (.int u0)]) X405 hx (v := (1 : Int32)) (hb hby own_d18_32) (q := 35) rfl rfl rfl rfl ?_
  rw [show ((0 : Int32) + (1 : Int32) : Int32) = (1 : Int32) from by decide]
  refine own_iinc (L' := #[.val (.ref a1), .val (.int (1 : Int32)), .val (.ref a3), .val (.int ((0 : Int32) + (1 : Int32))), .val (.int (2 : Int32)), .val (.int (0 : Int32)), .val (.int u0)]) X405 hx (v := (1 : Int32)) (hb hby own_d18_35) (q := 38) rfl rfl rfl rfl ?_
  rw [show ((0 : Int32) + (1 : Int32) : Int32) = (1 : Int32) from by decide]
  refine own_iinc (L' := #[.val (.ref a1), .val (.int (1 : Int32)), .val (.ref a3), .val (.int (1 : Int32)), .val (.int (2 : Int32)), .val (.int ((0 : Int32) + (1 : Int32))), .val (.int u0)]) X405 hx (v := (1 : Int32)) (hb hby own_d18_38) (q := 41) rfl rfl rfl rfl ?_
  rw [show ((0 : Int32) + (1 : Int32) : Int32) = (1 : Int32) from by decide]
  refine own_goto X405 hx (hb hby own_d18_41) (q := 3) (by decide) (by decide) ?_
  refine own_iload X405 hx (hb hby own_d18_3) (q := 5) rfl rfl ?_
  refine own_iload X405 hx (hb hby own_d18_5) (q := 7) rfl rfl ?_
  refine own_icmpM X405 hx (hb hby own_d18_7) (cd := .ge) (x := (1 : Int32)) (y := (2 : Int32)) (pt := 44) (q := 10) (by decide) (by decide) rfl rfl (fun h => False.elim (h ((by decide) : (1 : Int32) < (2 : Int32)))) (fun _ => ?_)
  refine own_aloadN X405 hx (hb hby own_d18_10) (q := 11) rfl rfl rfl ?_
  refine own_iloadN X405 hx (hb hby own_d18_11) (q := 12) rfl rfl ?_
  refine own_caload X405 hx hZ (i := 1) (v := .int u1) e406 V410 (by decide) (by decide) rfl (hb hby own_d18_12) (q := 13) rfl ?_
  refine own_istore (L' := #[.val (.ref a1), .val (.int (1 : Int32)), .val (.ref a3), .val (.int (1 : Int32)), .val (.int (2 : Int32)), .val (.int (1 : Int32)), .val (.int u1)]) X405 hx (hb hby own_d18_13) (q := 15) rfl rfl ?_
  refine own_iload X405 hx (hb hby own_d18_15) (q := 17) rfl rfl ?_
  refine own_sipush X405 hx (v := (255 : Int32)) (hb hby own_d18_17) (q := 20) rfl rfl ?_
  refine own_icmpM X405 hx (hb hby own_d18_20) (cd := .le) (x := u1) (y := (255 : Int32)) (pt := 26) (q := 23) (by decide) (by decide) rfl rfl (fun h => False.elim (h (kn1 : (255 : Int32) < u1))) (fun _ => ?_)
  refine own_iload X405 hx (hb hby own_d18_23) (q := 25) rfl rfl ?_
  refine own_retI X405 hx hlk hret (hb hby own_d18_25) ?_ (by decide) (by decide)
  have r : own_f18_21 a1 a3 u0 u1 = (1 : Int32) := by rw [own_f18_21]
  show own_Q18_21 Z a1 a3 u0 u1 h0 n0 _ T404.heap _
  rw [e406]
  exact ⟨(by rw [r] <;> rfl), N412, K411, V410, A409⟩

def own_Q17_21 (Z : State) (a1 : Addr) (cs : Int32) (G : Value) (u0 : Int32) (u1 : Int32) (h0 : Heap) (n0 : Nat) (v : Option Value) (h : Heap) (L : List Loc) : Prop := ∃ ra0 : Addr, v = some (.ref ra0) ∧ Fr n0 L ∧ Keep h0 h [] ∧ h0.size ≤ ra0 ∧ Exa Z h ra0 "[B" ∧ own_A Z h ra0 .byte [.int ((u0 >>> ((0 : Int32) &&& 31)).toInt8.toInt32), .int ((u0 >>> ((8 : Int32) &&& 31)).toInt8.toInt32), .int ((u1 >>> ((0 : Int32) &&& 31)).toInt8.toInt32), .int ((u1 >>> ((8 : Int32) &&& 31)).toInt8.toInt32)]
set_option maxRecDepth 65536 in
set_option maxHeartbeats 40000000 in
theorem rm17_21 (l : Launch) (Z : State) (a0 : Array Value) (hw : ∀ d ∈ tables_1, d.before a0 Z = true) (ws : List Jvm.Cond) (a1 : Addr) (cs : Int32) (G : Value) (u0 : Int32) (u1 : Int32) (h0 : Heap) (n0 : Nat) (Z0 : n0 ≤ h0.size) (G0p : own_G Z h0 cs G) (V1p : own_A Z h0 a1 .char [.int u0, .int u1])  (kn0 : ¬ ((255 : Int32) < u0)) (kn1 : (255 : Int32) < u1) (kn2 : ¬ (u0 < (0 : Int32))) (kn3 : ¬ ((65535 : Int32) < u0)) (kn4 : ¬ (u1 < (0 : Int32))) (kn5 : ¬ ((65535 : Int32) < u1)) :
    own_M l (⟨"java/lang/StringUTF16", "compress", "([CII)[B"⟩ : MethodName) jdk_52_method_16_code 6 (some (.array .byte)) ws ({ frames := 3, cells := 2, slots := 8, locals := 40 } : Room) #[.ref a1, .int (0 : Int32), .int (2 : Int32)] Z h0 (own_Q17_21 Z a1 cs G u0 u1 h0 n0) := by
  refine own_prol (C := "java/lang/StringUTF16") rfl own_pn10 (fun m => own_ef17_k0_k2 m ..) ?_
  intro p e s m below meth c s₁ hx hby hml hown hnm hlk hret X0 e0 hZ
  have N0 := Fr.nil n0
  have K0 := Keep.refl h0 []
  refine own_iloadN X0 hx (hb hby own_d17_0) (q := 1) rfl rfl ?_
  refine own_newE X0 hx hZ (aty := .byte) (ty := .byte) (ad := "[B") (k := 2) (cap := 2) rfl rfl (own_h hw 15 rfl) e0 (by decide) (by decide) (by decide) (by decide) (by decide) (by decide) (hb hby own_d17_1) (q := 3) rfl (fun T413 h416 a417 X414 e415 g418 E419 A420 E421 => ?_)
  have O422 : h0.size ≤ a417 := by rw [g418]; exact K0.1
  have L423 := G0p.ext E419
  have V424 := V1p.ext E419
  have K425 := K0.ext E419
  have ne426 : a1 ≠ a417 := by rw [g418]; exact Nat.ne_of_lt V1p.lt
  have Z427 : n0 ≤ a417 := by rw [g418]; exact Z0
  have Z428 : n0 ≤ h416.size := Nat.le_trans Z0 E419.1
  replace A420 : own_A Z h416 a417 .byte [.int (0 : Int32), .int (0 : Int32)] := A420
  refine own_astoreN (L' := #[.val (.ref a1), .val (.int (0 : Int32)), .val (.int (2 : Int32)), .val (.ref a417), .unset, .unset]) X414 hx (hb hby own_d17_3) (q := 4) rfl rfl rfl ?_
  refine own_aloadN X414 hx (hb hby own_d17_4) (q := 5) rfl rfl rfl ?_
  refine own_iloadN X414 hx (hb hby own_d17_5) (q := 6) rfl rfl ?_
  refine own_aloadN X414 hx (hb hby own_d17_6) (q := 7) rfl rfl rfl ?_
  refine own_iconst X414 hx (v := (0 : Int32)) (hb hby own_d17_7) (q := 8) rfl rfl ?_
  refine own_iloadN X414 hx (hb hby own_d17_8) (q := 9) rfl rfl ?_
  refine own_callS X414 hx hZ hown (own_h hw 106 rfl) (own_h hw 107 rfl) (own_h hw 104 rfl) (own_h hw 108 rfl) (by decide) (rm18_21 l Z a0 hw [] a1 a417 u0 u1 h416 n0 V424 A420 Z427 ne426 kn0 kn1) own_pd9 rfl e415 (by rw [hml]; rfl) (argsL := [.ref a1, .int (0 : Int32), .ref a417, .int (0 : Int32), .int (2 : Int32)]) (st := []) rfl (W := 0) (Nat.le_of_eq rfl) (by decide) (by decide) (by decide) (by decide) (hb hby own_d17_9) (q := 12) rfl (fun v435 T436 L437 X438 hQ439 => ?_)
  obtain ⟨rfl, N440, K441, A443, A444⟩ := hQ439
  have L445 := L423.keep K441 (allS (own_exaPlain E421) all0)
  have E446 := E421.keep K441
  have Z447 : n0 ≤ T436.heap.size := Nat.le_trans Z428 K441.1
  have K448 := K425.trans K441 (allS (Or.inr O422) all0)
  have N442 := Fr.app N0 N440
  show own_Go _ _ _ _ (T436.setTop (mkF m 12 #[.val (.ref a1), .val (.int (0 : Int32)), .val (.int (2 : Int32)), .val (.ref a417), .unset, .unset] [.int (1 : Int32)]))
  refine own_istore (L' := #[.val (.ref a1), .val (.int (0 : Int32)), .val (.int (2 : Int32)), .val (.ref a417), .val (.int (1 : Int32)), .unset]) X438 hx (hb hby own_d17_12) (q := 14) rfl rfl ?_
  refine own_iload X438 hx (hb hby own_d17_14) (q := 16) rfl rfl ?_
  refine own_iloadN X438 hx (hb hby own_d17_16) (q := 17) rfl rfl ?_
  refine own_icmpP X438 hx (hb hby own_d17_17) (cd := .eq) (x := (1 : Int32)) (y := (2 : Int32)) (pt := 57) (q := 20) (by decide) (by decide) rfl rfl (fun h => False.elim (((by decide) : ¬ ((1 : Int32) = (2 : Int32))) h)) (fun _ => ?_)
  refine own_aloadN X438 hx (hb hby own_d17_20) (q := 21) rfl rfl rfl ?_
  refine own_iloadN X438 hx (hb hby own_d17_21) (q := 22) rfl rfl ?_
  refine own_iloadN X438 hx (hb hby own_d17_22) (q := 23) rfl rfl ?_
  refine own_callS X438 hx hZ hown (own_h hw 160 rfl) (own_h hw 161 rfl) (own_h hw 104 rfl) (own_h hw 162 rfl) (by decide) (rm31_2 l Z a0 hw [] a1 cs G u0 u1 T436.heap n0 Z447 L445 A443 ) own_pd10 rfl rfl (by rw [hml]; rfl) (argsL := [.ref a1, .int (0 : Int32), .int (2 : Int32)]) (st := []) rfl (W := 0) (Nat.le_of_eq rfl) (by decide) (by decide) (by decide) (by decide) (hb hby own_d17_23) (q := 26) rfl (fun v455 T456 L457 X458 hQ459 => ?_)
  obtain ⟨a463, rfl, N460, K461, O464, E465, A466⟩ := hQ459
  have L467 := L445.keep K461 all0
  have A468 := A443.keep K461 nin0
  have A469 := A444.keep K461 nin0
  have E470 := E446.keep K461
  have Z471 : n0 ≤ T456.heap.size := Nat.le_trans Z447 K461.1
  have K472 := K448.trans K461 all0
  have N462 := Fr.app N442 N460
  have ne473 : a1 ≠ a463 := Nat.ne_of_lt (Nat.lt_of_lt_of_le A443.lt O464)
  have ne474 : a417 ≠ a463 := Nat.ne_of_lt (Nat.lt_of_lt_of_le E446.lt O464)
  have Z475 : n0 ≤ a463 := Nat.le_trans Z447 O464
  have O476 : h0.size ≤ a463 := Nat.le_trans K448.1 O464
  show own_Go _ _ _ _ (T456.setTop (mkF m 26 #[.val (.ref a1), .val (.int (0 : Int32)), .val (.int (2 : Int32)), .val (.ref a417), .val (.int (1 : Int32)), .unset] [.ref a463]))
  refine own_astore (L' := #[.val (.ref a1), .val (.int (0 : Int32)), .val (.int (2 : Int32)), .val (.ref a417), .val (.int (1 : Int32)), .val (.ref a463)]) X458 hx (hb hby own_d17_26) (q := 28) rfl rfl rfl ?_
  refine own_aload X458 hx (hb hby own_d17_28) (q := 30) rfl rfl rfl ?_
  refine own_iload X458 hx (hb hby own_d17_30) (q := 32) rfl rfl ?_
  refine own_callSP X458 hx hZ hown (own_h hw 176 rfl) (own_h hw 177 rfl) (own_h hw 104 rfl) (own_h hw 178 rfl) (by decide) (rm35 l Z a0 hw [] a463 (1 : Int32) cs G ([.int ((u0 >>> ((0 : Int32) &&& 31)).toInt8.toInt32), .int ((u0 >>> ((8 : Int32) &&& 31)).toInt8.toInt32), .int ((u1 >>> ((0 : Int32) &&& 31)).toInt8.toInt32), .int ((u1 >>> ((8 : Int32) &&& 31)).toInt8.toInt32)]) ((u1 >>> ((0 : Int32) &&& 31)).toInt8.toInt32) ((u1 >>> ((8 : Int32) &&& 31)).toInt8.toInt32) T456.heap L467 A466 (by decide) (by decide) (by rw [show ((1 : Int32) <<< ((1 : Int32) &&& 31)).toNatClampNeg = 2 from by decide]; rfl) (by rw [show (((1 : Int32) <<< ((1 : Int32) &&& 31)) + (1 : Int32)).toNatClampNeg = 3 from by decide]; rfl)) own_pd11 rfl rfl (by rw [hml]; rfl) (argsL := [.ref a463, .int (1 : Int32)]) (st := []) rfl (W := 0) (Nat.le_of_eq rfl) (by decide) (by decide) (by decide) (by decide) (hb hby own_d17_32) (q := 35) rfl (fun T477 X478 e479 => ?_)
  refine own_sipush X478 hx (v := (255 : Int32)) (hb hby own_d17_35) (q := 38) rfl rfl ?_
  refine own_icmpP X478 hx (hb hby own_d17_38) (cd := .gt) (x := own_f35 (1 : Int32) cs ((u1 >>> ((0 : Int32) &&& 31)).toInt8.toInt32) ((u1 >>> ((8 : Int32) &&& 31)).toInt8.toInt32)) (y := (255 : Int32)) (pt := 54) (q := 41) (by decide) (by decide) rfl rfl (fun _ => ?_) (fun h => False.elim (h ((by unfold own_f35; rw [own_rt kn4 kn5]; exact kn1) : (255 : Int32) < (own_f35 (1 : Int32) cs ((u1 >>> ((0 : Int32) &&& 31)).toInt8.toInt32) ((u1 >>> ((8 : Int32) &&& 31)).toInt8.toInt32)))))
  refine own_aload X478 hx (hb hby own_d17_54) (q := 56) rfl rfl rfl ?_
  refine own_retA X478 hx hlk rfl rfl rfl hret (hb hby own_d17_56) ?_ (by decide) (by decide)
  show own_Q17_21 Z a1 cs G u0 u1 h0 n0 _ T477.heap _
  rw [e479]
  exact ⟨a463, rfl, N462, K472, O476, E465, A466⟩

def own_f18_22 (a1 : Addr) (a3 : Addr) (u0 : Int32) (u1 : Int32) : Int32 := (2 : Int32)
def own_Q18_22 (Z : State) (a1 : Addr) (a3 : Addr) (u0 : Int32) (u1 : Int32) (h0 : Heap) (n0 : Nat) (v : Option Value) (h : Heap) (L : List Loc) : Prop := v = some (.int (own_f18_22 a1 a3 u0 u1)) ∧ Fr n0 L ∧ Keep h0 h [a3] ∧ own_A Z h a1 .char [.int u0, .int u1] ∧ own_A Z h a3 .byte [.int u0.toInt8.toInt32, .int u1.toInt8.toInt32]
set_option maxRecDepth 65536 in
set_option maxHeartbeats 40000000 in
theorem rm18_22 (l : Launch) (Z : State) (a0 : Array Value) (hw : ∀ d ∈ tables_1, d.before a0 Z = true) (ws : List Jvm.Cond) (a1 : Addr) (a3 : Addr) (u0 : Int32) (u1 : Int32) (h0 : Heap) (n0 : Nat) (V0p : own_A Z h0 a1 .char [.int u0, .int u1]) (V1p : own_A Z h0 a3 .byte [.int (0 : Int32), .int (0 : Int32)]) (G_a3 : n0 ≤ a3) (ne_a1_a3 : a1 ≠ a3)  (kn0 : ¬ ((255 : Int32) < u0)) (kn1 : ¬ ((255 : Int32) < u1)) :
    own_M l (⟨"java/lang/StringUTF16", "compress", "([CI[BII)I"⟩ : MethodName) jdk_52_method_21_code 7 (some .int) ws ({ frames := 0, cells := 0, slots := 0, locals := 0 } : Room) #[.ref a1, .int (0 : Int32), .ref a3, .int (0 : Int32), .int (2 : Int32)] Z h0 (own_Q18_22 Z a1 a3 u0 u1 h0 n0) := by
  refine own_prol (C := "java/lang/StringUTF16") rfl own_pn10 (fun m => own_ef18_k0_k0_k2 m ..) ?_
  intro p e s m below meth c s₁ hx hby hml hown hnm hlk hret X0 e0 hZ
  have N0 := Fr.nil n0
  have K0 := Keep.refl h0 [a3]
  refine own_iconst X0 hx (v := (0 : Int32)) (hb hby own_d18_0) (q := 1) rfl rfl ?_
  refine own_istore (L' := #[.val (.ref a1), .val (.int (0 : Int32)), .val (.ref a3), .val (.int (0 : Int32)), .val (.int (2 : Int32)), .val (.int (0 : Int32)), .unset]) X0 hx (hb hby own_d18_1) (q := 3) rfl rfl ?_
  refine own_iload X0 hx (hb hby own_d18_3) (q := 5) rfl rfl ?_
  refine own_iload X0 hx (hb hby own_d18_5) (q := 7) rfl rfl ?_
  refine own_icmpM X0 hx (hb hby own_d18_7) (cd := .ge) (x := (0 : Int32)) (y := (2 : Int32)) (pt := 44) (q := 10) (by decide) (by decide) rfl rfl (fun h => False.elim (h ((by decide) : (0 : Int32) < (2 : Int32)))) (fun _ => ?_)
  refine own_aloadN X0 hx (hb hby own_d18_10) (q := 11) rfl rfl rfl ?_
  refine own_iloadN X0 hx (hb hby own_d18_11) (q := 12) rfl rfl ?_
  refine own_caload X0 hx hZ (i := 0) (v := .int u0) e0 V0p (by decide) (by decide) rfl (hb hby own_d18_12) (q := 13) rfl ?_
  refine own_istore (L' := #[.val (.ref a1), .val (.int (0 : Int32)), .val (.ref a3), .val (.int (0 : Int32)), .val (.int (2 : Int32)), .val (.int (0 : Int32)), .val (.int u0)]) X0 hx (hb hby own_d18_13) (q := 15) rfl rfl ?_
  refine own_iload X0 hx (hb hby own_d18_15) (q := 17) rfl rfl ?_
  refine own_sipush X0 hx (v := (255 : Int32)) (hb hby own_d18_17) (q := 20) rfl rfl ?_
  refine own_icmpM X0 hx (hb hby own_d18_20) (cd := .le) (x := u0) (y := (255 : Int32)) (pt := 26) (q := 23) (by decide) (by decide) rfl rfl (fun _ => ?_) (fun h => False.elim ((kn0 : ¬ ((255 : Int32) < u0)) h))
  refine own_aloadN X0 hx (hb hby own_d18_26) (q := 27) rfl rfl rfl ?_
  refine own_iloadN X0 hx (hb hby own_d18_27) (q := 28) rfl rfl ?_
  refine own_iload X0 hx (hb hby own_d18_28) (q := 30) rfl rfl ?_
  refine own_i2b X0 hx (hb hby own_d18_30) (q := 31) rfl ?_
  refine own_bastore X0 hx hZ (i := 0) e0 V1p (by decide) (by decide) (Nat.le_of_ble_eq_true rfl) (hb hby own_d18_31) (q := 32) rfl (fun T480 h483 X481 e482 W484 A485 => ?_)
  rw [own_bb] at A485
  replace A485 : own_A Z h483 a3 .byte [.int u0.toInt8.toInt32, .int (0 : Int32)] := A485
  have V486 := V0p.other W484 ne_a1_a3
  have K487 := K0.wr W484 (Or.inl (List.mem_of_getElem? (i := 0) rfl))
  have N488 := Fr.snoc X481 N0 G_a3
  refine own_iinc (L' := #[.val (.ref a1), .val (.int ((0 : Int32) + (1 : Int32))), .val (.ref a3), .val (.int (0 : Int32)), .val (.int (2 : Int32)), .val (.int (0 : Int32)), .val (.int u0)]) X481 hx (v := (1 : Int32)) (hb hby own_d18_32) (q := 35) rfl rfl rfl rfl ?_
  rw [show ((0 : Int32) + (1 : Int32) : Int32) = (1 : Int32) from by decide]
  refine own_iinc (L' := #[.val (.ref a1), .val (.int (1 : Int32)), .val (.ref a3), .val (.int ((0 : Int32) + (1 : Int32))), .val (.int (2 : Int32)), .val (.int (0 : Int32)), .val (.int u0)]) X481 hx (v := (1 : Int32)) (hb hby own_d18_35) (q := 38) rfl rfl rfl rfl ?_
  rw [show ((0 : Int32) + (1 : Int32) : Int32) = (1 : Int32) from by decide]
  refine own_iinc (L' := #[.val (.ref a1), .val (.int (1 : Int32)), .val (.ref a3), .val (.int (1 : Int32)), .val (.int (2 : Int32)), .val (.int ((0 : Int32) + (1 : Int32))), .val (.int u0)]) X481 hx (v := (1 : Int32)) (hb hby own_d18_38) (q := 41) rfl rfl rfl rfl ?_
  rw [show ((0 : Int32) + (1 : Int32) : Int32) = (1 : Int32) from by decide]
  refine own_goto X481 hx (hb hby own_d18_41) (q := 3) (by decide) (by decide) ?_
  refine own_iload X481 hx (hb hby own_d18_3) (q := 5) rfl rfl ?_
  refine own_iload X481 hx (hb hby own_d18_5) (q := 7) rfl rfl ?_
  refine own_icmpM X481 hx (hb hby own_d18_7) (cd := .ge) (x := (1 : Int32)) (y := (2 : Int32)) (pt := 44) (q := 10) (by decide) (by decide) rfl rfl (fun h => False.elim (h ((by decide) : (1 : Int32) < (2 : Int32)))) (fun _ => ?_)
  refine own_aloadN X481 hx (hb hby own_d18_10) (q := 11) rfl rfl rfl ?_
  refine own_iloadN X481 hx (hb hby own_d18_11) (q := 12) rfl rfl ?_
  refine own_caload X481 hx hZ (i := 1) (v := .int u1) e482 V486 (by decide) (by decide) rfl (hb hby own_d18_12) (q := 13) rfl ?_
  refine own_istore (L' := #[.val (.ref a1), .val (.int (1 : Int32)), .val (.ref a3), .val (.int (1 : Int32)), .val (.int (2 : Int32)), .val (.int (1 : Int32)), .val (.int u1)]) X481 hx (hb hby own_d18_13) (q := 15) rfl rfl ?_
  refine own_iload X481 hx (hb hby own_d18_15) (q := 17) rfl rfl ?_
  refine own_sipush X481 hx (v := (255 : Int32)) (hb hby own_d18_17) (q := 20) rfl rfl ?_
  refine own_icmpM X481 hx (hb hby own_d18_20) (cd := .le) (x := u1) (y := (255 : Int32)) (pt := 26) (q := 23) (by decide) (by decide) rfl rfl (fun _ => ?_) (fun h => False.elim ((kn1 : ¬ ((255 : Int32) < u1)) h))
  refine own_aloadN X481 hx (hb hby own_d18_26) (q := 27) rfl rfl rfl ?_
  refine own_iloadN X481 hx (hb hby own_d18_27) (q := 28) rfl rfl ?_
  refine own_iload X481 hx (hb hby own_d18_28) (q := 30) rfl rfl ?_
  refine own_i2b X481 hx (hb hby own_d18_30) (q := 31) rfl ?_
  refine own_bastore X481 hx hZ (i := 1) e482 A485 (by decide) (by decide) (Nat.le_of_ble_eq_true rfl) (hb hby own_d18_31) (q := 32) rfl (fun T489 h492 X490 e491 W493 A494 => ?_)
  rw [own_bb] at A494
  replace A494 : own_A Z h492 a3 .byte [.int u0.toInt8.toInt32, .int u1.toInt8.toInt32] := A494
  have V495 := V486.other W493 ne_a1_a3
  have K496 := K487.wr W493 (Or.inl (List.mem_of_getElem? (i := 0) rfl))
  have N497 := Fr.snoc X490 N488 G_a3
  refine own_iinc (L' := #[.val (.ref a1), .val (.int ((1 : Int32) + (1 : Int32))), .val (.ref a3), .val (.int (1 : Int32)), .val (.int (2 : Int32)), .val (.int (1 : Int32)), .val (.int u1)]) X490 hx (v := (1 : Int32)) (hb hby own_d18_32) (q := 35) rfl rfl rfl rfl ?_
  rw [show ((1 : Int32) + (1 : Int32) : Int32) = (2 : Int32) from by decide]
  refine own_iinc (L' := #[.val (.ref a1), .val (.int (2 : Int32)), .val (.ref a3), .val (.int ((1 : Int32) + (1 : Int32))), .val (.int (2 : Int32)), .val (.int (1 : Int32)), .val (.int u1)]) X490 hx (v := (1 : Int32)) (hb hby own_d18_35) (q := 38) rfl rfl rfl rfl ?_
  rw [show ((1 : Int32) + (1 : Int32) : Int32) = (2 : Int32) from by decide]
  refine own_iinc (L' := #[.val (.ref a1), .val (.int (2 : Int32)), .val (.ref a3), .val (.int (2 : Int32)), .val (.int (2 : Int32)), .val (.int ((1 : Int32) + (1 : Int32))), .val (.int u1)]) X490 hx (v := (1 : Int32)) (hb hby own_d18_38) (q := 41) rfl rfl rfl rfl ?_
  rw [show ((1 : Int32) + (1 : Int32) : Int32) = (2 : Int32) from by decide]
  refine own_goto X490 hx (hb hby own_d18_41) (q := 3) (by decide) (by decide) ?_
  refine own_iload X490 hx (hb hby own_d18_3) (q := 5) rfl rfl ?_
  refine own_iload X490 hx (hb hby own_d18_5) (q := 7) rfl rfl ?_
  refine own_icmpM X490 hx (hb hby own_d18_7) (cd := .ge) (x := (2 : Int32)) (y := (2 : Int32)) (pt := 44) (q := 10) (by decide) (by decide) rfl rfl (fun _ => ?_) (fun h => False.elim (((by decide) : ¬ ((2 : Int32) < (2 : Int32))) h))
  refine own_iload X490 hx (hb hby own_d18_44) (q := 46) rfl rfl ?_
  refine own_retI X490 hx hlk hret (hb hby own_d18_46) ?_ (by decide) (by decide)
  have r : own_f18_22 a1 a3 u0 u1 = (2 : Int32) := by rw [own_f18_22]
  show own_Q18_22 Z a1 a3 u0 u1 h0 n0 _ T489.heap _
  rw [e491]
  exact ⟨(by rw [r] <;> rfl), N497, K496, V495, A494⟩

def own_Q17_22 (Z : State) (a1 : Addr) (cs : Int32) (G : Value) (u0 : Int32) (u1 : Int32) (h0 : Heap) (n0 : Nat) (v : Option Value) (h : Heap) (L : List Loc) : Prop := ∃ ra0 : Addr, v = some (.ref ra0) ∧ Fr n0 L ∧ Keep h0 h [] ∧ h0.size ≤ ra0 ∧ Exa Z h ra0 "[B" ∧ own_A Z h ra0 .byte [.int u0.toInt8.toInt32, .int u1.toInt8.toInt32]
set_option maxRecDepth 65536 in
set_option maxHeartbeats 40000000 in
theorem rm17_22 (l : Launch) (Z : State) (a0 : Array Value) (hw : ∀ d ∈ tables_1, d.before a0 Z = true) (ws : List Jvm.Cond) (a1 : Addr) (cs : Int32) (G : Value) (u0 : Int32) (u1 : Int32) (h0 : Heap) (n0 : Nat) (Z0 : n0 ≤ h0.size) (G0p : own_G Z h0 cs G) (V1p : own_A Z h0 a1 .char [.int u0, .int u1])  (kn0 : ¬ ((255 : Int32) < u0)) (kn1 : ¬ ((255 : Int32) < u1)) (kn2 : ¬ (u0 < (0 : Int32))) (kn3 : ¬ ((65535 : Int32) < u0)) (kn4 : ¬ (u1 < (0 : Int32))) (kn5 : ¬ ((65535 : Int32) < u1)) :
    own_M l (⟨"java/lang/StringUTF16", "compress", "([CII)[B"⟩ : MethodName) jdk_52_method_16_code 6 (some (.array .byte)) ws ({ frames := 1, cells := 1, slots := 2, locals := 18 } : Room) #[.ref a1, .int (0 : Int32), .int (2 : Int32)] Z h0 (own_Q17_22 Z a1 cs G u0 u1 h0 n0) := by
  refine own_prol (C := "java/lang/StringUTF16") rfl own_pn10 (fun m => own_ef17_k0_k2 m ..) ?_
  intro p e s m below meth c s₁ hx hby hml hown hnm hlk hret X0 e0 hZ
  have N0 := Fr.nil n0
  have K0 := Keep.refl h0 []
  refine own_iloadN X0 hx (hb hby own_d17_0) (q := 1) rfl rfl ?_
  refine own_newE X0 hx hZ (aty := .byte) (ty := .byte) (ad := "[B") (k := 2) (cap := 2) rfl rfl (own_h hw 15 rfl) e0 (by decide) (by decide) (by decide) (by decide) (by decide) (by decide) (hb hby own_d17_1) (q := 3) rfl (fun T498 h501 a502 X499 e500 g503 E504 A505 E506 => ?_)
  have O507 : h0.size ≤ a502 := by rw [g503]; exact K0.1
  have L508 := G0p.ext E504
  have V509 := V1p.ext E504
  have K510 := K0.ext E504
  have ne511 : a1 ≠ a502 := by rw [g503]; exact Nat.ne_of_lt V1p.lt
  have Z512 : n0 ≤ a502 := by rw [g503]; exact Z0
  have Z513 : n0 ≤ h501.size := Nat.le_trans Z0 E504.1
  replace A505 : own_A Z h501 a502 .byte [.int (0 : Int32), .int (0 : Int32)] := A505
  refine own_astoreN (L' := #[.val (.ref a1), .val (.int (0 : Int32)), .val (.int (2 : Int32)), .val (.ref a502), .unset, .unset]) X499 hx (hb hby own_d17_3) (q := 4) rfl rfl rfl ?_
  refine own_aloadN X499 hx (hb hby own_d17_4) (q := 5) rfl rfl rfl ?_
  refine own_iloadN X499 hx (hb hby own_d17_5) (q := 6) rfl rfl ?_
  refine own_aloadN X499 hx (hb hby own_d17_6) (q := 7) rfl rfl rfl ?_
  refine own_iconst X499 hx (v := (0 : Int32)) (hb hby own_d17_7) (q := 8) rfl rfl ?_
  refine own_iloadN X499 hx (hb hby own_d17_8) (q := 9) rfl rfl ?_
  refine own_callS X499 hx hZ hown (own_h hw 106 rfl) (own_h hw 107 rfl) (own_h hw 104 rfl) (own_h hw 108 rfl) (by decide) (rm18_22 l Z a0 hw [] a1 a502 u0 u1 h501 n0 V509 A505 Z512 ne511 kn0 kn1) own_pd9 rfl e500 (by rw [hml]; rfl) (argsL := [.ref a1, .int (0 : Int32), .ref a502, .int (0 : Int32), .int (2 : Int32)]) (st := []) rfl (W := 0) (Nat.le_of_eq rfl) (by decide) (by decide) (by decide) (by decide) (hb hby own_d17_9) (q := 12) rfl (fun v520 T521 L522 X523 hQ524 => ?_)
  obtain ⟨rfl, N525, K526, A528, A529⟩ := hQ524
  have L530 := L508.keep K526 (allS (own_exaPlain E506) all0)
  have E531 := E506.keep K526
  have Z532 : n0 ≤ T521.heap.size := Nat.le_trans Z513 K526.1
  have K533 := K510.trans K526 (allS (Or.inr O507) all0)
  have N527 := Fr.app N0 N525
  show own_Go _ _ _ _ (T521.setTop (mkF m 12 #[.val (.ref a1), .val (.int (0 : Int32)), .val (.int (2 : Int32)), .val (.ref a502), .unset, .unset] [.int (2 : Int32)]))
  refine own_istore (L' := #[.val (.ref a1), .val (.int (0 : Int32)), .val (.int (2 : Int32)), .val (.ref a502), .val (.int (2 : Int32)), .unset]) X523 hx (hb hby own_d17_12) (q := 14) rfl rfl ?_
  refine own_iload X523 hx (hb hby own_d17_14) (q := 16) rfl rfl ?_
  refine own_iloadN X523 hx (hb hby own_d17_16) (q := 17) rfl rfl ?_
  refine own_icmpP X523 hx (hb hby own_d17_17) (cd := .eq) (x := (2 : Int32)) (y := (2 : Int32)) (pt := 57) (q := 20) (by decide) (by decide) rfl rfl (fun _ => ?_) (fun h => False.elim (h ((by decide) : (2 : Int32) = (2 : Int32))))
  refine own_aloadN X523 hx (hb hby own_d17_57) (q := 58) rfl rfl rfl ?_
  refine own_retA X523 hx hlk rfl rfl rfl hret (hb hby own_d17_58) ?_ (by decide) (by decide)
  show own_Q17_22 Z a1 cs G u0 u1 h0 n0 _ T521.heap _
  exact ⟨a502, rfl, N527, K533, O507, E531, A529⟩
theorem rm17_2H (l : Launch) (Z : State) (a0 : Array Value) (hw : ∀ d ∈ tables_1, d.before a0 Z = true) (ws : List Jvm.Cond) (a1 : Addr) (cs : Int32) (G : Value) (u0 : Int32) (u1 : Int32) (h0 : Heap) (n0 : Nat) (Z0 : n0 ≤ h0.size) (G0p : own_G Z h0 cs G) (V1p : own_A Z h0 a1 .char [.int u0, .int u1])  (kn0 : ¬ (u0 < (0 : Int32))) (kn1 : ¬ ((65535 : Int32) < u0)) (kn2 : ¬ (u1 < (0 : Int32))) (kn3 : ¬ ((65535 : Int32) < u1)) (hH : (255 : Int32) < u0 ∨ (255 : Int32) < u1) :
    own_M l (⟨"java/lang/StringUTF16", "compress", "([CII)[B"⟩ : MethodName) jdk_52_method_16_code 6 (some (.array .byte)) ws ({ frames := 3, cells := 2, slots := 8, locals := 40 } : Room) #[.ref a1, .int (0 : Int32), .int (2 : Int32)] Z h0 (own_Q17_20 Z a1 cs G u0 u1 h0 n0) := by
  by_cases c0 : (255 : Int32) < u0
  · exact rm17_20 l Z a0 hw ws a1 cs G u0 u1 h0 n0 Z0 G0p V1p  c0 kn0 kn1 kn2 kn3
  have c1 : (255 : Int32) < u1 := by simpa [c0] using hH
  exact rm17_21 l Z a0 hw ws a1 cs G u0 u1 h0 n0 Z0 G0p V1p c0 c1 kn0 kn1 kn2 kn3
theorem own_ef31_k0_k3 (m : MethodId) (a1 : Addr) : entryFrame m #[.ref a1, .int (0 : Int32), .int (3 : Int32)] 5 = mkF m 0 #[.val (.ref a1), .val (.int (0 : Int32)), .val (.int (3 : Int32)), .unset, .unset] [] := by first | (simp [entryFrame, mkF, argsToLocals, Value.category]; done) | rfl

def own_Q31_3 (Z : State) (a1 : Addr) (cs : Int32) (G : Value) (u0 : Int32) (u1 : Int32) (u2 : Int32) (h0 : Heap) (n0 : Nat) (v : Option Value) (h : Heap) (L : List Loc) : Prop := ∃ ra0 : Addr, v = some (.ref ra0) ∧ Fr n0 L ∧ Keep h0 h [] ∧ h0.size ≤ ra0 ∧ Exa Z h ra0 "[B" ∧ own_A Z h ra0 .byte [.int ((u0 >>> ((0 : Int32) &&& 31)).toInt8.toInt32), .int ((u0 >>> ((8 : Int32) &&& 31)).toInt8.toInt32), .int ((u1 >>> ((0 : Int32) &&& 31)).toInt8.toInt32), .int ((u1 >>> ((8 : Int32) &&& 31)).toInt8.toInt32), .int ((u2 >>> ((0 : Int32) &&& 31)).toInt8.toInt32), .int ((u2 >>> ((8 : Int32) &&& 31)).toInt8.toInt32)]
set_option maxRecDepth 65536 in
set_option maxHeartbeats 40000000 in
theorem rm31_3 (l : Launch) (Z : State) (a0 : Array Value) (hw : ∀ d ∈ tables_1, d.before a0 Z = true) (ws : List Jvm.Cond) (a1 : Addr) (cs : Int32) (G : Value) (u0 : Int32) (u1 : Int32) (u2 : Int32) (h0 : Heap) (n0 : Nat) (Z0 : n0 ≤ h0.size) (G0p : own_G Z h0 cs G) (V1p : own_A Z h0 a1 .char [.int u0, .int u1, .int u2]) :
    own_M l (⟨"java/lang/StringUTF16", "toBytes", "([CII)[B"⟩ : MethodName) jdk_52_method_14_code 5 (some (.array .byte)) ws ({ frames := 2, cells := 1, slots := 6, locals := 24 } : Room) #[.ref a1, .int (0 : Int32), .int (3 : Int32)] Z h0 (own_Q31_3 Z a1 cs G u0 u1 u2 h0 n0) := by
  refine own_prol (C := "java/lang/StringUTF16") rfl own_pn10 (fun m => own_ef31_k0_k3 m ..) ?_
  intro p e s m below meth c s₁ hx hby hml hown hnm hlk hret X0 e0 hZ
  have N0 := Fr.nil n0
  have K0 := Keep.refl h0 []
  refine own_iloadN X0 hx (hb hby own_d31_0) (q := 1) rfl rfl ?_
  refine own_callS X0 hx hZ hown (own_h hw 163 rfl) (own_h hw 164 rfl) (own_h hw 104 rfl) (own_h hw 165 rfl) (by decide) (rm32 l Z a0 hw [] (3 : Int32) h0 n0 Z0  (by decide) (by decide) (by decide) (by decide)) own_pd8 rfl e0 (by rw [hml]; rfl) (argsL := [.int (3 : Int32)]) (st := []) rfl (W := 0) (Nat.le_of_eq rfl) (by decide) (by decide) (by decide) (by decide) (hb hby own_d31_1) (q := 4) rfl (fun v540 T541 L542 X543 hQ544 => ?_)
  obtain ⟨a548, rfl, N545, K546, O549, E550, A551⟩ := hQ544
  have G552 := G0p.keep K546 all0
  have V553 := V1p.keep K546 nin0
  have Z554 : n0 ≤ T541.heap.size := Nat.le_trans Z0 K546.1
  have K555 := K0.trans K546 all0
  have N547 := Fr.app N0 N545
  have ne556 : a1 ≠ a548 := Nat.ne_of_lt (Nat.lt_of_lt_of_le V1p.lt O549)
  have Z557 : n0 ≤ a548 := Nat.le_trans Z0 O549
  have O558 : h0.size ≤ a548 := Nat.le_trans K0.1 O549
  show own_Go _ _ _ _ (T541.setTop (mkF m 4 #[.val (.ref a1), .val (.int (0 : Int32)), .val (.int (3 : Int32)), .unset, .unset] [.ref a548]))
  rw [show (own_f33 (3 : Int32)).toNatClampNeg = 6 from by decide] at A551
  replace A551 : own_A Z T541.heap a548 .byte [.int (0 : Int32), .int (0 : Int32), .int (0 : Int32), .int (0 : Int32), .int (0 : Int32), .int (0 : Int32)] := A551
  refine own_astoreN (L' := #[.val (.ref a1), .val (.int (0 : Int32)), .val (.int (3 : Int32)), .val (.ref a548), .unset]) X543 hx (hb hby own_d31_4) (q := 5) rfl rfl rfl ?_
  refine own_iconst X543 hx (v := (0 : Int32)) (hb hby own_d31_5) (q := 6) rfl rfl ?_
  refine own_istore (L' := #[.val (.ref a1), .val (.int (0 : Int32)), .val (.int (3 : Int32)), .val (.ref a548), .val (.int (0 : Int32))]) X543 hx (hb hby own_d31_6) (q := 8) rfl rfl ?_
  refine own_iload X543 hx (hb hby own_d31_8) (q := 10) rfl rfl ?_
  refine own_iloadN X543 hx (hb hby own_d31_10) (q := 11) rfl rfl ?_
  refine own_icmpM X543 hx (hb hby own_d31_11) (cd := .ge) (x := (0 : Int32)) (y := (3 : Int32)) (pt := 32) (q := 14) (by decide) (by decide) rfl rfl (fun h => False.elim (h ((by decide) : (0 : Int32) < (3 : Int32)))) (fun _ => ?_)
  refine own_aloadN X543 hx (hb hby own_d31_14) (q := 15) rfl rfl rfl ?_
  refine own_iload X543 hx (hb hby own_d31_15) (q := 17) rfl rfl ?_
  refine own_aloadN X543 hx (hb hby own_d31_17) (q := 18) rfl rfl rfl ?_
  refine own_iloadN X543 hx (hb hby own_d31_18) (q := 19) rfl rfl ?_
  refine own_caload X543 hx hZ (i := 0) (v := .int u0) rfl V553 (by decide) (by decide) rfl (hb hby own_d31_19) (q := 20) rfl ?_
  refine own_callS X543 hx hZ hown (own_h hw 170 rfl) (own_h hw 171 rfl) (own_h hw 104 rfl) (own_h hw 172 rfl) (by decide) (rm34 l Z a0 hw [] a548 (0 : Int32) u0 cs G ([.int (0 : Int32), .int (0 : Int32), .int (0 : Int32), .int (0 : Int32), .int (0 : Int32), .int (0 : Int32)]) T541.heap n0 G552 A551 Z557 (by decide) (by decide) (by rw [show ((0 : Int32) <<< ((1 : Int32) &&& 31)).toNatClampNeg = 0 from by decide]; exact Nat.le_of_ble_eq_true rfl) (by rw [show (((0 : Int32) <<< ((1 : Int32) &&& 31)) + (1 : Int32)).toNatClampNeg = 1 from by decide]; exact Nat.le_of_ble_eq_true rfl)) own_pd6 rfl rfl (by rw [hml]; rfl) (argsL := [.ref a548, .int (0 : Int32), .int u0]) (st := []) rfl (W := 0) (Nat.le_of_eq rfl) (by decide) (by decide) (by decide) (by decide) (hb hby own_d31_20) (q := 23) rfl (fun v565 T566 L567 X568 hQ569 => ?_)
  obtain ⟨rfl, N570, K571, A573⟩ := hQ569
  have G574 := G552.keep K571 (allS (own_exaPlain E550) all0)
  have V575 := V553.keep K571 (ninS ne556 nin0)
  have E576 := E550.keep K571
  have Z577 : n0 ≤ T566.heap.size := Nat.le_trans Z554 K571.1
  have K578 := K555.trans K571 (allS (Or.inr O558) all0)
  have N572 := Fr.app N547 N570
  show own_Go _ _ _ _ (T566.setTop (mkF m 23 #[.val (.ref a1), .val (.int (0 : Int32)), .val (.int (3 : Int32)), .val (.ref a548), .val (.int (0 : Int32))] []))
  rw [show ((0 : Int32) <<< ((1 : Int32) &&& 31)).toNatClampNeg = 0 from by decide, show (((0 : Int32) <<< ((1 : Int32) &&& 31)) + (1 : Int32)).toNatClampNeg = 1 from by decide] at A573
  replace A573 : own_A Z T566.heap a548 .byte [.int ((u0 >>> ((0 : Int32) &&& 31)).toInt8.toInt32), .int ((u0 >>> ((8 : Int32) &&& 31)).toInt8.toInt32), .int (0 : Int32), .int (0 : Int32), .int (0 : Int32), .int (0 : Int32)] := A573
  refine own_iinc (L' := #[.val (.ref a1), .val (.int ((0 : Int32) + (1 : Int32))), .val (.int (3 : Int32)), .val (.ref a548), .val (.int (0 : Int32))]) X568 hx (v := (1 : Int32)) (hb hby own_d31_23) (q := 26) rfl rfl rfl rfl ?_
  rw [show ((0 : Int32) + (1 : Int32) : Int32) = (1 : Int32) from by decide]
  refine own_iinc (L' := #[.val (.ref a1), .val (.int (1 : Int32)), .val (.int (3 : Int32)), .val (.ref a548), .val (.int ((0 : Int32) + (1 : Int32)))]) X568 hx (v := (1 : Int32)) (hb hby own_d31_26) (q := 29) rfl rfl rfl rfl ?_
  rw [show ((0 : Int32) + (1 : Int32) : Int32) = (1 : Int32) from by decide]
  refine own_goto X568 hx (hb hby own_d31_29) (q := 8) (by decide) (by decide) ?_
  refine own_iload X568 hx (hb hby own_d31_8) (q := 10) rfl rfl ?_
  refine own_iloadN X568 hx (hb hby own_d31_10) (q := 11) rfl rfl ?_
  refine own_icmpM X568 hx (hb hby own_d31_11) (cd := .ge) (x := (1 : Int32)) (y := (3 : Int32)) (pt := 32) (q := 14) (by decide) (by decide) rfl rfl (fun h => False.elim (h ((by decide) : (1 : Int32) < (3 : Int32)))) (fun _ => ?_)
  refine own_aloadN X568 hx (hb hby own_d31_14) (q := 15) rfl rfl rfl ?_
  refine own_iload X568 hx (hb hby own_d31_15) (q := 17) rfl rfl ?_
  refine own_aloadN X568 hx (hb hby own_d31_17) (q := 18) rfl rfl rfl ?_
  refine own_iloadN X568 hx (hb hby own_d31_18) (q := 19) rfl rfl ?_
  refine own_caload X568 hx hZ (i := 1) (v := .int u1) rfl V575 (by decide) (by decide) rfl (hb hby own_d31_19) (q := 20) rfl ?_
  refine own_callS X568 hx hZ hown (own_h hw 170 rfl) (own_h hw 171 rfl) (own_h hw 104 rfl) (own_h hw 172 rfl) (by decide) (rm34 l Z a0 hw [] a548 (1 : Int32) u1 cs G ([.int ((u0 >>> ((0 : Int32) &&& 31)).toInt8.toInt32), .int ((u0 >>> ((8 : Int32) &&& 31)).toInt8.toInt32), .int (0 : Int32), .int (0 : Int32), .int (0 : Int32), .int (0 : Int32)]) T566.heap n0 G574 A573 Z557 (by decide) (by decide) (by rw [show ((1 : Int32) <<< ((1 : Int32) &&& 31)).toNatClampNeg = 2 from by decide]; exact Nat.le_of_ble_eq_true rfl) (by rw [show (((1 : Int32) <<< ((1 : Int32) &&& 31)) + (1 : Int32)).toNatClampNeg = 3 from by decide]; exact Nat.le_of_ble_eq_true rfl)) own_pd6 rfl rfl (by rw [hml]; rfl) (argsL := [.ref a548, .int (1 : Int32), .int u1]) (st := []) rfl (W := 0) (Nat.le_of_eq rfl) (by decide) (by decide) (by decide) (by decide) (hb hby own_d31_20) (q := 23) rfl (fun v585 T586 L587 X588 hQ589 => ?_)
  obtain ⟨rfl, N590, K591, A593⟩ := hQ589
  have G594 := G574.keep K591 (allS (own_exaPlain E576) all0)
  have V595 := V575.keep K591 (ninS ne556 nin0)
  have E596 := E576.keep K591
  have Z597 : n0 ≤ T586.heap.size := Nat.le_trans Z577 K591.1
  have K598 := K578.trans K591 (allS (Or.inr O558) all0)
  have N592 := Fr.app N572 N590
  show own_Go _ _ _ _ (T586.setTop (mkF m 23 #[.val (.ref a1), .val (.int (1 : Int32)), .val (.int (3 : Int32)), .val (.ref a548), .val (.int (1 : Int32))] []))
  rw [show ((1 : Int32) <<< ((1 : Int32) &&& 31)).toNatClampNeg = 2 from by decide, show (((1 : Int32) <<< ((1 : Int32) &&& 31)) + (1 : Int32)).toNatClampNeg = 3 from by decide] at A593
  replace A593 : own_A Z T586.heap a548 .byte [.int ((u0 >>> ((0 : Int32) &&& 31)).toInt8.toInt32), .int ((u0 >>> ((8 : Int32) &&& 31)).toInt8.toInt32), .int ((u1 >>> ((0 : Int32) &&& 31)).toInt8.toInt32), .int ((u1 >>> ((8 : Int32) &&& 31)).toInt8.toInt32), .int (0 : Int32), .int (0 : Int32)] := A593
  refine own_iinc (L' := #[.val (.ref a1), .val (.int ((1 : Int32) + (1 : Int32))), .val (.int (3 : Int32)), .val (.ref a548), .val (.int (1 : Int32))]) X588 hx (v := (1 : Int32)) (hb hby own_d31_23) (q := 26) rfl rfl rfl rfl ?_
  rw [show ((1 : Int32) + (1 : Int32) : Int32) = (2 : Int32) from by decide]
  refine own_iinc (L' := #[.val (.ref a1), .val (.int (2 : Int32)), .val (.int (3 : Int32)), .val (.ref a548), .val (.int ((1 : Int32) + (1 : Int32)))]) X588 hx (v := (1 : Int32)) (hb hby own_d31_26) (q := 29) rfl rfl rfl rfl ?_
  rw [show ((1 : Int32) + (1 : Int32) : Int32) = (2 : Int32) from by decide]
  refine own_goto X588 hx (hb hby own_d31_29) (q := 8) (by decide) (by decide) ?_
  refine own_iload X588 hx (hb hby own_d31_8) (q := 10) rfl rfl ?_
  refine own_iloadN X588 hx (hb hby own_d31_10) (q := 11) rfl rfl ?_
  refine own_icmpM X588 hx (hb hby own_d31_11) (cd := .ge) (x := (2 : Int32)) (y := (3 : Int32)) (pt := 32) (q := 14) (by decide) (by decide) rfl rfl (fun h => False.elim (h ((by decide) : (2 : Int32) < (3 : Int32)))) (fun _ => ?_)
  refine own_aloadN X588 hx (hb hby own_d31_14) (q := 15) rfl rfl rfl ?_
  refine own_iload X588 hx (hb hby own_d31_15) (q := 17) rfl rfl ?_
  refine own_aloadN X588 hx (hb hby own_d31_17) (q := 18) rfl rfl rfl ?_
  refine own_iloadN X588 hx (hb hby own_d31_18) (q := 19) rfl rfl ?_
  refine own_caload X588 hx hZ (i := 2) (v := .int u2) rfl V595 (by decide) (by decide) rfl (hb hby own_d31_19) (q := 20) rfl ?_
  refine own_callS X588 hx hZ hown (own_h hw 170 rfl) (own_h hw 171 rfl) (own_h hw 104 rfl) (own_h hw 172 rfl) (by decide) (rm34 l Z a0 hw [] a548 (2 : Int32) u2 cs G ([.int ((u0 >>> ((0 : Int32) &&& 31)).toInt8.toInt32), .int ((u0 >>> ((8 : Int32) &&& 31)).toInt8.toInt32), .int ((u1 >>> ((0 : Int32) &&& 31)).toInt8.toInt32), .int ((u1 >>> ((8 : Int32) &&& 31)).toInt8.toInt32), .int (0 : Int32), .int (0 : Int32)]) T586.heap n0 G594 A593 Z557 (by decide) (by decide) (by rw [show ((2 : Int32) <<< ((1 : Int32) &&& 31)).toNatClampNeg = 4 from by decide]; exact Nat.le_of_ble_eq_true rfl) (by rw [show (((2 : Int32) <<< ((1 : Int32) &&& 31)) + (1 : Int32)).toNatClampNeg = 5 from by decide]; exact Nat.le_of_ble_eq_true rfl)) own_pd6 rfl rfl (by rw [hml]; rfl) (argsL := [.ref a548, .int (2 : Int32), .int u2]) (st := []) rfl (W := 0) (Nat.le_of_eq rfl) (by decide) (by decide) (by decide) (by decide) (hb hby own_d31_20) (q := 23) rfl (fun v605 T606 L607 X608 hQ609 => ?_)
  obtain ⟨rfl, N610, K611, A613⟩ := hQ609
  have G614 := G594.keep K611 (allS (own_exaPlain E596) all0)
  have V615 := V595.keep K611 (ninS ne556 nin0)
  have E616 := E596.keep K611
  have Z617 : n0 ≤ T606.heap.size := Nat.le_trans Z597 K611.1
  have K618 := K598.trans K611 (allS (Or.inr O558) all0)
  have N612 := Fr.app N592 N610
  show own_Go _ _ _ _ (T606.setTop (mkF m 23 #[.val (.ref a1), .val (.int (2 : Int32)), .val (.int (3 : Int32)), .val (.ref a548), .val (.int (2 : Int32))] []))
  rw [show ((2 : Int32) <<< ((1 : Int32) &&& 31)).toNatClampNeg = 4 from by decide, show (((2 : Int32) <<< ((1 : Int32) &&& 31)) + (1 : Int32)).toNatClampNeg = 5 from by decide] at A613
  replace A613 : own_A Z T606.heap a548 .byte [.int ((u0 >>> ((0 : Int32) &&& 31)).toInt8.toInt32), .int ((u0 >>> ((8 : Int32) &&& 31)).toInt8.toInt32), .int ((u1 >>> ((0 : Int32) &&& 31)).toInt8.toInt32), .int ((u1 >>> ((8 : Int32) &&& 31)).toInt8.toInt32), .int ((u2 >>> ((0 : Int32) &&& 31)).toInt8.toInt32), .int ((u2 >>> ((8 : Int32) &&& 31)).toInt8.toInt32)] := A613
  refine own_iinc (L' := #[.val (.ref a1), .val (.int ((2 : Int32) + (1 : Int32))), .val (.int (3 : Int32)), .val (.ref a548), .val (.int (2 : Int32))]) X608 hx (v := (1 : Int32)) (hb hby own_d31_23) (q := 26) rfl rfl rfl rfl ?_
  rw [show ((2 : Int32) + (1 : Int32) : Int32) = (3 : Int32) from by decide]
  refine own_iinc (L' := #[.val (.ref a1), .val (.int (3 : Int32)), .val (.int (3 : Int32)), .val (.ref a548), .val (.int ((2 : Int32) + (1 : Int32)))]) X608 hx (v := (1 : Int32)) (hb hby own_d31_26) (q := 29) rfl rfl rfl rfl ?_
  rw [show ((2 : Int32) + (1 : Int32) : Int32) = (3 : Int32) from by decide]
  refine own_goto X608 hx (hb hby own_d31_29) (q := 8) (by decide) (by decide) ?_
  refine own_iload X608 hx (hb hby own_d31_8) (q := 10) rfl rfl ?_
  refine own_iloadN X608 hx (hb hby own_d31_10) (q := 11) rfl rfl ?_
  refine own_icmpM X608 hx (hb hby own_d31_11) (cd := .ge) (x := (3 : Int32)) (y := (3 : Int32)) (pt := 32) (q := 14) (by decide) (by decide) rfl rfl (fun _ => ?_) (fun h => False.elim (((by decide) : ¬ ((3 : Int32) < (3 : Int32))) h))
  refine own_aloadN X608 hx (hb hby own_d31_32) (q := 33) rfl rfl rfl ?_
  refine own_retA X608 hx hlk rfl rfl rfl hret (hb hby own_d31_33) ?_ (by decide) (by decide)
  show own_Q31_3 Z a1 cs G u0 u1 u2 h0 n0 _ T606.heap _
  exact ⟨a548, rfl, N612, K618, O558, E616, A613⟩
theorem own_ef19_k3 (m : MethodId) (a1 : Addr) : entryFrame m #[.ref a1, .int (3 : Int32)] 2 = mkF m 0 #[.val (.ref a1), .val (.int (3 : Int32))] [] := by first | (simp [entryFrame, mkF, argsToLocals, Value.category]; done) | rfl

def own_f19_3_3  : Int32 := (0 : Int32)
set_option maxRecDepth 65536 in
set_option maxHeartbeats 40000000 in
theorem rm19_3_3 (l : Launch) (Z : State) (a0 : Array Value) (hw : ∀ d ∈ tables_1, d.before a0 Z = true) (ws : List Jvm.Cond) (a1 : Addr) (vs : List Value) (h0 : Heap) (V0p : own_A Z h0 a1 .byte vs) (hl_vs : vs.length = 3)  :
    own_M l (⟨"java/lang/StringUTF16", "coderFromArrayLen", "([BI)B"⟩ : MethodName) jdk_52_method_15_code 2 (some .byte) ws ({ frames := 0, cells := 0, slots := 0, locals := 0 } : Room) #[.ref a1, .int (3 : Int32)] Z h0 (own_P (.int (own_f19_3_3 )) h0) := by
  refine own_prol (C := "java/lang/StringUTF16") rfl own_pn10 (fun m => own_ef19_k3 m ..) ?_
  intro p e s m below meth c s₁ hx hby hml hown hnm hlk hret X0 e0 hZ
  refine own_iloadN X0 hx (hb hby own_d19_0) (q := 1) rfl rfl ?_
  refine own_aloadN X0 hx (hb hby own_d19_1) (q := 2) rfl rfl rfl ?_
  refine own_alen X0 hx hZ (n := (3 : Int32)) e0 V0p (by rw [hl_vs]; rfl) (hb hby own_d19_2) (q := 3) rfl ?_
  refine own_isub X0 hx (hb hby own_d19_3) (q := 4) rfl ?_
  rw [show ((3 : Int32) - (3 : Int32) : Int32) = (0 : Int32) from by decide]
  refine own_bipush X0 hx (v := (31 : Int32)) (hb hby own_d19_4) (q := 6) rfl rfl ?_
  refine own_iushr X0 hx (hb hby own_d19_6) (q := 7) rfl ?_
  rw [show (XT.ushr (0 : Int32) (31 : Int32) : Int32) = (0 : Int32) from by decide]
  refine own_i2b X0 hx (hb hby own_d19_7) (q := 8) rfl ?_
  rw [show ((0 : Int32).toInt8.toInt32 : Int32) = (0 : Int32) from by decide]
  refine own_retN X0 hx hlk (t := .byte) (by simp) hret (hb hby own_d19_8) ?_ (by decide) (by decide)
  have r : own_f19_3_3  = (0 : Int32) := by rw [own_f19_3_3]
  exact ⟨by rw [r] <;> rfl, e0, rfl⟩

def own_f19_6_3  : Int32 := (1 : Int32)
set_option maxRecDepth 65536 in
set_option maxHeartbeats 40000000 in
theorem rm19_6_3 (l : Launch) (Z : State) (a0 : Array Value) (hw : ∀ d ∈ tables_1, d.before a0 Z = true) (ws : List Jvm.Cond) (a1 : Addr) (vs : List Value) (h0 : Heap) (V0p : own_A Z h0 a1 .byte vs) (hl_vs : vs.length = 6)  :
    own_M l (⟨"java/lang/StringUTF16", "coderFromArrayLen", "([BI)B"⟩ : MethodName) jdk_52_method_15_code 2 (some .byte) ws ({ frames := 0, cells := 0, slots := 0, locals := 0 } : Room) #[.ref a1, .int (3 : Int32)] Z h0 (own_P (.int (own_f19_6_3 )) h0) := by
  refine own_prol (C := "java/lang/StringUTF16") rfl own_pn10 (fun m => own_ef19_k3 m ..) ?_
  intro p e s m below meth c s₁ hx hby hml hown hnm hlk hret X0 e0 hZ
  refine own_iloadN X0 hx (hb hby own_d19_0) (q := 1) rfl rfl ?_
  refine own_aloadN X0 hx (hb hby own_d19_1) (q := 2) rfl rfl rfl ?_
  refine own_alen X0 hx hZ (n := (6 : Int32)) e0 V0p (by rw [hl_vs]; rfl) (hb hby own_d19_2) (q := 3) rfl ?_
  refine own_isub X0 hx (hb hby own_d19_3) (q := 4) rfl ?_
  rw [show ((3 : Int32) - (6 : Int32) : Int32) = (-3 : Int32) from by decide]
  refine own_bipush X0 hx (v := (31 : Int32)) (hb hby own_d19_4) (q := 6) rfl rfl ?_
  refine own_iushr X0 hx (hb hby own_d19_6) (q := 7) rfl ?_
  rw [show (XT.ushr (-3 : Int32) (31 : Int32) : Int32) = (1 : Int32) from by decide]
  refine own_i2b X0 hx (hb hby own_d19_7) (q := 8) rfl ?_
  rw [show ((1 : Int32).toInt8.toInt32 : Int32) = (1 : Int32) from by decide]
  refine own_retN X0 hx hlk (t := .byte) (by simp) hret (hb hby own_d19_8) ?_ (by decide) (by decide)
  have r : own_f19_6_3  = (1 : Int32) := by rw [own_f19_6_3]
  exact ⟨by rw [r] <;> rfl, e0, rfl⟩
theorem own_ef18_k0_k0_k3 (m : MethodId) (a1 : Addr) (a3 : Addr) : entryFrame m #[.ref a1, .int (0 : Int32), .ref a3, .int (0 : Int32), .int (3 : Int32)] 7 = mkF m 0 #[.val (.ref a1), .val (.int (0 : Int32)), .val (.ref a3), .val (.int (0 : Int32)), .val (.int (3 : Int32)), .unset, .unset] [] := by first | (simp [entryFrame, mkF, argsToLocals, Value.category]; done) | rfl

def own_f18_30 (a1 : Addr) (a3 : Addr) (u0 : Int32) (u1 : Int32) (u2 : Int32) : Int32 := (0 : Int32)
def own_Q18_30 (Z : State) (a1 : Addr) (a3 : Addr) (u0 : Int32) (u1 : Int32) (u2 : Int32) (h0 : Heap) (n0 : Nat) (v : Option Value) (h : Heap) (L : List Loc) : Prop := v = some (.int (own_f18_30 a1 a3 u0 u1 u2)) ∧ Fr n0 L ∧ Keep h0 h [a3] ∧ own_A Z h a1 .char [.int u0, .int u1, .int u2] ∧ own_A Z h a3 .byte [.int (0 : Int32), .int (0 : Int32), .int (0 : Int32)]
set_option maxRecDepth 65536 in
set_option maxHeartbeats 40000000 in
theorem rm18_30 (l : Launch) (Z : State) (a0 : Array Value) (hw : ∀ d ∈ tables_1, d.before a0 Z = true) (ws : List Jvm.Cond) (a1 : Addr) (a3 : Addr) (u0 : Int32) (u1 : Int32) (u2 : Int32) (h0 : Heap) (n0 : Nat) (V0p : own_A Z h0 a1 .char [.int u0, .int u1, .int u2]) (V1p : own_A Z h0 a3 .byte [.int (0 : Int32), .int (0 : Int32), .int (0 : Int32)]) (G_a3 : n0 ≤ a3) (ne_a1_a3 : a1 ≠ a3)  (kn0 : (255 : Int32) < u0) :
    own_M l (⟨"java/lang/StringUTF16", "compress", "([CI[BII)I"⟩ : MethodName) jdk_52_method_21_code 7 (some .int) ws ({ frames := 0, cells := 0, slots := 0, locals := 0 } : Room) #[.ref a1, .int (0 : Int32), .ref a3, .int (0 : Int32), .int (3 : Int32)] Z h0 (own_Q18_30 Z a1 a3 u0 u1 u2 h0 n0) := by
  refine own_prol (C := "java/lang/StringUTF16") rfl own_pn10 (fun m => own_ef18_k0_k0_k3 m ..) ?_
  intro p e s m below meth c s₁ hx hby hml hown hnm hlk hret X0 e0 hZ
  have N0 := Fr.nil n0
  have K0 := Keep.refl h0 [a3]
  refine own_iconst X0 hx (v := (0 : Int32)) (hb hby own_d18_0) (q := 1) rfl rfl ?_
  refine own_istore (L' := #[.val (.ref a1), .val (.int (0 : Int32)), .val (.ref a3), .val (.int (0 : Int32)), .val (.int (3 : Int32)), .val (.int (0 : Int32)), .unset]) X0 hx (hb hby own_d18_1) (q := 3) rfl rfl ?_
  refine own_iload X0 hx (hb hby own_d18_3) (q := 5) rfl rfl ?_
  refine own_iload X0 hx (hb hby own_d18_5) (q := 7) rfl rfl ?_
  refine own_icmpM X0 hx (hb hby own_d18_7) (cd := .ge) (x := (0 : Int32)) (y := (3 : Int32)) (pt := 44) (q := 10) (by decide) (by decide) rfl rfl (fun h => False.elim (h ((by decide) : (0 : Int32) < (3 : Int32)))) (fun _ => ?_)
  refine own_aloadN X0 hx (hb hby own_d18_10) (q := 11) rfl rfl rfl ?_
  refine own_iloadN X0 hx (hb hby own_d18_11) (q := 12) rfl rfl ?_
  refine own_caload X0 hx hZ (i := 0) (v := .int u0) e0 V0p (by decide) (by decide) rfl (hb hby own_d18_12) (q := 13) rfl ?_
  refine own_istore (L' := #[.val (.ref a1), .val (.int (0 : Int32)), .val (.ref a3), .val (.int (0 : Int32)), .val (.int (3 : Int32)), .val (.int (0 : Int32)), .val (.int u0)]) X0 hx (hb hby own_d18_13) (q := 15) rfl rfl ?_
  refine own_iload X0 hx (hb hby own_d18_15) (q := 17) rfl rfl ?_
  refine own_sipush X0 hx (v := (255 : Int32)) (hb hby own_d18_17) (q := 20) rfl rfl ?_
  refine own_icmpM X0 hx (hb hby own_d18_20) (cd := .le) (x := u0) (y := (255 : Int32)) (pt := 26) (q := 23) (by decide) (by decide) rfl rfl (fun h => False.elim (h (kn0 : (255 : Int32) < u0))) (fun _ => ?_)
  refine own_iload X0 hx (hb hby own_d18_23) (q := 25) rfl rfl ?_
  refine own_retI X0 hx hlk hret (hb hby own_d18_25) ?_ (by decide) (by decide)
  have r : own_f18_30 a1 a3 u0 u1 u2 = (0 : Int32) := by rw [own_f18_30]
  show own_Q18_30 Z a1 a3 u0 u1 u2 h0 n0 _ s₁.heap _
  rw [e0]
  exact ⟨(by rw [r] <;> rfl), N0, K0, V0p, V1p⟩
theorem own_ef17_k0_k3 (m : MethodId) (a1 : Addr) : entryFrame m #[.ref a1, .int (0 : Int32), .int (3 : Int32)] 6 = mkF m 0 #[.val (.ref a1), .val (.int (0 : Int32)), .val (.int (3 : Int32)), .unset, .unset, .unset] [] := by first | (simp [entryFrame, mkF, argsToLocals, Value.category]; done) | rfl

def own_Q17_30 (Z : State) (a1 : Addr) (cs : Int32) (G : Value) (u0 : Int32) (u1 : Int32) (u2 : Int32) (h0 : Heap) (n0 : Nat) (v : Option Value) (h : Heap) (L : List Loc) : Prop := ∃ ra0 : Addr, v = some (.ref ra0) ∧ Fr n0 L ∧ Keep h0 h [] ∧ h0.size ≤ ra0 ∧ Exa Z h ra0 "[B" ∧ own_A Z h ra0 .byte [.int ((u0 >>> ((0 : Int32) &&& 31)).toInt8.toInt32), .int ((u0 >>> ((8 : Int32) &&& 31)).toInt8.toInt32), .int ((u1 >>> ((0 : Int32) &&& 31)).toInt8.toInt32), .int ((u1 >>> ((8 : Int32) &&& 31)).toInt8.toInt32), .int ((u2 >>> ((0 : Int32) &&& 31)).toInt8.toInt32), .int ((u2 >>> ((8 : Int32) &&& 31)).toInt8.toInt32)]
set_option maxRecDepth 65536 in
set_option maxHeartbeats 40000000 in
theorem rm17_30 (l : Launch) (Z : State) (a0 : Array Value) (hw : ∀ d ∈ tables_1, d.before a0 Z = true) (ws : List Jvm.Cond) (a1 : Addr) (cs : Int32) (G : Value) (u0 : Int32) (u1 : Int32) (u2 : Int32) (h0 : Heap) (n0 : Nat) (Z0 : n0 ≤ h0.size) (G0p : own_G Z h0 cs G) (V1p : own_A Z h0 a1 .char [.int u0, .int u1, .int u2])  (kn0 : (255 : Int32) < u0) (kn1 : ¬ (u0 < (0 : Int32))) (kn2 : ¬ ((65535 : Int32) < u0)) (kn3 : ¬ (u1 < (0 : Int32))) (kn4 : ¬ ((65535 : Int32) < u1)) (kn5 : ¬ (u2 < (0 : Int32))) (kn6 : ¬ ((65535 : Int32) < u2)) :
    own_M l (⟨"java/lang/StringUTF16", "compress", "([CII)[B"⟩ : MethodName) jdk_52_method_16_code 6 (some (.array .byte)) ws ({ frames := 3, cells := 2, slots := 9, locals := 40 } : Room) #[.ref a1, .int (0 : Int32), .int (3 : Int32)] Z h0 (own_Q17_30 Z a1 cs G u0 u1 u2 h0 n0) := by
  refine own_prol (C := "java/lang/StringUTF16") rfl own_pn10 (fun m => own_ef17_k0_k3 m ..) ?_
  intro p e s m below meth c s₁ hx hby hml hown hnm hlk hret X0 e0 hZ
  have N0 := Fr.nil n0
  have K0 := Keep.refl h0 []
  refine own_iloadN X0 hx (hb hby own_d17_0) (q := 1) rfl rfl ?_
  refine own_newE X0 hx hZ (aty := .byte) (ty := .byte) (ad := "[B") (k := 3) (cap := 3) rfl rfl (own_h hw 15 rfl) e0 (by decide) (by decide) (by decide) (by decide) (by decide) (by decide) (hb hby own_d17_1) (q := 3) rfl (fun T619 h622 a623 X620 e621 g624 E625 A626 E627 => ?_)
  have O628 : h0.size ≤ a623 := by rw [g624]; exact K0.1
  have L629 := G0p.ext E625
  have V630 := V1p.ext E625
  have K631 := K0.ext E625
  have ne632 : a1 ≠ a623 := by rw [g624]; exact Nat.ne_of_lt V1p.lt
  have Z633 : n0 ≤ a623 := by rw [g624]; exact Z0
  have Z634 : n0 ≤ h622.size := Nat.le_trans Z0 E625.1
  replace A626 : own_A Z h622 a623 .byte [.int (0 : Int32), .int (0 : Int32), .int (0 : Int32)] := A626
  refine own_astoreN (L' := #[.val (.ref a1), .val (.int (0 : Int32)), .val (.int (3 : Int32)), .val (.ref a623), .unset, .unset]) X620 hx (hb hby own_d17_3) (q := 4) rfl rfl rfl ?_
  refine own_aloadN X620 hx (hb hby own_d17_4) (q := 5) rfl rfl rfl ?_
  refine own_iloadN X620 hx (hb hby own_d17_5) (q := 6) rfl rfl ?_
  refine own_aloadN X620 hx (hb hby own_d17_6) (q := 7) rfl rfl rfl ?_
  refine own_iconst X620 hx (v := (0 : Int32)) (hb hby own_d17_7) (q := 8) rfl rfl ?_
  refine own_iloadN X620 hx (hb hby own_d17_8) (q := 9) rfl rfl ?_
  refine own_callS X620 hx hZ hown (own_h hw 106 rfl) (own_h hw 107 rfl) (own_h hw 104 rfl) (own_h hw 108 rfl) (by decide) (rm18_30 l Z a0 hw [] a1 a623 u0 u1 u2 h622 n0 V630 A626 Z633 ne632 kn0) own_pd9 rfl e621 (by rw [hml]; rfl) (argsL := [.ref a1, .int (0 : Int32), .ref a623, .int (0 : Int32), .int (3 : Int32)]) (st := []) rfl (W := 0) (Nat.le_of_eq rfl) (by decide) (by decide) (by decide) (by decide) (hb hby own_d17_9) (q := 12) rfl (fun v641 T642 L643 X644 hQ645 => ?_)
  obtain ⟨rfl, N646, K647, A649, A650⟩ := hQ645
  have L651 := L629.keep K647 (allS (own_exaPlain E627) all0)
  have E652 := E627.keep K647
  have Z653 : n0 ≤ T642.heap.size := Nat.le_trans Z634 K647.1
  have K654 := K631.trans K647 (allS (Or.inr O628) all0)
  have N648 := Fr.app N0 N646
  show own_Go _ _ _ _ (T642.setTop (mkF m 12 #[.val (.ref a1), .val (.int (0 : Int32)), .val (.int (3 : Int32)), .val (.ref a623), .unset, .unset] [.int (0 : Int32)]))
  refine own_istore (L' := #[.val (.ref a1), .val (.int (0 : Int32)), .val (.int (3 : Int32)), .val (.ref a623), .val (.int (0 : Int32)), .unset]) X644 hx (hb hby own_d17_12) (q := 14) rfl rfl ?_
  refine own_iload X644 hx (hb hby own_d17_14) (q := 16) rfl rfl ?_
  refine own_iloadN X644 hx (hb hby own_d17_16) (q := 17) rfl rfl ?_
  refine own_icmpP X644 hx (hb hby own_d17_17) (cd := .eq) (x := (0 : Int32)) (y := (3 : Int32)) (pt := 57) (q := 20) (by decide) (by decide) rfl rfl (fun h => False.elim (((by decide) : ¬ ((0 : Int32) = (3 : Int32))) h)) (fun _ => ?_)
  refine own_aloadN X644 hx (hb hby own_d17_20) (q := 21) rfl rfl rfl ?_
  refine own_iloadN X644 hx (hb hby own_d17_21) (q := 22) rfl rfl ?_
  refine own_iloadN X644 hx (hb hby own_d17_22) (q := 23) rfl rfl ?_
  refine own_callS X644 hx hZ hown (own_h hw 160 rfl) (own_h hw 161 rfl) (own_h hw 104 rfl) (own_h hw 162 rfl) (by decide) (rm31_3 l Z a0 hw [] a1 cs G u0 u1 u2 T642.heap n0 Z653 L651 A649 ) own_pd10 rfl rfl (by rw [hml]; rfl) (argsL := [.ref a1, .int (0 : Int32), .int (3 : Int32)]) (st := []) rfl (W := 0) (Nat.le_of_eq rfl) (by decide) (by decide) (by decide) (by decide) (hb hby own_d17_23) (q := 26) rfl (fun v661 T662 L663 X664 hQ665 => ?_)
  obtain ⟨a669, rfl, N666, K667, O670, E671, A672⟩ := hQ665
  have L673 := L651.keep K667 all0
  have A674 := A649.keep K667 nin0
  have A675 := A650.keep K667 nin0
  have E676 := E652.keep K667
  have Z677 : n0 ≤ T662.heap.size := Nat.le_trans Z653 K667.1
  have K678 := K654.trans K667 all0
  have N668 := Fr.app N648 N666
  have ne679 : a1 ≠ a669 := Nat.ne_of_lt (Nat.lt_of_lt_of_le A649.lt O670)
  have ne680 : a623 ≠ a669 := Nat.ne_of_lt (Nat.lt_of_lt_of_le E652.lt O670)
  have Z681 : n0 ≤ a669 := Nat.le_trans Z653 O670
  have O682 : h0.size ≤ a669 := Nat.le_trans K654.1 O670
  show own_Go _ _ _ _ (T662.setTop (mkF m 26 #[.val (.ref a1), .val (.int (0 : Int32)), .val (.int (3 : Int32)), .val (.ref a623), .val (.int (0 : Int32)), .unset] [.ref a669]))
  refine own_astore (L' := #[.val (.ref a1), .val (.int (0 : Int32)), .val (.int (3 : Int32)), .val (.ref a623), .val (.int (0 : Int32)), .val (.ref a669)]) X664 hx (hb hby own_d17_26) (q := 28) rfl rfl rfl ?_
  refine own_aload X664 hx (hb hby own_d17_28) (q := 30) rfl rfl rfl ?_
  refine own_iload X664 hx (hb hby own_d17_30) (q := 32) rfl rfl ?_
  refine own_callSP X664 hx hZ hown (own_h hw 176 rfl) (own_h hw 177 rfl) (own_h hw 104 rfl) (own_h hw 178 rfl) (by decide) (rm35 l Z a0 hw [] a669 (0 : Int32) cs G ([.int ((u0 >>> ((0 : Int32) &&& 31)).toInt8.toInt32), .int ((u0 >>> ((8 : Int32) &&& 31)).toInt8.toInt32), .int ((u1 >>> ((0 : Int32) &&& 31)).toInt8.toInt32), .int ((u1 >>> ((8 : Int32) &&& 31)).toInt8.toInt32), .int ((u2 >>> ((0 : Int32) &&& 31)).toInt8.toInt32), .int ((u2 >>> ((8 : Int32) &&& 31)).toInt8.toInt32)]) ((u0 >>> ((0 : Int32) &&& 31)).toInt8.toInt32) ((u0 >>> ((8 : Int32) &&& 31)).toInt8.toInt32) T662.heap L673 A672 (by decide) (by decide) (by rw [show ((0 : Int32) <<< ((1 : Int32) &&& 31)).toNatClampNeg = 0 from by decide]; rfl) (by rw [show (((0 : Int32) <<< ((1 : Int32) &&& 31)) + (1 : Int32)).toNatClampNeg = 1 from by decide]; rfl)) own_pd11 rfl rfl (by rw [hml]; rfl) (argsL := [.ref a669, .int (0 : Int32)]) (st := []) rfl (W := 0) (Nat.le_of_eq rfl) (by decide) (by decide) (by decide) (by decide) (hb hby own_d17_32) (q := 35) rfl (fun T683 X684 e685 => ?_)
  refine own_sipush X684 hx (v := (255 : Int32)) (hb hby own_d17_35) (q := 38) rfl rfl ?_
  refine own_icmpP X684 hx (hb hby own_d17_38) (cd := .gt) (x := own_f35 (0 : Int32) cs ((u0 >>> ((0 : Int32) &&& 31)).toInt8.toInt32) ((u0 >>> ((8 : Int32) &&& 31)).toInt8.toInt32)) (y := (255 : Int32)) (pt := 54) (q := 41) (by decide) (by decide) rfl rfl (fun _ => ?_) (fun h => False.elim (h ((by unfold own_f35; rw [own_rt kn1 kn2]; exact kn0) : (255 : Int32) < (own_f35 (0 : Int32) cs ((u0 >>> ((0 : Int32) &&& 31)).toInt8.toInt32) ((u0 >>> ((8 : Int32) &&& 31)).toInt8.toInt32)))))
  refine own_aload X684 hx (hb hby own_d17_54) (q := 56) rfl rfl rfl ?_
  refine own_retA X684 hx hlk rfl rfl rfl hret (hb hby own_d17_56) ?_ (by decide) (by decide)
  show own_Q17_30 Z a1 cs G u0 u1 u2 h0 n0 _ T683.heap _
  rw [e685]
  exact ⟨a669, rfl, N668, K678, O682, E671, A672⟩

def own_f18_31 (a1 : Addr) (a3 : Addr) (u0 : Int32) (u1 : Int32) (u2 : Int32) : Int32 := (1 : Int32)
def own_Q18_31 (Z : State) (a1 : Addr) (a3 : Addr) (u0 : Int32) (u1 : Int32) (u2 : Int32) (h0 : Heap) (n0 : Nat) (v : Option Value) (h : Heap) (L : List Loc) : Prop := v = some (.int (own_f18_31 a1 a3 u0 u1 u2)) ∧ Fr n0 L ∧ Keep h0 h [a3] ∧ own_A Z h a1 .char [.int u0, .int u1, .int u2] ∧ own_A Z h a3 .byte [.int u0.toInt8.toInt32, .int (0 : Int32), .int (0 : Int32)]
set_option maxRecDepth 65536 in
set_option maxHeartbeats 40000000 in
theorem rm18_31 (l : Launch) (Z : State) (a0 : Array Value) (hw : ∀ d ∈ tables_1, d.before a0 Z = true) (ws : List Jvm.Cond) (a1 : Addr) (a3 : Addr) (u0 : Int32) (u1 : Int32) (u2 : Int32) (h0 : Heap) (n0 : Nat) (V0p : own_A Z h0 a1 .char [.int u0, .int u1, .int u2]) (V1p : own_A Z h0 a3 .byte [.int (0 : Int32), .int (0 : Int32), .int (0 : Int32)]) (G_a3 : n0 ≤ a3) (ne_a1_a3 : a1 ≠ a3)  (kn0 : ¬ ((255 : Int32) < u0)) (kn1 : (255 : Int32) < u1) :
    own_M l (⟨"java/lang/StringUTF16", "compress", "([CI[BII)I"⟩ : MethodName) jdk_52_method_21_code 7 (some .int) ws ({ frames := 0, cells := 0, slots := 0, locals := 0 } : Room) #[.ref a1, .int (0 : Int32), .ref a3, .int (0 : Int32), .int (3 : Int32)] Z h0 (own_Q18_31 Z a1 a3 u0 u1 u2 h0 n0) := by
  refine own_prol (C := "java/lang/StringUTF16") rfl own_pn10 (fun m => own_ef18_k0_k0_k3 m ..) ?_
  intro p e s m below meth c s₁ hx hby hml hown hnm hlk hret X0 e0 hZ
  have N0 := Fr.nil n0
  have K0 := Keep.refl h0 [a3]
  refine own_iconst X0 hx (v := (0 : Int32)) (hb hby own_d18_0) (q := 1) rfl rfl ?_
  refine own_istore (L' := #[.val (.ref a1), .val (.int (0 : Int32)), .val (.ref a3), .val (.int (0 : Int32)), .val (.int (3 : Int32)), .val (.int (0 : Int32)), .unset]) X0 hx (hb hby own_d18_1) (q := 3) rfl rfl ?_
  refine own_iload X0 hx (hb hby own_d18_3) (q := 5) rfl rfl ?_
  refine own_iload X0 hx (hb hby own_d18_5) (q := 7) rfl rfl ?_
  refine own_icmpM X0 hx (hb hby own_d18_7) (cd := .ge) (x := (0 : Int32)) (y := (3 : Int32)) (pt := 44) (q := 10) (by decide) (by decide) rfl rfl (fun h => False.elim (h ((by decide) : (0 : Int32) < (3 : Int32)))) (fun _ => ?_)
  refine own_aloadN X0 hx (hb hby own_d18_10) (q := 11) rfl rfl rfl ?_
  refine own_iloadN X0 hx (hb hby own_d18_11) (q := 12) rfl rfl ?_
  refine own_caload X0 hx hZ (i := 0) (v := .int u0) e0 V0p (by decide) (by decide) rfl (hb hby own_d18_12) (q := 13) rfl ?_
  refine own_istore (L' := #[.val (.ref a1), .val (.int (0 : Int32)), .val (.ref a3), .val (.int (0 : Int32)), .val (.int (3 : Int32)), .val (.int (0 : Int32)), .val (.int u0)]) X0 hx (hb hby own_d18_13) (q := 15) rfl rfl ?_
  refine own_iload X0 hx (hb hby own_d18_15) (q := 17) rfl rfl ?_
  refine own_sipush X0 hx (v := (255 : Int32)) (hb hby own_d18_17) (q := 20) rfl rfl ?_
  refine own_icmpM X0 hx (hb hby own_d18_20) (cd := .le) (x := u0) (y := (255 : Int32)) (pt := 26) (q := 23) (by decide) (by decide) rfl rfl (fun _ => ?_) (fun h => False.elim ((kn0 : ¬ ((255 : Int32) < u0)) h))
  refine own_aloadN X0 hx (hb hby own_d18_26) (q := 27) rfl rfl rfl ?_
  refine own_iloadN X0 hx (hb hby own_d18_27) (q := 28) rfl rfl ?_
  refine own_iload X0 hx (hb hby own_d18_28) (q := 30) rfl rfl ?_
  refine own_i2b X0 hx (hb hby own_d18_30) (q := 31) rfl ?_
  refine own_bastore X0 hx hZ (i := 0) e0 V1p (by decide) (by decide) (Nat.le_of_ble_eq_true rfl) (hb hby own_d18_31) (q := 32) rfl (fun T686 h689 X687 e688 W690 A691 => ?_)
  rw [own_bb] at A691
  replace A691 : own_A Z h689 a3 .byte [.int u0.toInt8.toInt32, .int (0 : Int32), .int (0 : Int32)] := A691
  have V692 := V0p.other W690 ne_a1_a3
  have K693 := K0.wr W690 (Or.inl (List.mem_of_getElem? (i := 0) rfl))
  have N694 := Fr.snoc X687 N0 G_a3
  refine own_iinc (L' := #[.val (.ref a1), .val (.int ((0 : Int32) + (1 : Int32))), .val (.ref a3), .val (.int (0 : Int32)), .val (.int (3 : Int32)), .val (.int (0 : Int32)), .val (.int u0)]) X687 hx (v := (1 : Int32)) (hb hby own_d18_32) (q := 35) rfl rfl rfl rfl ?_
  rw [show ((0 : Int32) + (1 : Int32) : Int32) = (1 : Int32) from by decide]
  refine own_iinc (L' := #[.val (.ref a1), .val (.int (1 : Int32)), .val (.ref a3), .val (.int ((0 : Int32) + (1 : Int32))), .val (.int (3 : Int32)), .val (.int (0 : Int32)), .val (.int u0)]) X687 hx (v := (1 : Int32)) (hb hby own_d18_35) (q := 38) rfl rfl rfl rfl ?_
  rw [show ((0 : Int32) + (1 : Int32) : Int32) = (1 : Int32) from by decide]
  refine own_iinc (L' := #[.val (.ref a1), .val (.int (1 : Int32)), .val (.ref a3), .val (.int (1 : Int32)), .val (.int (3 : Int32)), .val (.int ((0 : Int32) + (1 : Int32))), .val (.int u0)]) X687 hx (v := (1 : Int32)) (hb hby own_d18_38) (q := 41) rfl rfl rfl rfl ?_
  rw [show ((0 : Int32) + (1 : Int32) : Int32) = (1 : Int32) from by decide]
  refine own_goto X687 hx (hb hby own_d18_41) (q := 3) (by decide) (by decide) ?_
  refine own_iload X687 hx (hb hby own_d18_3) (q := 5) rfl rfl ?_
  refine own_iload X687 hx (hb hby own_d18_5) (q := 7) rfl rfl ?_
  refine own_icmpM X687 hx (hb hby own_d18_7) (cd := .ge) (x := (1 : Int32)) (y := (3 : Int32)) (pt := 44) (q := 10) (by decide) (by decide) rfl rfl (fun h => False.elim (h ((by decide) : (1 : Int32) < (3 : Int32)))) (fun _ => ?_)
  refine own_aloadN X687 hx (hb hby own_d18_10) (q := 11) rfl rfl rfl ?_
  refine own_iloadN X687 hx (hb hby own_d18_11) (q := 12) rfl rfl ?_
  refine own_caload X687 hx hZ (i := 1) (v := .int u1) e688 V692 (by decide) (by decide) rfl (hb hby own_d18_12) (q := 13) rfl ?_
  refine own_istore (L' := #[.val (.ref a1), .val (.int (1 : Int32)), .val (.ref a3), .val (.int (1 : Int32)), .val (.int (3 : Int32)), .val (.int (1 : Int32)), .val (.int u1)]) X687 hx (hb hby own_d18_13) (q := 15) rfl rfl ?_
  refine own_iload X687 hx (hb hby own_d18_15) (q := 17) rfl rfl ?_
  refine own_sipush X687 hx (v := (255 : Int32)) (hb hby own_d18_17) (q := 20) rfl rfl ?_
  refine own_icmpM X687 hx (hb hby own_d18_20) (cd := .le) (x := u1) (y := (255 : Int32)) (pt := 26) (q := 23) (by decide) (by decide) rfl rfl (fun h => False.elim (h (kn1 : (255 : Int32) < u1))) (fun _ => ?_)
  refine own_iload X687 hx (hb hby own_d18_23) (q := 25) rfl rfl ?_
  refine own_retI X687 hx hlk hret (hb hby own_d18_25) ?_ (by decide) (by decide)
  have r : own_f18_31 a1 a3 u0 u1 u2 = (1 : Int32) := by rw [own_f18_31]
  show own_Q18_31 Z a1 a3 u0 u1 u2 h0 n0 _ T686.heap _
  rw [e688]
  exact ⟨(by rw [r] <;> rfl), N694, K693, V692, A691⟩

def own_Q17_31 (Z : State) (a1 : Addr) (cs : Int32) (G : Value) (u0 : Int32) (u1 : Int32) (u2 : Int32) (h0 : Heap) (n0 : Nat) (v : Option Value) (h : Heap) (L : List Loc) : Prop := ∃ ra0 : Addr, v = some (.ref ra0) ∧ Fr n0 L ∧ Keep h0 h [] ∧ h0.size ≤ ra0 ∧ Exa Z h ra0 "[B" ∧ own_A Z h ra0 .byte [.int ((u0 >>> ((0 : Int32) &&& 31)).toInt8.toInt32), .int ((u0 >>> ((8 : Int32) &&& 31)).toInt8.toInt32), .int ((u1 >>> ((0 : Int32) &&& 31)).toInt8.toInt32), .int ((u1 >>> ((8 : Int32) &&& 31)).toInt8.toInt32), .int ((u2 >>> ((0 : Int32) &&& 31)).toInt8.toInt32), .int ((u2 >>> ((8 : Int32) &&& 31)).toInt8.toInt32)]
set_option maxRecDepth 65536 in
set_option maxHeartbeats 40000000 in
theorem rm17_31 (l : Launch) (Z : State) (a0 : Array Value) (hw : ∀ d ∈ tables_1, d.before a0 Z = true) (ws : List Jvm.Cond) (a1 : Addr) (cs : Int32) (G : Value) (u0 : Int32) (u1 : Int32) (u2 : Int32) (h0 : Heap) (n0 : Nat) (Z0 : n0 ≤ h0.size) (G0p : own_G Z h0 cs G) (V1p : own_A Z h0 a1 .char [.int u0, .int u1, .int u2])  (kn0 : ¬ ((255 : Int32) < u0)) (kn1 : (255 : Int32) < u1) (kn2 : ¬ (u0 < (0 : Int32))) (kn3 : ¬ ((65535 : Int32) < u0)) (kn4 : ¬ (u1 < (0 : Int32))) (kn5 : ¬ ((65535 : Int32) < u1)) (kn6 : ¬ (u2 < (0 : Int32))) (kn7 : ¬ ((65535 : Int32) < u2)) :
    own_M l (⟨"java/lang/StringUTF16", "compress", "([CII)[B"⟩ : MethodName) jdk_52_method_16_code 6 (some (.array .byte)) ws ({ frames := 3, cells := 2, slots := 9, locals := 40 } : Room) #[.ref a1, .int (0 : Int32), .int (3 : Int32)] Z h0 (own_Q17_31 Z a1 cs G u0 u1 u2 h0 n0) := by
  refine own_prol (C := "java/lang/StringUTF16") rfl own_pn10 (fun m => own_ef17_k0_k3 m ..) ?_
  intro p e s m below meth c s₁ hx hby hml hown hnm hlk hret X0 e0 hZ
  have N0 := Fr.nil n0
  have K0 := Keep.refl h0 []
  refine own_iloadN X0 hx (hb hby own_d17_0) (q := 1) rfl rfl ?_
  refine own_newE X0 hx hZ (aty := .byte) (ty := .byte) (ad := "[B") (k := 3) (cap := 3) rfl rfl (own_h hw 15 rfl) e0 (by decide) (by decide) (by decide) (by decide) (by decide) (by decide) (hb hby own_d17_1) (q := 3) rfl (fun T695 h698 a699 X696 e697 g700 E701 A702 E703 => ?_)
  have O704 : h0.size ≤ a699 := by rw [g700]; exact K0.1
  have L705 := G0p.ext E701
  have V706 := V1p.ext E701
  have K707 := K0.ext E701
  have ne708 : a1 ≠ a699 := by rw [g700]; exact Nat.ne_of_lt V1p.lt
  have Z709 : n0 ≤ a699 := by rw [g700]; exact Z0
  have Z710 : n0 ≤ h698.size := Nat.le_trans Z0 E701.1
  replace A702 : own_A Z h698 a699 .byte [.int (0 : Int32), .int (0 : Int32), .int (0 : Int32)] := A702
  refine own_astoreN (L' := #[.val (.ref a1), .val (.int (0 : Int32)), .val (.int (3 : Int32)), .val (.ref a699), .unset, .unset]) X696 hx (hb hby own_d17_3) (q := 4) rfl rfl rfl ?_
  refine own_aloadN X696 hx (hb hby own_d17_4) (q := 5) rfl rfl rfl ?_
  refine own_iloadN X696 hx (hb hby own_d17_5) (q := 6) rfl rfl ?_
  refine own_aloadN X696 hx (hb hby own_d17_6) (q := 7) rfl rfl rfl ?_
  refine own_iconst X696 hx (v := (0 : Int32)) (hb hby own_d17_7) (q := 8) rfl rfl ?_
  refine own_iloadN X696 hx (hb hby own_d17_8) (q := 9) rfl rfl ?_
  refine own_callS X696 hx hZ hown (own_h hw 106 rfl) (own_h hw 107 rfl) (own_h hw 104 rfl) (own_h hw 108 rfl) (by decide) (rm18_31 l Z a0 hw [] a1 a699 u0 u1 u2 h698 n0 V706 A702 Z709 ne708 kn0 kn1) own_pd9 rfl e697 (by rw [hml]; rfl) (argsL := [.ref a1, .int (0 : Int32), .ref a699, .int (0 : Int32), .int (3 : Int32)]) (st := []) rfl (W := 0) (Nat.le_of_eq rfl) (by decide) (by decide) (by decide) (by decide) (hb hby own_d17_9) (q := 12) rfl (fun v717 T718 L719 X720 hQ721 => ?_)
  obtain ⟨rfl, N722, K723, A725, A726⟩ := hQ721
  have L727 := L705.keep K723 (allS (own_exaPlain E703) all0)
  have E728 := E703.keep K723
  have Z729 : n0 ≤ T718.heap.size := Nat.le_trans Z710 K723.1
  have K730 := K707.trans K723 (allS (Or.inr O704) all0)
  have N724 := Fr.app N0 N722
  show own_Go _ _ _ _ (T718.setTop (mkF m 12 #[.val (.ref a1), .val (.int (0 : Int32)), .val (.int (3 : Int32)), .val (.ref a699), .unset, .unset] [.int (1 : Int32)]))
  refine own_istore (L' := #[.val (.ref a1), .val (.int (0 : Int32)), .val (.int (3 : Int32)), .val (.ref a699), .val (.int (1 : Int32)), .unset]) X720 hx (hb hby own_d17_12) (q := 14) rfl rfl ?_
  refine own_iload X720 hx (hb hby own_d17_14) (q := 16) rfl rfl ?_
  refine own_iloadN X720 hx (hb hby own_d17_16) (q := 17) rfl rfl ?_
  refine own_icmpP X720 hx (hb hby own_d17_17) (cd := .eq) (x := (1 : Int32)) (y := (3 : Int32)) (pt := 57) (q := 20) (by decide) (by decide) rfl rfl (fun h => False.elim (((by decide) : ¬ ((1 : Int32) = (3 : Int32))) h)) (fun _ => ?_)
  refine own_aloadN X720 hx (hb hby own_d17_20) (q := 21) rfl rfl rfl ?_
  refine own_iloadN X720 hx (hb hby own_d17_21) (q := 22) rfl rfl ?_
  refine own_iloadN X720 hx (hb hby own_d17_22) (q := 23) rfl rfl ?_
  refine own_callS X720 hx hZ hown (own_h hw 160 rfl) (own_h hw 161 rfl) (own_h hw 104 rfl) (own_h hw 162 rfl) (by decide) (rm31_3 l Z a0 hw [] a1 cs G u0 u1 u2 T718.heap n0 Z729 L727 A725 ) own_pd10 rfl rfl (by rw [hml]; rfl) (argsL := [.ref a1, .int (0 : Int32), .int (3 : Int32)]) (st := []) rfl (W := 0) (Nat.le_of_eq rfl) (by decide) (by decide) (by decide) (by decide) (hb hby own_d17_23) (q := 26) rfl (fun v737 T738 L739 X740 hQ741 => ?_)
  obtain ⟨a745, rfl, N742, K743, O746, E747, A748⟩ := hQ741
  have L749 := L727.keep K743 all0
  have A750 := A725.keep K743 nin0
  have A751 := A726.keep K743 nin0
  have E752 := E728.keep K743
  have Z753 : n0 ≤ T738.heap.size := Nat.le_trans Z729 K743.1
  have K754 := K730.trans K743 all0
  have N744 := Fr.app N724 N742
  have ne755 : a1 ≠ a745 := Nat.ne_of_lt (Nat.lt_of_lt_of_le A725.lt O746)
  have ne756 : a699 ≠ a745 := Nat.ne_of_lt (Nat.lt_of_lt_of_le E728.lt O746)
  have Z757 : n0 ≤ a745 := Nat.le_trans Z729 O746
  have O758 : h0.size ≤ a745 := Nat.le_trans K730.1 O746
  show own_Go _ _ _ _ (T738.setTop (mkF m 26 #[.val (.ref a1), .val (.int (0 : Int32)), .val (.int (3 : Int32)), .val (.ref a699), .val (.int (1 : Int32)), .unset] [.ref a745]))
  refine own_astore (L' := #[.val (.ref a1), .val (.int (0 : Int32)), .val (.int (3 : Int32)), .val (.ref a699), .val (.int (1 : Int32)), .val (.ref a745)]) X740 hx (hb hby own_d17_26) (q := 28) rfl rfl rfl ?_
  refine own_aload X740 hx (hb hby own_d17_28) (q := 30) rfl rfl rfl ?_
  refine own_iload X740 hx (hb hby own_d17_30) (q := 32) rfl rfl ?_
  refine own_callSP X740 hx hZ hown (own_h hw 176 rfl) (own_h hw 177 rfl) (own_h hw 104 rfl) (own_h hw 178 rfl) (by decide) (rm35 l Z a0 hw [] a745 (1 : Int32) cs G ([.int ((u0 >>> ((0 : Int32) &&& 31)).toInt8.toInt32), .int ((u0 >>> ((8 : Int32) &&& 31)).toInt8.toInt32), .int ((u1 >>> ((0 : Int32) &&& 31)).toInt8.toInt32), .int ((u1 >>> ((8 : Int32) &&& 31)).toInt8.toInt32), .int ((u2 >>> ((0 : Int32) &&& 31)).toInt8.toInt32), .int ((u2 >>> ((8 : Int32) &&& 31)).toInt8.toInt32)]) ((u1 >>> ((0 : Int32) &&& 31)).toInt8.toInt32) ((u1 >>> ((8 : Int32) &&& 31)).toInt8.toInt32) T738.heap L749 A748 (by decide) (by decide) (by rw [show ((1 : Int32) <<< ((1 : Int32) &&& 31)).toNatClampNeg = 2 from by decide]; rfl) (by rw [show (((1 : Int32) <<< ((1 : Int32) &&& 31)) + (1 : Int32)).toNatClampNeg = 3 from by decide]; rfl)) own_pd11 rfl rfl (by rw [hml]; rfl) (argsL := [.ref a745, .int (1 : Int32)]) (st := []) rfl (W := 0) (Nat.le_of_eq rfl) (by decide) (by decide) (by decide) (by decide) (hb hby own_d17_32) (q := 35) rfl (fun T759 X760 e761 => ?_)
  refine own_sipush X760 hx (v := (255 : Int32)) (hb hby own_d17_35) (q := 38) rfl rfl ?_
  refine own_icmpP X760 hx (hb hby own_d17_38) (cd := .gt) (x := own_f35 (1 : Int32) cs ((u1 >>> ((0 : Int32) &&& 31)).toInt8.toInt32) ((u1 >>> ((8 : Int32) &&& 31)).toInt8.toInt32)) (y := (255 : Int32)) (pt := 54) (q := 41) (by decide) (by decide) rfl rfl (fun _ => ?_) (fun h => False.elim (h ((by unfold own_f35; rw [own_rt kn4 kn5]; exact kn1) : (255 : Int32) < (own_f35 (1 : Int32) cs ((u1 >>> ((0 : Int32) &&& 31)).toInt8.toInt32) ((u1 >>> ((8 : Int32) &&& 31)).toInt8.toInt32)))))
  refine own_aload X760 hx (hb hby own_d17_54) (q := 56) rfl rfl rfl ?_
  refine own_retA X760 hx hlk rfl rfl rfl hret (hb hby own_d17_56) ?_ (by decide) (by decide)
  show own_Q17_31 Z a1 cs G u0 u1 u2 h0 n0 _ T759.heap _
  rw [e761]
  exact ⟨a745, rfl, N744, K754, O758, E747, A748⟩

def own_f18_32 (a1 : Addr) (a3 : Addr) (u0 : Int32) (u1 : Int32) (u2 : Int32) : Int32 := (2 : Int32)
def own_Q18_32 (Z : State) (a1 : Addr) (a3 : Addr) (u0 : Int32) (u1 : Int32) (u2 : Int32) (h0 : Heap) (n0 : Nat) (v : Option Value) (h : Heap) (L : List Loc) : Prop := v = some (.int (own_f18_32 a1 a3 u0 u1 u2)) ∧ Fr n0 L ∧ Keep h0 h [a3] ∧ own_A Z h a1 .char [.int u0, .int u1, .int u2] ∧ own_A Z h a3 .byte [.int u0.toInt8.toInt32, .int u1.toInt8.toInt32, .int (0 : Int32)]
set_option maxRecDepth 65536 in
set_option maxHeartbeats 40000000 in
theorem rm18_32 (l : Launch) (Z : State) (a0 : Array Value) (hw : ∀ d ∈ tables_1, d.before a0 Z = true) (ws : List Jvm.Cond) (a1 : Addr) (a3 : Addr) (u0 : Int32) (u1 : Int32) (u2 : Int32) (h0 : Heap) (n0 : Nat) (V0p : own_A Z h0 a1 .char [.int u0, .int u1, .int u2]) (V1p : own_A Z h0 a3 .byte [.int (0 : Int32), .int (0 : Int32), .int (0 : Int32)]) (G_a3 : n0 ≤ a3) (ne_a1_a3 : a1 ≠ a3)  (kn0 : ¬ ((255 : Int32) < u0)) (kn1 : ¬ ((255 : Int32) < u1)) (kn2 : (255 : Int32) < u2) :
    own_M l (⟨"java/lang/StringUTF16", "compress", "([CI[BII)I"⟩ : MethodName) jdk_52_method_21_code 7 (some .int) ws ({ frames := 0, cells := 0, slots := 0, locals := 0 } : Room) #[.ref a1, .int (0 : Int32), .ref a3, .int (0 : Int32), .int (3 : Int32)] Z h0 (own_Q18_32 Z a1 a3 u0 u1 u2 h0 n0) := by
  refine own_prol (C := "java/lang/StringUTF16") rfl own_pn10 (fun m => own_ef18_k0_k0_k3 m ..) ?_
  intro p e s m below meth c s₁ hx hby hml hown hnm hlk hret X0 e0 hZ
  have N0 := Fr.nil n0
  have K0 := Keep.refl h0 [a3]
  refine own_iconst X0 hx (v := (0 : Int32)) (hb hby own_d18_0) (q := 1) rfl rfl ?_
  refine own_istore (L' := #[.val (.ref a1), .val (.int (0 : Int32)), .val (.ref a3), .val (.int (0 : Int32)), .val (.int (3 : Int32)), .val (.int (0 : Int32)), .unset]) X0 hx (hb hby own_d18_1) (q := 3) rfl rfl ?_
  refine own_iload X0 hx (hb hby own_d18_3) (q := 5) rfl rfl ?_
  refine own_iload X0 hx (hb hby own_d18_5) (q := 7) rfl rfl ?_
  refine own_icmpM X0 hx (hb hby own_d18_7) (cd := .ge) (x := (0 : Int32)) (y := (3 : Int32)) (pt := 44) (q := 10) (by decide) (by decide) rfl rfl (fun h => False.elim (h ((by decide) : (0 : Int32) < (3 : Int32)))) (fun _ => ?_)
  refine own_aloadN X0 hx (hb hby own_d18_10) (q := 11) rfl rfl rfl ?_
  refine own_iloadN X0 hx (hb hby own_d18_11) (q := 12) rfl rfl ?_
  refine own_caload X0 hx hZ (i := 0) (v := .int u0) e0 V0p (by decide) (by decide) rfl (hb hby own_d18_12) (q := 13) rfl ?_
  refine own_istore (L' := #[.val (.ref a1), .val (.int (0 : Int32)), .val (.ref a3), .val (.int (0 : Int32)), .val (.int (3 : Int32)), .val (.int (0 : Int32)), .val (.int u0)]) X0 hx (hb hby own_d18_13) (q := 15) rfl rfl ?_
  refine own_iload X0 hx (hb hby own_d18_15) (q := 17) rfl rfl ?_
  refine own_sipush X0 hx (v := (255 : Int32)) (hb hby own_d18_17) (q := 20) rfl rfl ?_
  refine own_icmpM X0 hx (hb hby own_d18_20) (cd := .le) (x := u0) (y := (255 : Int32)) (pt := 26) (q := 23) (by decide) (by decide) rfl rfl (fun _ => ?_) (fun h => False.elim ((kn0 : ¬ ((255 : Int32) < u0)) h))
  refine own_aloadN X0 hx (hb hby own_d18_26) (q := 27) rfl rfl rfl ?_
  refine own_iloadN X0 hx (hb hby own_d18_27) (q := 28) rfl rfl ?_
  refine own_iload X0 hx (hb hby own_d18_28) (q := 30) rfl rfl ?_
  refine own_i2b X0 hx (hb hby own_d18_30) (q := 31) rfl ?_
  refine own_bastore X0 hx hZ (i := 0) e0 V1p (by decide) (by decide) (Nat.le_of_ble_eq_true rfl) (hb hby own_d18_31) (q := 32) rfl (fun T762 h765 X763 e764 W766 A767 => ?_)
  rw [own_bb] at A767
  replace A767 : own_A Z h765 a3 .byte [.int u0.toInt8.toInt32, .int (0 : Int32), .int (0 : Int32)] := A767
  have V768 := V0p.other W766 ne_a1_a3
  have K769 := K0.wr W766 (Or.inl (List.mem_of_getElem? (i := 0) rfl))
  have N770 := Fr.snoc X763 N0 G_a3
  refine own_iinc (L' := #[.val (.ref a1), .val (.int ((0 : Int32) + (1 : Int32))), .val (.ref a3), .val (.int (0 : Int32)), .val (.int (3 : Int32)), .val (.int (0 : Int32)), .val (.int u0)]) X763 hx (v := (1 : Int32)) (hb hby own_d18_32) (q := 35) rfl rfl rfl rfl ?_
  rw [show ((0 : Int32) + (1 : Int32) : Int32) = (1 : Int32) from by decide]
  refine own_iinc (L' := #[.val (.ref a1), .val (.int (1 : Int32)), .val (.ref a3), .val (.int ((0 : Int32) + (1 : Int32))), .val (.int (3 : Int32)), .val (.int (0 : Int32)), .val (.int u0)]) X763 hx (v := (1 : Int32)) (hb hby own_d18_35) (q := 38) rfl rfl rfl rfl ?_
  rw [show ((0 : Int32) + (1 : Int32) : Int32) = (1 : Int32) from by decide]
  refine own_iinc (L' := #[.val (.ref a1), .val (.int (1 : Int32)), .val (.ref a3), .val (.int (1 : Int32)), .val (.int (3 : Int32)), .val (.int ((0 : Int32) + (1 : Int32))), .val (.int u0)]) X763 hx (v := (1 : Int32)) (hb hby own_d18_38) (q := 41) rfl rfl rfl rfl ?_
  rw [show ((0 : Int32) + (1 : Int32) : Int32) = (1 : Int32) from by decide]
  refine own_goto X763 hx (hb hby own_d18_41) (q := 3) (by decide) (by decide) ?_
  refine own_iload X763 hx (hb hby own_d18_3) (q := 5) rfl rfl ?_
  refine own_iload X763 hx (hb hby own_d18_5) (q := 7) rfl rfl ?_
  refine own_icmpM X763 hx (hb hby own_d18_7) (cd := .ge) (x := (1 : Int32)) (y := (3 : Int32)) (pt := 44) (q := 10) (by decide) (by decide) rfl rfl (fun h => False.elim (h ((by decide) : (1 : Int32) < (3 : Int32)))) (fun _ => ?_)
  refine own_aloadN X763 hx (hb hby own_d18_10) (q := 11) rfl rfl rfl ?_
  refine own_iloadN X763 hx (hb hby own_d18_11) (q := 12) rfl rfl ?_
  refine own_caload X763 hx hZ (i := 1) (v := .int u1) e764 V768 (by decide) (by decide) rfl (hb hby own_d18_12) (q := 13) rfl ?_
  refine own_istore (L' := #[.val (.ref a1), .val (.int (1 : Int32)), .val (.ref a3), .val (.int (1 : Int32)), .val (.int (3 : Int32)), .val (.int (1 : Int32)), .val (.int u1)]) X763 hx (hb hby own_d18_13) (q := 15) rfl rfl ?_
  refine own_iload X763 hx (hb hby own_d18_15) (q := 17) rfl rfl ?_
  refine own_sipush X763 hx (v := (255 : Int32)) (hb hby own_d18_17) (q := 20) rfl rfl ?_
  refine own_icmpM X763 hx (hb hby own_d18_20) (cd := .le) (x := u1) (y := (255 : Int32)) (pt := 26) (q := 23) (by decide) (by decide) rfl rfl (fun _ => ?_) (fun h => False.elim ((kn1 : ¬ ((255 : Int32) < u1)) h))
  refine own_aloadN X763 hx (hb hby own_d18_26) (q := 27) rfl rfl rfl ?_
  refine own_iloadN X763 hx (hb hby own_d18_27) (q := 28) rfl rfl ?_
  refine own_iload X763 hx (hb hby own_d18_28) (q := 30) rfl rfl ?_
  refine own_i2b X763 hx (hb hby own_d18_30) (q := 31) rfl ?_
  refine own_bastore X763 hx hZ (i := 1) e764 A767 (by decide) (by decide) (Nat.le_of_ble_eq_true rfl) (hb hby own_d18_31) (q := 32) rfl (fun T771 h774 X772 e773 W775 A776 => ?_)
  rw [own_bb] at A776
  replace A776 : own_A Z h774 a3 .byte [.int u0.toInt8.toInt32, .int u1.toInt8.toInt32, .int (0 : Int32)] := A776
  have V777 := V768.other W775 ne_a1_a3
  have K778 := K769.wr W775 (Or.inl (List.mem_of_getElem? (i := 0) rfl))
  have N779 := Fr.snoc X772 N770 G_a3
  refine own_iinc (L' := #[.val (.ref a1), .val (.int ((1 : Int32) + (1 : Int32))), .val (.ref a3), .val (.int (1 : Int32)), .val (.int (3 : Int32)), .val (.int (1 : Int32)), .val (.int u1)]) X772 hx (v := (1 : Int32)) (hb hby own_d18_32) (q := 35) rfl rfl rfl rfl ?_
  rw [show ((1 : Int32) + (1 : Int32) : Int32) = (2 : Int32) from by decide]
  refine own_iinc (L' := #[.val (.ref a1), .val (.int (2 : Int32)), .val (.ref a3), .val (.int ((1 : Int32) + (1 : Int32))), .val (.int (3 : Int32)), .val (.int (1 : Int32)), .val (.int u1)]) X772 hx (v := (1 : Int32)) (hb hby own_d18_35) (q := 38) rfl rfl rfl rfl ?_
  rw [show ((1 : Int32) + (1 : Int32) : Int32) = (2 : Int32) from by decide]
  refine own_iinc (L' := #[.val (.ref a1), .val (.int (2 : Int32)), .val (.ref a3), .val (.int (2 : Int32)), .val (.int (3 : Int32)), .val (.int ((1 : Int32) + (1 : Int32))), .val (.int u1)]) X772 hx (v := (1 : Int32)) (hb hby own_d18_38) (q := 41) rfl rfl rfl rfl ?_
  rw [show ((1 : Int32) + (1 : Int32) : Int32) = (2 : Int32) from by decide]
  refine own_goto X772 hx (hb hby own_d18_41) (q := 3) (by decide) (by decide) ?_
  refine own_iload X772 hx (hb hby own_d18_3) (q := 5) rfl rfl ?_
  refine own_iload X772 hx (hb hby own_d18_5) (q := 7) rfl rfl ?_
  refine own_icmpM X772 hx (hb hby own_d18_7) (cd := .ge) (x := (2 : Int32)) (y := (3 : Int32)) (pt := 44) (q := 10) (by decide) (by decide) rfl rfl (fun h => False.elim (h ((by decide) : (2 : Int32) < (3 : Int32)))) (fun _ => ?_)
  refine own_aloadN X772 hx (hb hby own_d18_10) (q := 11) rfl rfl rfl ?_
  refine own_iloadN X772 hx (hb hby own_d18_11) (q := 12) rfl rfl ?_
  refine own_caload X772 hx hZ (i := 2) (v := .int u2) e773 V777 (by decide) (by decide) rfl (hb hby own_d18_12) (q := 13) rfl ?_
  refine own_istore (L' := #[.val (.ref a1), .val (.int (2 : Int32)), .val (.ref a3), .val (.int (2 : Int32)), .val (.int (3 : Int32)), .val (.int (2 : Int32)), .val (.int u2)]) X772 hx (hb hby own_d18_13) (q := 15) rfl rfl ?_
  refine own_iload X772 hx (hb hby own_d18_15) (q := 17) rfl rfl ?_
  refine own_sipush X772 hx (v := (255 : Int32)) (hb hby own_d18_17) (q := 20) rfl rfl ?_
  refine own_icmpM X772 hx (hb hby own_d18_20) (cd := .le) (x := u2) (y := (255 : Int32)) (pt := 26) (q := 23) (by decide) (by decide) rfl rfl (fun h => False.elim (h (kn2 : (255 : Int32) < u2))) (fun _ => ?_)
  refine own_iload X772 hx (hb hby own_d18_23) (q := 25) rfl rfl ?_
  refine own_retI X772 hx hlk hret (hb hby own_d18_25) ?_ (by decide) (by decide)
  have r : own_f18_32 a1 a3 u0 u1 u2 = (2 : Int32) := by rw [own_f18_32]
  show own_Q18_32 Z a1 a3 u0 u1 u2 h0 n0 _ T771.heap _
  rw [e773]
  exact ⟨(by rw [r] <;> rfl), N779, K778, V777, A776⟩

def own_Q17_32 (Z : State) (a1 : Addr) (cs : Int32) (G : Value) (u0 : Int32) (u1 : Int32) (u2 : Int32) (h0 : Heap) (n0 : Nat) (v : Option Value) (h : Heap) (L : List Loc) : Prop := ∃ ra0 : Addr, v = some (.ref ra0) ∧ Fr n0 L ∧ Keep h0 h [] ∧ h0.size ≤ ra0 ∧ Exa Z h ra0 "[B" ∧ own_A Z h ra0 .byte [.int ((u0 >>> ((0 : Int32) &&& 31)).toInt8.toInt32), .int ((u0 >>> ((8 : Int32) &&& 31)).toInt8.toInt32), .int ((u1 >>> ((0 : Int32) &&& 31)).toInt8.toInt32), .int ((u1 >>> ((8 : Int32) &&& 31)).toInt8.toInt32), .int ((u2 >>> ((0 : Int32) &&& 31)).toInt8.toInt32), .int ((u2 >>> ((8 : Int32) &&& 31)).toInt8.toInt32)]
set_option maxRecDepth 65536 in
set_option maxHeartbeats 40000000 in
theorem rm17_32 (l : Launch) (Z : State) (a0 : Array Value) (hw : ∀ d ∈ tables_1, d.before a0 Z = true) (ws : List Jvm.Cond) (a1 : Addr) (cs : Int32) (G : Value) (u0 : Int32) (u1 : Int32) (u2 : Int32) (h0 : Heap) (n0 : Nat) (Z0 : n0 ≤ h0.size) (G0p : own_G Z h0 cs G) (V1p : own_A Z h0 a1 .char [.int u0, .int u1, .int u2])  (kn0 : ¬ ((255 : Int32) < u0)) (kn1 : ¬ ((255 : Int32) < u1)) (kn2 : (255 : Int32) < u2) (kn3 : ¬ (u0 < (0 : Int32))) (kn4 : ¬ ((65535 : Int32) < u0)) (kn5 : ¬ (u1 < (0 : Int32))) (kn6 : ¬ ((65535 : Int32) < u1)) (kn7 : ¬ (u2 < (0 : Int32))) (kn8 : ¬ ((65535 : Int32) < u2)) :
    own_M l (⟨"java/lang/StringUTF16", "compress", "([CII)[B"⟩ : MethodName) jdk_52_method_16_code 6 (some (.array .byte)) ws ({ frames := 3, cells := 2, slots := 9, locals := 40 } : Room) #[.ref a1, .int (0 : Int32), .int (3 : Int32)] Z h0 (own_Q17_32 Z a1 cs G u0 u1 u2 h0 n0) := by
  refine own_prol (C := "java/lang/StringUTF16") rfl own_pn10 (fun m => own_ef17_k0_k3 m ..) ?_
  intro p e s m below meth c s₁ hx hby hml hown hnm hlk hret X0 e0 hZ
  have N0 := Fr.nil n0
  have K0 := Keep.refl h0 []
  refine own_iloadN X0 hx (hb hby own_d17_0) (q := 1) rfl rfl ?_
  refine own_newE X0 hx hZ (aty := .byte) (ty := .byte) (ad := "[B") (k := 3) (cap := 3) rfl rfl (own_h hw 15 rfl) e0 (by decide) (by decide) (by decide) (by decide) (by decide) (by decide) (hb hby own_d17_1) (q := 3) rfl (fun T780 h783 a784 X781 e782 g785 E786 A787 E788 => ?_)
  have O789 : h0.size ≤ a784 := by rw [g785]; exact K0.1
  have L790 := G0p.ext E786
  have V791 := V1p.ext E786
  have K792 := K0.ext E786
  have ne793 : a1 ≠ a784 := by rw [g785]; exact Nat.ne_of_lt V1p.lt
  have Z794 : n0 ≤ a784 := by rw [g785]; exact Z0
  have Z795 : n0 ≤ h783.size := Nat.le_trans Z0 E786.1
  replace A787 : own_A Z h783 a784 .byte [.int (0 : Int32), .int (0 : Int32), .int (0 : Int32)] := A787
  refine own_astoreN (L' := #[.val (.ref a1), .val (.int (0 : Int32)), .val (.int (3 : Int32)), .val (.ref a784), .unset, .unset]) X781 hx (hb hby own_d17_3) (q := 4) rfl rfl rfl ?_
  refine own_aloadN X781 hx (hb hby own_d17_4) (q := 5) rfl rfl rfl ?_
  refine own_iloadN X781 hx (hb hby own_d17_5) (q := 6) rfl rfl ?_
  refine own_aloadN X781 hx (hb hby own_d17_6) (q := 7) rfl rfl rfl ?_
  refine own_iconst X781 hx (v := (0 : Int32)) (hb hby own_d17_7) (q := 8) rfl rfl ?_
  refine own_iloadN X781 hx (hb hby own_d17_8) (q := 9) rfl rfl ?_
  refine own_callS X781 hx hZ hown (own_h hw 106 rfl) (own_h hw 107 rfl) (own_h hw 104 rfl) (own_h hw 108 rfl) (by decide) (rm18_32 l Z a0 hw [] a1 a784 u0 u1 u2 h783 n0 V791 A787 Z794 ne793 kn0 kn1 kn2) own_pd9 rfl e782 (by rw [hml]; rfl) (argsL := [.ref a1, .int (0 : Int32), .ref a784, .int (0 : Int32), .int (3 : Int32)]) (st := []) rfl (W := 0) (Nat.le_of_eq rfl) (by decide) (by decide) (by decide) (by decide) (hb hby own_d17_9) (q := 12) rfl (fun v802 T803 L804 X805 hQ806 => ?_)
  obtain ⟨rfl, N807, K808, A810, A811⟩ := hQ806
  have L812 := L790.keep K808 (allS (own_exaPlain E788) all0)
  have E813 := E788.keep K808
  have Z814 : n0 ≤ T803.heap.size := Nat.le_trans Z795 K808.1
  have K815 := K792.trans K808 (allS (Or.inr O789) all0)
  have N809 := Fr.app N0 N807
  show own_Go _ _ _ _ (T803.setTop (mkF m 12 #[.val (.ref a1), .val (.int (0 : Int32)), .val (.int (3 : Int32)), .val (.ref a784), .unset, .unset] [.int (2 : Int32)]))
  refine own_istore (L' := #[.val (.ref a1), .val (.int (0 : Int32)), .val (.int (3 : Int32)), .val (.ref a784), .val (.int (2 : Int32)), .unset]) X805 hx (hb hby own_d17_12) (q := 14) rfl rfl ?_
  refine own_iload X805 hx (hb hby own_d17_14) (q := 16) rfl rfl ?_
  refine own_iloadN X805 hx (hb hby own_d17_16) (q := 17) rfl rfl ?_
  refine own_icmpP X805 hx (hb hby own_d17_17) (cd := .eq) (x := (2 : Int32)) (y := (3 : Int32)) (pt := 57) (q := 20) (by decide) (by decide) rfl rfl (fun h => False.elim (((by decide) : ¬ ((2 : Int32) = (3 : Int32))) h)) (fun _ => ?_)
  refine own_aloadN X805 hx (hb hby own_d17_20) (q := 21) rfl rfl rfl ?_
  refine own_iloadN X805 hx (hb hby own_d17_21) (q := 22) rfl rfl ?_
  refine own_iloadN X805 hx (hb hby own_d17_22) (q := 23) rfl rfl ?_
  refine own_callS X805 hx hZ hown (own_h hw 160 rfl) (own_h hw 161 rfl) (own_h hw 104 rfl) (own_h hw 162 rfl) (by decide) (rm31_3 l Z a0 hw [] a1 cs G u0 u1 u2 T803.heap n0 Z814 L812 A810 ) own_pd10 rfl rfl (by rw [hml]; rfl) (argsL := [.ref a1, .int (0 : Int32), .int (3 : Int32)]) (st := []) rfl (W := 0) (Nat.le_of_eq rfl) (by decide) (by decide) (by decide) (by decide) (hb hby own_d17_23) (q := 26) rfl (fun v822 T823 L824 X825 hQ826 => ?_)
  obtain ⟨a830, rfl, N827, K828, O831, E832, A833⟩ := hQ826
  have L834 := L812.keep K828 all0
  have A835 := A810.keep K828 nin0
  have A836 := A811.keep K828 nin0
  have E837 := E813.keep K828
  have Z838 : n0 ≤ T823.heap.size := Nat.le_trans Z814 K828.1
  have K839 := K815.trans K828 all0
  have N829 := Fr.app N809 N827
  have ne840 : a1 ≠ a830 := Nat.ne_of_lt (Nat.lt_of_lt_of_le A810.lt O831)
  have ne841 : a784 ≠ a830 := Nat.ne_of_lt (Nat.lt_of_lt_of_le E813.lt O831)
  have Z842 : n0 ≤ a830 := Nat.le_trans Z814 O831
  have O843 : h0.size ≤ a830 := Nat.le_trans K815.1 O831
  show own_Go _ _ _ _ (T823.setTop (mkF m 26 #[.val (.ref a1), .val (.int (0 : Int32)), .val (.int (3 : Int32)), .val (.ref a784), .val (.int (2 : Int32)), .unset] [.ref a830]))
  refine own_astore (L' := #[.val (.ref a1), .val (.int (0 : Int32)), .val (.int (3 : Int32)), .val (.ref a784), .val (.int (2 : Int32)), .val (.ref a830)]) X825 hx (hb hby own_d17_26) (q := 28) rfl rfl rfl ?_
  refine own_aload X825 hx (hb hby own_d17_28) (q := 30) rfl rfl rfl ?_
  refine own_iload X825 hx (hb hby own_d17_30) (q := 32) rfl rfl ?_
  refine own_callSP X825 hx hZ hown (own_h hw 176 rfl) (own_h hw 177 rfl) (own_h hw 104 rfl) (own_h hw 178 rfl) (by decide) (rm35 l Z a0 hw [] a830 (2 : Int32) cs G ([.int ((u0 >>> ((0 : Int32) &&& 31)).toInt8.toInt32), .int ((u0 >>> ((8 : Int32) &&& 31)).toInt8.toInt32), .int ((u1 >>> ((0 : Int32) &&& 31)).toInt8.toInt32), .int ((u1 >>> ((8 : Int32) &&& 31)).toInt8.toInt32), .int ((u2 >>> ((0 : Int32) &&& 31)).toInt8.toInt32), .int ((u2 >>> ((8 : Int32) &&& 31)).toInt8.toInt32)]) ((u2 >>> ((0 : Int32) &&& 31)).toInt8.toInt32) ((u2 >>> ((8 : Int32) &&& 31)).toInt8.toInt32) T823.heap L834 A833 (by decide) (by decide) (by rw [show ((2 : Int32) <<< ((1 : Int32) &&& 31)).toNatClampNeg = 4 from by decide]; rfl) (by rw [show (((2 : Int32) <<< ((1 : Int32) &&& 31)) + (1 : Int32)).toNatClampNeg = 5 from by decide]; rfl)) own_pd11 rfl rfl (by rw [hml]; rfl) (argsL := [.ref a830, .int (2 : Int32)]) (st := []) rfl (W := 0) (Nat.le_of_eq rfl) (by decide) (by decide) (by decide) (by decide) (hb hby own_d17_32) (q := 35) rfl (fun T844 X845 e846 => ?_)
  refine own_sipush X845 hx (v := (255 : Int32)) (hb hby own_d17_35) (q := 38) rfl rfl ?_
  refine own_icmpP X845 hx (hb hby own_d17_38) (cd := .gt) (x := own_f35 (2 : Int32) cs ((u2 >>> ((0 : Int32) &&& 31)).toInt8.toInt32) ((u2 >>> ((8 : Int32) &&& 31)).toInt8.toInt32)) (y := (255 : Int32)) (pt := 54) (q := 41) (by decide) (by decide) rfl rfl (fun _ => ?_) (fun h => False.elim (h ((by unfold own_f35; rw [own_rt kn7 kn8]; exact kn2) : (255 : Int32) < (own_f35 (2 : Int32) cs ((u2 >>> ((0 : Int32) &&& 31)).toInt8.toInt32) ((u2 >>> ((8 : Int32) &&& 31)).toInt8.toInt32)))))
  refine own_aload X845 hx (hb hby own_d17_54) (q := 56) rfl rfl rfl ?_
  refine own_retA X845 hx hlk rfl rfl rfl hret (hb hby own_d17_56) ?_ (by decide) (by decide)
  show own_Q17_32 Z a1 cs G u0 u1 u2 h0 n0 _ T844.heap _
  rw [e846]
  exact ⟨a830, rfl, N829, K839, O843, E832, A833⟩

def own_f18_33 (a1 : Addr) (a3 : Addr) (u0 : Int32) (u1 : Int32) (u2 : Int32) : Int32 := (3 : Int32)
def own_Q18_33 (Z : State) (a1 : Addr) (a3 : Addr) (u0 : Int32) (u1 : Int32) (u2 : Int32) (h0 : Heap) (n0 : Nat) (v : Option Value) (h : Heap) (L : List Loc) : Prop := v = some (.int (own_f18_33 a1 a3 u0 u1 u2)) ∧ Fr n0 L ∧ Keep h0 h [a3] ∧ own_A Z h a1 .char [.int u0, .int u1, .int u2] ∧ own_A Z h a3 .byte [.int u0.toInt8.toInt32, .int u1.toInt8.toInt32, .int u2.toInt8.toInt32]
set_option maxRecDepth 65536 in
set_option maxHeartbeats 40000000 in
theorem rm18_33 (l : Launch) (Z : State) (a0 : Array Value) (hw : ∀ d ∈ tables_1, d.before a0 Z = true) (ws : List Jvm.Cond) (a1 : Addr) (a3 : Addr) (u0 : Int32) (u1 : Int32) (u2 : Int32) (h0 : Heap) (n0 : Nat) (V0p : own_A Z h0 a1 .char [.int u0, .int u1, .int u2]) (V1p : own_A Z h0 a3 .byte [.int (0 : Int32), .int (0 : Int32), .int (0 : Int32)]) (G_a3 : n0 ≤ a3) (ne_a1_a3 : a1 ≠ a3)  (kn0 : ¬ ((255 : Int32) < u0)) (kn1 : ¬ ((255 : Int32) < u1)) (kn2 : ¬ ((255 : Int32) < u2)) :
    own_M l (⟨"java/lang/StringUTF16", "compress", "([CI[BII)I"⟩ : MethodName) jdk_52_method_21_code 7 (some .int) ws ({ frames := 0, cells := 0, slots := 0, locals := 0 } : Room) #[.ref a1, .int (0 : Int32), .ref a3, .int (0 : Int32), .int (3 : Int32)] Z h0 (own_Q18_33 Z a1 a3 u0 u1 u2 h0 n0) := by
  refine own_prol (C := "java/lang/StringUTF16") rfl own_pn10 (fun m => own_ef18_k0_k0_k3 m ..) ?_
  intro p e s m below meth c s₁ hx hby hml hown hnm hlk hret X0 e0 hZ
  have N0 := Fr.nil n0
  have K0 := Keep.refl h0 [a3]
  refine own_iconst X0 hx (v := (0 : Int32)) (hb hby own_d18_0) (q := 1) rfl rfl ?_
  refine own_istore (L' := #[.val (.ref a1), .val (.int (0 : Int32)), .val (.ref a3), .val (.int (0 : Int32)), .val (.int (3 : Int32)), .val (.int (0 : Int32)), .unset]) X0 hx (hb hby own_d18_1) (q := 3) rfl rfl ?_
  refine own_iload X0 hx (hb hby own_d18_3) (q := 5) rfl rfl ?_
  refine own_iload X0 hx (hb hby own_d18_5) (q := 7) rfl rfl ?_
  refine own_icmpM X0 hx (hb hby own_d18_7) (cd := .ge) (x := (0 : Int32)) (y := (3 : Int32)) (pt := 44) (q := 10) (by decide) (by decide) rfl rfl (fun h => False.elim (h ((by decide) : (0 : Int32) < (3 : Int32)))) (fun _ => ?_)
  refine own_aloadN X0 hx (hb hby own_d18_10) (q := 11) rfl rfl rfl ?_
  refine own_iloadN X0 hx (hb hby own_d18_11) (q := 12) rfl rfl ?_
  refine own_caload X0 hx hZ (i := 0) (v := .int u0) e0 V0p (by decide) (by decide) rfl (hb hby own_d18_12) (q := 13) rfl ?_
  refine own_istore (L' := #[.val (.ref a1), .val (.int (0 : Int32)), .val (.ref a3), .val (.int (0 : Int32)), .val (.int (3 : Int32)), .val (.int (0 : Int32)), .val (.int u0)]) X0 hx (hb hby own_d18_13) (q := 15) rfl rfl ?_
  refine own_iload X0 hx (hb hby own_d18_15) (q := 17) rfl rfl ?_
  refine own_sipush X0 hx (v := (255 : Int32)) (hb hby own_d18_17) (q := 20) rfl rfl ?_
  refine own_icmpM X0 hx (hb hby own_d18_20) (cd := .le) (x := u0) (y := (255 : Int32)) (pt := 26) (q := 23) (by decide) (by decide) rfl rfl (fun _ => ?_) (fun h => False.elim ((kn0 : ¬ ((255 : Int32) < u0)) h))
  refine own_aloadN X0 hx (hb hby own_d18_26) (q := 27) rfl rfl rfl ?_
  refine own_iloadN X0 hx (hb hby own_d18_27) (q := 28) rfl rfl ?_
  refine own_iload X0 hx (hb hby own_d18_28) (q := 30) rfl rfl ?_
  refine own_i2b X0 hx (hb hby own_d18_30) (q := 31) rfl ?_
  refine own_bastore X0 hx hZ (i := 0) e0 V1p (by decide) (by decide) (Nat.le_of_ble_eq_true rfl) (hb hby own_d18_31) (q := 32) rfl (fun T847 h850 X848 e849 W851 A852 => ?_)
  rw [own_bb] at A852
  replace A852 : own_A Z h850 a3 .byte [.int u0.toInt8.toInt32, .int (0 : Int32), .int (0 : Int32)] := A852
  have V853 := V0p.other W851 ne_a1_a3
  have K854 := K0.wr W851 (Or.inl (List.mem_of_getElem? (i := 0) rfl))
  have N855 := Fr.snoc X848 N0 G_a3
  refine own_iinc (L' := #[.val (.ref a1), .val (.int ((0 : Int32) + (1 : Int32))), .val (.ref a3), .val (.int (0 : Int32)), .val (.int (3 : Int32)), .val (.int (0 : Int32)), .val (.int u0)]) X848 hx (v := (1 : Int32)) (hb hby own_d18_32) (q := 35) rfl rfl rfl rfl ?_
  rw [show ((0 : Int32) + (1 : Int32) : Int32) = (1 : Int32) from by decide]
  refine own_iinc (L' := #[.val (.ref a1), .val (.int (1 : Int32)), .val (.ref a3), .val (.int ((0 : Int32) + (1 : Int32))), .val (.int (3 : Int32)), .val (.int (0 : Int32)), .val (.int u0)]) X848 hx (v := (1 : Int32)) (hb hby own_d18_35) (q := 38) rfl rfl rfl rfl ?_
  rw [show ((0 : Int32) + (1 : Int32) : Int32) = (1 : Int32) from by decide]
  refine own_iinc (L' := #[.val (.ref a1), .val (.int (1 : Int32)), .val (.ref a3), .val (.int (1 : Int32)), .val (.int (3 : Int32)), .val (.int ((0 : Int32) + (1 : Int32))), .val (.int u0)]) X848 hx (v := (1 : Int32)) (hb hby own_d18_38) (q := 41) rfl rfl rfl rfl ?_
  rw [show ((0 : Int32) + (1 : Int32) : Int32) = (1 : Int32) from by decide]
  refine own_goto X848 hx (hb hby own_d18_41) (q := 3) (by decide) (by decide) ?_
  refine own_iload X848 hx (hb hby own_d18_3) (q := 5) rfl rfl ?_
  refine own_iload X848 hx (hb hby own_d18_5) (q := 7) rfl rfl ?_
  refine own_icmpM X848 hx (hb hby own_d18_7) (cd := .ge) (x := (1 : Int32)) (y := (3 : Int32)) (pt := 44) (q := 10) (by decide) (by decide) rfl rfl (fun h => False.elim (h ((by decide) : (1 : Int32) < (3 : Int32)))) (fun _ => ?_)
  refine own_aloadN X848 hx (hb hby own_d18_10) (q := 11) rfl rfl rfl ?_
  refine own_iloadN X848 hx (hb hby own_d18_11) (q := 12) rfl rfl ?_
  refine own_caload X848 hx hZ (i := 1) (v := .int u1) e849 V853 (by decide) (by decide) rfl (hb hby own_d18_12) (q := 13) rfl ?_
  refine own_istore (L' := #[.val (.ref a1), .val (.int (1 : Int32)), .val (.ref a3), .val (.int (1 : Int32)), .val (.int (3 : Int32)), .val (.int (1 : Int32)), .val (.int u1)]) X848 hx (hb hby own_d18_13) (q := 15) rfl rfl ?_
  refine own_iload X848 hx (hb hby own_d18_15) (q := 17) rfl rfl ?_
  refine own_sipush X848 hx (v := (255 : Int32)) (hb hby own_d18_17) (q := 20) rfl rfl ?_
  refine own_icmpM X848 hx (hb hby own_d18_20) (cd := .le) (x := u1) (y := (255 : Int32)) (pt := 26) (q := 23) (by decide) (by decide) rfl rfl (fun _ => ?_) (fun h => False.elim ((kn1 : ¬ ((255 : Int32) < u1)) h))
  refine own_aloadN X848 hx (hb hby own_d18_26) (q := 27) rfl rfl rfl ?_
  refine own_iloadN X848 hx (hb hby own_d18_27) (q := 28) rfl rfl ?_
  refine own_iload X848 hx (hb hby own_d18_28) (q := 30) rfl rfl ?_
  refine own_i2b X848 hx (hb hby own_d18_30) (q := 31) rfl ?_
  refine own_bastore X848 hx hZ (i := 1) e849 A852 (by decide) (by decide) (Nat.le_of_ble_eq_true rfl) (hb hby own_d18_31) (q := 32) rfl (fun T856 h859 X857 e858 W860 A861 => ?_)
  rw [own_bb] at A861
  replace A861 : own_A Z h859 a3 .byte [.int u0.toInt8.toInt32, .int u1.toInt8.toInt32, .int (0 : Int32)] := A861
  have V862 := V853.other W860 ne_a1_a3
  have K863 := K854.wr W860 (Or.inl (List.mem_of_getElem? (i := 0) rfl))
  have N864 := Fr.snoc X857 N855 G_a3
  refine own_iinc (L' := #[.val (.ref a1), .val (.int ((1 : Int32) + (1 : Int32))), .val (.ref a3), .val (.int (1 : Int32)), .val (.int (3 : Int32)), .val (.int (1 : Int32)), .val (.int u1)]) X857 hx (v := (1 : Int32)) (hb hby own_d18_32) (q := 35) rfl rfl rfl rfl ?_
  rw [show ((1 : Int32) + (1 : Int32) : Int32) = (2 : Int32) from by decide]
  refine own_iinc (L' := #[.val (.ref a1), .val (.int (2 : Int32)), .val (.ref a3), .val (.int ((1 : Int32) + (1 : Int32))), .val (.int (3 : Int32)), .val (.int (1 : Int32)), .val (.int u1)]) X857 hx (v := (1 : Int32)) (hb hby own_d18_35) (q := 38) rfl rfl rfl rfl ?_
  rw [show ((1 : Int32) + (1 : Int32) : Int32) = (2 : Int32) from by decide]
  refine own_iinc (L' := #[.val (.ref a1), .val (.int (2 : Int32)), .val (.ref a3), .val (.int (2 : Int32)), .val (.int (3 : Int32)), .val (.int ((1 : Int32) + (1 : Int32))), .val (.int u1)]) X857 hx (v := (1 : Int32)) (hb hby own_d18_38) (q := 41) rfl rfl rfl rfl ?_
  rw [show ((1 : Int32) + (1 : Int32) : Int32) = (2 : Int32) from by decide]
  refine own_goto X857 hx (hb hby own_d18_41) (q := 3) (by decide) (by decide) ?_
  refine own_iload X857 hx (hb hby own_d18_3) (q := 5) rfl rfl ?_
  refine own_iload X857 hx (hb hby own_d18_5) (q := 7) rfl rfl ?_
  refine own_icmpM X857 hx (hb hby own_d18_7) (cd := .ge) (x := (2 : Int32)) (y := (3 : Int32)) (pt := 44) (q := 10) (by decide) (by decide) rfl rfl (fun h => False.elim (h ((by decide) : (2 : Int32) < (3 : Int32)))) (fun _ => ?_)
  refine own_aloadN X857 hx (hb hby own_d18_10) (q := 11) rfl rfl rfl ?_
  refine own_iloadN X857 hx (hb hby own_d18_11) (q := 12) rfl rfl ?_
  refine own_caload X857 hx hZ (i := 2) (v := .int u2) e858 V862 (by decide) (by decide) rfl (hb hby own_d18_12) (q := 13) rfl ?_
  refine own_istore (L' := #[.val (.ref a1), .val (.int (2 : Int32)), .val (.ref a3), .val (.int (2 : Int32)), .val (.int (3 : Int32)), .val (.int (2 : Int32)), .val (.int u2)]) X857 hx (hb hby own_d18_13) (q := 15) rfl rfl ?_
  refine own_iload X857 hx (hb hby own_d18_15) (q := 17) rfl rfl ?_
  refine own_sipush X857 hx (v := (255 : Int32)) (hb hby own_d18_17) (q := 20) rfl rfl ?_
  refine own_icmpM X857 hx (hb hby own_d18_20) (cd := .le) (x := u2) (y := (255 : Int32)) (pt := 26) (q := 23) (by decide) (by decide) rfl rfl (fun _ => ?_) (fun h => False.elim ((kn2 : ¬ ((255 : Int32) < u2)) h))
  refine own_aloadN X857 hx (hb hby own_d18_26) (q := 27) rfl rfl rfl ?_
  refine own_iloadN X857 hx (hb hby own_d18_27) (q := 28) rfl rfl ?_
  refine own_iload X857 hx (hb hby own_d18_28) (q := 30) rfl rfl ?_
  refine own_i2b X857 hx (hb hby own_d18_30) (q := 31) rfl ?_
  refine own_bastore X857 hx hZ (i := 2) e858 A861 (by decide) (by decide) (Nat.le_of_ble_eq_true rfl) (hb hby own_d18_31) (q := 32) rfl (fun T865 h868 X866 e867 W869 A870 => ?_)
  rw [own_bb] at A870
  replace A870 : own_A Z h868 a3 .byte [.int u0.toInt8.toInt32, .int u1.toInt8.toInt32, .int u2.toInt8.toInt32] := A870
  have V871 := V862.other W869 ne_a1_a3
  have K872 := K863.wr W869 (Or.inl (List.mem_of_getElem? (i := 0) rfl))
  have N873 := Fr.snoc X866 N864 G_a3
  refine own_iinc (L' := #[.val (.ref a1), .val (.int ((2 : Int32) + (1 : Int32))), .val (.ref a3), .val (.int (2 : Int32)), .val (.int (3 : Int32)), .val (.int (2 : Int32)), .val (.int u2)]) X866 hx (v := (1 : Int32)) (hb hby own_d18_32) (q := 35) rfl rfl rfl rfl ?_
  rw [show ((2 : Int32) + (1 : Int32) : Int32) = (3 : Int32) from by decide]
  refine own_iinc (L' := #[.val (.ref a1), .val (.int (3 : Int32)), .val (.ref a3), .val (.int ((2 : Int32) + (1 : Int32))), .val (.int (3 : Int32)), .val (.int (2 : Int32)), .val (.int u2)]) X866 hx (v := (1 : Int32)) (hb hby own_d18_35) (q := 38) rfl rfl rfl rfl ?_
  rw [show ((2 : Int32) + (1 : Int32) : Int32) = (3 : Int32) from by decide]
  refine own_iinc (L' := #[.val (.ref a1), .val (.int (3 : Int32)), .val (.ref a3), .val (.int (3 : Int32)), .val (.int (3 : Int32)), .val (.int ((2 : Int32) + (1 : Int32))), .val (.int u2)]) X866 hx (v := (1 : Int32)) (hb hby own_d18_38) (q := 41) rfl rfl rfl rfl ?_
  rw [show ((2 : Int32) + (1 : Int32) : Int32) = (3 : Int32) from by decide]
  refine own_goto X866 hx (hb hby own_d18_41) (q := 3) (by decide) (by decide) ?_
  refine own_iload X866 hx (hb hby own_d18_3) (q := 5) rfl rfl ?_
  refine own_iload X866 hx (hb hby own_d18_5) (q := 7) rfl rfl ?_
  refine own_icmpM X866 hx (hb hby own_d18_7) (cd := .ge) (x := (3 : Int32)) (y := (3 : Int32)) (pt := 44) (q := 10) (by decide) (by decide) rfl rfl (fun _ => ?_) (fun h => False.elim (((by decide) : ¬ ((3 : Int32) < (3 : Int32))) h))
  refine own_iload X866 hx (hb hby own_d18_44) (q := 46) rfl rfl ?_
  refine own_retI X866 hx hlk hret (hb hby own_d18_46) ?_ (by decide) (by decide)
  have r : own_f18_33 a1 a3 u0 u1 u2 = (3 : Int32) := by rw [own_f18_33]
  show own_Q18_33 Z a1 a3 u0 u1 u2 h0 n0 _ T865.heap _
  rw [e867]
  exact ⟨(by rw [r] <;> rfl), N873, K872, V871, A870⟩

def own_Q17_33 (Z : State) (a1 : Addr) (cs : Int32) (G : Value) (u0 : Int32) (u1 : Int32) (u2 : Int32) (h0 : Heap) (n0 : Nat) (v : Option Value) (h : Heap) (L : List Loc) : Prop := ∃ ra0 : Addr, v = some (.ref ra0) ∧ Fr n0 L ∧ Keep h0 h [] ∧ h0.size ≤ ra0 ∧ Exa Z h ra0 "[B" ∧ own_A Z h ra0 .byte [.int u0.toInt8.toInt32, .int u1.toInt8.toInt32, .int u2.toInt8.toInt32]
set_option maxRecDepth 65536 in
set_option maxHeartbeats 40000000 in
theorem rm17_33 (l : Launch) (Z : State) (a0 : Array Value) (hw : ∀ d ∈ tables_1, d.before a0 Z = true) (ws : List Jvm.Cond) (a1 : Addr) (cs : Int32) (G : Value) (u0 : Int32) (u1 : Int32) (u2 : Int32) (h0 : Heap) (n0 : Nat) (Z0 : n0 ≤ h0.size) (G0p : own_G Z h0 cs G) (V1p : own_A Z h0 a1 .char [.int u0, .int u1, .int u2])  (kn0 : ¬ ((255 : Int32) < u0)) (kn1 : ¬ ((255 : Int32) < u1)) (kn2 : ¬ ((255 : Int32) < u2)) (kn3 : ¬ (u0 < (0 : Int32))) (kn4 : ¬ ((65535 : Int32) < u0)) (kn5 : ¬ (u1 < (0 : Int32))) (kn6 : ¬ ((65535 : Int32) < u1)) (kn7 : ¬ (u2 < (0 : Int32))) (kn8 : ¬ ((65535 : Int32) < u2)) :
    own_M l (⟨"java/lang/StringUTF16", "compress", "([CII)[B"⟩ : MethodName) jdk_52_method_16_code 6 (some (.array .byte)) ws ({ frames := 1, cells := 1, slots := 3, locals := 18 } : Room) #[.ref a1, .int (0 : Int32), .int (3 : Int32)] Z h0 (own_Q17_33 Z a1 cs G u0 u1 u2 h0 n0) := by
  refine own_prol (C := "java/lang/StringUTF16") rfl own_pn10 (fun m => own_ef17_k0_k3 m ..) ?_
  intro p e s m below meth c s₁ hx hby hml hown hnm hlk hret X0 e0 hZ
  have N0 := Fr.nil n0
  have K0 := Keep.refl h0 []
  refine own_iloadN X0 hx (hb hby own_d17_0) (q := 1) rfl rfl ?_
  refine own_newE X0 hx hZ (aty := .byte) (ty := .byte) (ad := "[B") (k := 3) (cap := 3) rfl rfl (own_h hw 15 rfl) e0 (by decide) (by decide) (by decide) (by decide) (by decide) (by decide) (hb hby own_d17_1) (q := 3) rfl (fun T874 h877 a878 X875 e876 g879 E880 A881 E882 => ?_)
  have O883 : h0.size ≤ a878 := by rw [g879]; exact K0.1
  have L884 := G0p.ext E880
  have V885 := V1p.ext E880
  have K886 := K0.ext E880
  have ne887 : a1 ≠ a878 := by rw [g879]; exact Nat.ne_of_lt V1p.lt
  have Z888 : n0 ≤ a878 := by rw [g879]; exact Z0
  have Z889 : n0 ≤ h877.size := Nat.le_trans Z0 E880.1
  replace A881 : own_A Z h877 a878 .byte [.int (0 : Int32), .int (0 : Int32), .int (0 : Int32)] := A881
  refine own_astoreN (L' := #[.val (.ref a1), .val (.int (0 : Int32)), .val (.int (3 : Int32)), .val (.ref a878), .unset, .unset]) X875 hx (hb hby own_d17_3) (q := 4) rfl rfl rfl ?_
  refine own_aloadN X875 hx (hb hby own_d17_4) (q := 5) rfl rfl rfl ?_
  refine own_iloadN X875 hx (hb hby own_d17_5) (q := 6) rfl rfl ?_
  refine own_aloadN X875 hx (hb hby own_d17_6) (q := 7) rfl rfl rfl ?_
  refine own_iconst X875 hx (v := (0 : Int32)) (hb hby own_d17_7) (q := 8) rfl rfl ?_
  refine own_iloadN X875 hx (hb hby own_d17_8) (q := 9) rfl rfl ?_
  refine own_callS X875 hx hZ hown (own_h hw 106 rfl) (own_h hw 107 rfl) (own_h hw 104 rfl) (own_h hw 108 rfl) (by decide) (rm18_33 l Z a0 hw [] a1 a878 u0 u1 u2 h877 n0 V885 A881 Z888 ne887 kn0 kn1 kn2) own_pd9 rfl e876 (by rw [hml]; rfl) (argsL := [.ref a1, .int (0 : Int32), .ref a878, .int (0 : Int32), .int (3 : Int32)]) (st := []) rfl (W := 0) (Nat.le_of_eq rfl) (by decide) (by decide) (by decide) (by decide) (hb hby own_d17_9) (q := 12) rfl (fun v896 T897 L898 X899 hQ900 => ?_)
  obtain ⟨rfl, N901, K902, A904, A905⟩ := hQ900
  have L906 := L884.keep K902 (allS (own_exaPlain E882) all0)
  have E907 := E882.keep K902
  have Z908 : n0 ≤ T897.heap.size := Nat.le_trans Z889 K902.1
  have K909 := K886.trans K902 (allS (Or.inr O883) all0)
  have N903 := Fr.app N0 N901
  show own_Go _ _ _ _ (T897.setTop (mkF m 12 #[.val (.ref a1), .val (.int (0 : Int32)), .val (.int (3 : Int32)), .val (.ref a878), .unset, .unset] [.int (3 : Int32)]))
  refine own_istore (L' := #[.val (.ref a1), .val (.int (0 : Int32)), .val (.int (3 : Int32)), .val (.ref a878), .val (.int (3 : Int32)), .unset]) X899 hx (hb hby own_d17_12) (q := 14) rfl rfl ?_
  refine own_iload X899 hx (hb hby own_d17_14) (q := 16) rfl rfl ?_
  refine own_iloadN X899 hx (hb hby own_d17_16) (q := 17) rfl rfl ?_
  refine own_icmpP X899 hx (hb hby own_d17_17) (cd := .eq) (x := (3 : Int32)) (y := (3 : Int32)) (pt := 57) (q := 20) (by decide) (by decide) rfl rfl (fun _ => ?_) (fun h => False.elim (h ((by decide) : (3 : Int32) = (3 : Int32))))
  refine own_aloadN X899 hx (hb hby own_d17_57) (q := 58) rfl rfl rfl ?_
  refine own_retA X899 hx hlk rfl rfl rfl hret (hb hby own_d17_58) ?_ (by decide) (by decide)
  show own_Q17_33 Z a1 cs G u0 u1 u2 h0 n0 _ T897.heap _
  exact ⟨a878, rfl, N903, K909, O883, E907, A905⟩
theorem rm17_3H (l : Launch) (Z : State) (a0 : Array Value) (hw : ∀ d ∈ tables_1, d.before a0 Z = true) (ws : List Jvm.Cond) (a1 : Addr) (cs : Int32) (G : Value) (u0 : Int32) (u1 : Int32) (u2 : Int32) (h0 : Heap) (n0 : Nat) (Z0 : n0 ≤ h0.size) (G0p : own_G Z h0 cs G) (V1p : own_A Z h0 a1 .char [.int u0, .int u1, .int u2])  (kn0 : ¬ (u0 < (0 : Int32))) (kn1 : ¬ ((65535 : Int32) < u0)) (kn2 : ¬ (u1 < (0 : Int32))) (kn3 : ¬ ((65535 : Int32) < u1)) (kn4 : ¬ (u2 < (0 : Int32))) (kn5 : ¬ ((65535 : Int32) < u2)) (hH : (255 : Int32) < u0 ∨ (255 : Int32) < u1 ∨ (255 : Int32) < u2) :
    own_M l (⟨"java/lang/StringUTF16", "compress", "([CII)[B"⟩ : MethodName) jdk_52_method_16_code 6 (some (.array .byte)) ws ({ frames := 3, cells := 2, slots := 9, locals := 40 } : Room) #[.ref a1, .int (0 : Int32), .int (3 : Int32)] Z h0 (own_Q17_30 Z a1 cs G u0 u1 u2 h0 n0) := by
  by_cases c0 : (255 : Int32) < u0
  · exact rm17_30 l Z a0 hw ws a1 cs G u0 u1 u2 h0 n0 Z0 G0p V1p  c0 kn0 kn1 kn2 kn3 kn4 kn5
  by_cases c1 : (255 : Int32) < u1
  · exact rm17_31 l Z a0 hw ws a1 cs G u0 u1 u2 h0 n0 Z0 G0p V1p c0 c1 kn0 kn1 kn2 kn3 kn4 kn5
  have c2 : (255 : Int32) < u2 := by simpa [c0, c1] using hH
  exact rm17_32 l Z a0 hw ws a1 cs G u0 u1 u2 h0 n0 Z0 G0p V1p c0 c1 c2 kn0 kn1 kn2 kn3 kn4 kn5
theorem own_pd12 : parseMethodDescriptor "([BI)B" = some ⟨[(.array .byte), .int], some .byte⟩ := by decide +kernel
theorem own_ef2_null_k0_k1 (m : MethodId) (a1 : Addr) (a2 : Addr) : entryFrame m #[.ref a1, .ref a2, .int (0 : Int32), .int (1 : Int32), .null] 6 = mkF m 0 #[.val (.ref a1), .val (.ref a2), .val (.int (0 : Int32)), .val (.int (1 : Int32)), .val .null, .unset] [] := by first | (simp [entryFrame, mkF, argsToLocals, Value.category]; done) | rfl
theorem own_d2_0 : decode jdk_42_method_149_code 0 = .ok (.aload_n 0, 1) := by decide +kernel
theorem own_d2_1 : decode jdk_42_method_149_code 1 = .ok (.invokespecial 1, 3) := by decide +kernel
theorem own_d2_4 : decode jdk_42_method_149_code 4 = .ok (.iload_n 3, 1) := by decide +kernel
theorem own_d2_5 : decode jdk_42_method_149_code 5 = .ok (.ifCond .ne 22, 3) := by decide +kernel
theorem own_d2_27 : decode jdk_42_method_149_code 27 = .ok (.getstatic 38, 3) := by decide +kernel
theorem own_d2_30 : decode jdk_42_method_149_code 30 = .ok (.ifCond .eq 28, 3) := by decide +kernel
theorem own_d2_33 : decode jdk_42_method_149_code 33 = .ok (.aload_n 1, 1) := by decide +kernel
theorem own_d2_34 : decode jdk_42_method_149_code 34 = .ok (.iload_n 2, 1) := by decide +kernel
theorem own_d2_35 : decode jdk_42_method_149_code 35 = .ok (.iload_n 3, 1) := by decide +kernel
theorem own_d2_36 : decode jdk_42_method_149_code 36 = .ok (.invokestatic 177, 3) := by decide +kernel
theorem own_d2_39 : decode jdk_42_method_149_code 39 = .ok (.astore 5, 2) := by decide +kernel
theorem own_d2_41 : decode jdk_42_method_149_code 41 = .ok (.aload_n 0, 1) := by decide +kernel
theorem own_d2_42 : decode jdk_42_method_149_code 42 = .ok (.aload 5, 2) := by decide +kernel
theorem own_d2_44 : decode jdk_42_method_149_code 44 = .ok (.iload_n 3, 1) := by decide +kernel
theorem own_d2_45 : decode jdk_42_method_149_code 45 = .ok (.invokestatic 47, 3) := by decide +kernel
theorem own_d2_48 : decode jdk_42_method_149_code 48 = .ok (.putfield 15, 3) := by decide +kernel
theorem own_d2_51 : decode jdk_42_method_149_code 51 = .ok (.aload_n 0, 1) := by decide +kernel
theorem own_d2_52 : decode jdk_42_method_149_code 52 = .ok (.aload 5, 2) := by decide +kernel
theorem own_d2_54 : decode jdk_42_method_149_code 54 = .ok (.putfield 9, 3) := by decide +kernel
theorem own_d2_57 : decode jdk_42_method_149_code 57 = .ok (.return_, 1) := by decide +kernel
def own_Q2_1L (Z : State) (a1 : Addr) (a2 : Addr) (cs : Int32) (G : Value) (u0 : Int32) (h0 : Heap) (n0 : Nat) (v : Option Value) (h : Heap) (L : List Loc) : Prop := ∃ ra0 : Addr, v = none ∧ Fr n0 L ∧ Keep h0 h [a1] ∧ h0.size ≤ ra0 ∧ Exa Z h ra0 "[B" ∧ own_A Z h ra0 .byte [.int u0.toInt8.toInt32] ∧ Exa Z h a1 "java/lang/String" ∧ Fld Z h a1 "java/lang/String" "value" "[B" (.ref ra0) ∧ Fld Z h a1 "java/lang/String" "coder" "B" (.int (0 : Int32)) ∧ own_A Z h a2 .char [.int u0]
set_option maxRecDepth 65536 in
set_option maxHeartbeats 40000000 in
theorem rm2_1L (l : Launch) (Z : State) (a0 : Array Value) (hw : ∀ d ∈ tables_1, d.before a0 Z = true) (ws : List Jvm.Cond) (a1 : Addr) (a2 : Addr) (cs : Int32) (G : Value) (u0 : Int32) (h0 : Heap) (n0 : Nat) (Z0 : n0 ≤ h0.size) (G0p : own_G Z h0 cs G) (E1p : Exa Z h0 a1 "java/lang/String") (F2p : Fld Z h0 a1 "java/lang/String" "value" "[B" (.null)) (F3p : Fld Z h0 a1 "java/lang/String" "coder" "B" (.int (0 : Int32))) (V4p : own_A Z h0 a2 .char [.int u0]) (G_a1 : n0 ≤ a1) (ne_a2_a1 : a2 ≠ a1)  (kn0 : ¬ ((255 : Int32) < u0)) (kn1 : ¬ (u0 < (0 : Int32))) (kn2 : ¬ ((65535 : Int32) < u0)) :
    own_M l (⟨"java/lang/String", "<init>", "([CIILjava/lang/Void;)V"⟩ : MethodName) jdk_42_method_149_code 6 none ws ({ frames := 2, cells := 1, slots := 1, locals := 35 } : Room) #[.ref a1, .ref a2, .int (0 : Int32), .int (1 : Int32), .null] Z h0 (own_Q2_1L Z a1 a2 cs G u0 h0 n0) := by
  refine own_prol (C := "java/lang/String") rfl own_pn5 (fun m => own_ef2_null_k0_k1 m ..) ?_
  intro p e s m below meth c s₁ hx hby hml hown hnm hlk hret X0 e0 hZ
  have N0 := Fr.nil n0
  have K0 := Keep.refl h0 [a1]
  refine own_aloadN X0 hx (hb hby own_d2_0) (q := 1) rfl rfl rfl ?_
  refine own_initO X0 hx hZ hown (own_h hw 11 rfl) (own_h hw 12 rfl) (own_h hw 13 rfl) e0 (by rw [hml]; rfl) (by decide) (W := 0) (Nat.le_of_eq rfl) (by decide) (hb hby own_d2_1) (q := 4) rfl (fun T910 X911 e912 => ?_)
  refine own_iloadN X911 hx (hb hby own_d2_4) (q := 5) rfl rfl ?_
  refine own_if0M X911 hx (hb hby own_d2_5) (cd := .ne) (x := (1 : Int32)) (pt := 27) (q := 8) (by decide) (by decide) rfl rfl (fun _ => ?_) (fun h => False.elim (((by decide) : ¬ ((1 : Int32) = (0 : Int32))) h))
  refine own_getS X911 hx hZ hown (own_h hw 39 rfl) Via.refl e912 G0p.2.2.1 (hb hby own_d2_27) (q := 30) rfl (fun T913 X914 e915 => ?_)
  refine own_if0P X914 hx (hb hby own_d2_30) (cd := .eq) (x := cs) (pt := 58) (q := 33) (by decide) (by decide) rfl rfl (fun h => False.elim ((G0p.1 : ¬ (cs = (0 : Int32))) h)) (fun _ => ?_)
  refine own_aloadN X914 hx (hb hby own_d2_33) (q := 34) rfl rfl rfl ?_
  refine own_iloadN X914 hx (hb hby own_d2_34) (q := 35) rfl rfl ?_
  refine own_iloadN X914 hx (hb hby own_d2_35) (q := 36) rfl rfl ?_
  refine own_callS X914 hx hZ hown (own_h hw 102 rfl) (own_h hw 103 rfl) (own_h hw 104 rfl) (own_h hw 105 rfl) (by decide) (rm17_11 l Z a0 hw [] a2 cs G u0 h0 n0 Z0 G0p V4p kn0 kn1 kn2) own_pd10 rfl e915 (by rw [hml]; rfl) (argsL := [.ref a2, .int (0 : Int32), .int (1 : Int32)]) (st := []) rfl (W := 0) (Nat.le_of_eq rfl) (by decide) (by decide) (by decide) (by decide) (hb hby own_d2_36) (q := 39) rfl (fun v922 T923 L924 X925 hQ926 => ?_)
  obtain ⟨a930, rfl, N927, K928, O931, E932, A933⟩ := hQ926
  have G934 := G0p.keep K928 all0
  have E935 := E1p.keep K928
  have F936 := F2p.keep K928 nin0
  have F937 := F3p.keep K928 nin0
  have V938 := V4p.keep K928 nin0
  have Z939 : n0 ≤ T923.heap.size := Nat.le_trans Z0 K928.1
  have K940 := K0.trans K928 all0
  have N929 := Fr.app N0 N927
  have ne941 : a1 ≠ a930 := Nat.ne_of_lt (Nat.lt_of_lt_of_le E1p.lt O931)
  have ne942 : a2 ≠ a930 := Nat.ne_of_lt (Nat.lt_of_lt_of_le V4p.lt O931)
  have Z943 : n0 ≤ a930 := Nat.le_trans Z0 O931
  have O944 : h0.size ≤ a930 := Nat.le_trans K0.1 O931
  show own_Go _ _ _ _ (T923.setTop (mkF m 39 #[.val (.ref a1), .val (.ref a2), .val (.int (0 : Int32)), .val (.int (1 : Int32)), .val .null, .unset] [.ref a930]))
  refine own_astore (L' := #[.val (.ref a1), .val (.ref a2), .val (.int (0 : Int32)), .val (.int (1 : Int32)), .val .null, .val (.ref a930)]) X925 hx (hb hby own_d2_39) (q := 41) rfl rfl rfl ?_
  refine own_aloadN X925 hx (hb hby own_d2_41) (q := 42) rfl rfl rfl ?_
  refine own_aload X925 hx (hb hby own_d2_42) (q := 44) rfl rfl rfl ?_
  refine own_iloadN X925 hx (hb hby own_d2_44) (q := 45) rfl rfl ?_
  refine own_callSP X925 hx hZ hown (own_h hw 109 rfl) (own_h hw 110 rfl) (own_h hw 104 rfl) (own_h hw 111 rfl) (by decide) (rm19_1_1 l Z a0 hw [] a930 ([.int u0.toInt8.toInt32]) T923.heap A933 rfl) own_pd12 rfl rfl (by rw [hml]; rfl) (argsL := [.ref a930, .int (1 : Int32)]) (st := [.ref a1]) rfl (W := 1) (Nat.le_of_eq rfl) (by decide) (by decide) (by decide) (by decide) (hb hby own_d2_45) (q := 48) rfl (fun T945 X946 e947 => ?_)
  rw [show (own_f19_1_1  : Int32) = (0 : Int32) from rfl]
  refine own_putF X946 hx hZ hown (host := "") (Or.inl (own_h hw 21 rfl)) Via.refl e947 F937 E935 (Or.inr ⟨(own_h hw 17 rfl), rfl, hnm⟩) (own_h hw 2 rfl) (ty := .byte) (by decide) rfl rfl (hb hby own_d2_48) (q := 51) rfl (fun T948 h951 X949 e950 W952 => ?_)
  have G953 := G934.wr W952
  have E954 := Exa.wr W952 E935
  have F955 := Fld.other W952 F936 (Or.inr (slot_ne (C := "java/lang/String") (Or.inr (own_h hw 16 rfl)) (Or.inr (own_h hw 17 rfl)) (by decide) (t := (.array .byte)) (t' := .byte) (by decide) (by decide)))
  have F956 := Fld.same W952 F937
  have V957 := V938.other W952 ne_a2_a1
  have E958 := Exa.wr W952 E932
  have A959 := A933.other W952 (Ne.symm ne941)
  have K960 := K940.wr W952 (Or.inl (List.mem_of_getElem? (i := 0) rfl))
  have Z961 : n0 ≤ h951.size := W952.size ▸ Z939
  have N962 := Fr.snoc X949 N929 G_a1
  refine own_aloadN X949 hx (hb hby own_d2_51) (q := 52) rfl rfl rfl ?_
  refine own_aload X949 hx (hb hby own_d2_52) (q := 54) rfl rfl rfl ?_
  refine own_putF X949 hx hZ hown (host := "") (Or.inl (own_h hw 20 rfl)) Via.refl e950 F955 E954 (Or.inr ⟨(own_h hw 16 rfl), rfl, hnm⟩) (own_h hw 2 rfl) (ty := (.array .byte)) (by decide) rfl rfl (hb hby own_d2_54) (q := 57) rfl (fun T963 h966 X964 e965 W967 => ?_)
  have G968 := G953.wr W967
  have E969 := Exa.wr W967 E954
  have F970 := Fld.same W967 F955
  have F971 := Fld.other W967 F956 (Or.inr (slot_ne (C := "java/lang/String") (Or.inr (own_h hw 17 rfl)) (Or.inr (own_h hw 16 rfl)) (by decide) (t := .byte) (t' := (.array .byte)) (by decide) (by decide)))
  have V972 := V957.other W967 ne_a2_a1
  have E973 := Exa.wr W967 E958
  have A974 := A959.other W967 (Ne.symm ne941)
  have K975 := K960.wr W967 (Or.inl (List.mem_of_getElem? (i := 0) rfl))
  have Z976 : n0 ≤ h966.size := W967.size ▸ Z961
  have N977 := Fr.snoc X964 N962 G_a1
  refine own_retV X964 hx hlk (rest := []) hret (hb hby own_d2_57) ?_ (by decide) (by decide)
  show own_Q2_1L Z a1 a2 cs G u0 h0 n0 _ T963.heap _
  rw [e965]
  exact ⟨a930, rfl, N977, K975, O944, E973, A974, E969, F970, F971, V972⟩
theorem own_pd13 : parseMethodDescriptor "([CIILjava/lang/Void;)V" = some ⟨[(.array .char), .int, .int, (.object "java/lang/Void")], none⟩ := by decide +kernel
theorem own_ef1 (m : MethodId) (a1 : Addr) (a2 : Addr) : entryFrame m #[.ref a1, .ref a2] 2 = mkF m 0 #[.val (.ref a1), .val (.ref a2)] [] := by first | (simp [entryFrame, mkF, argsToLocals, Value.category]; done) | rfl
theorem own_d1_0 : decode jdk_42_method_3_code 0 = .ok (.aload_n 0, 1) := by decide +kernel
theorem own_d1_1 : decode jdk_42_method_3_code 1 = .ok (.aload_n 1, 1) := by decide +kernel
theorem own_d1_2 : decode jdk_42_method_3_code 2 = .ok (.iconst 0, 1) := by decide +kernel
theorem own_d1_3 : decode jdk_42_method_3_code 3 = .ok (.aload_n 1, 1) := by decide +kernel
theorem own_d1_4 : decode jdk_42_method_3_code 4 = .ok (.arraylength, 1) := by decide +kernel
theorem own_d1_5 : decode jdk_42_method_3_code 5 = .ok (.aconst_null, 1) := by decide +kernel
theorem own_d1_6 : decode jdk_42_method_3_code 6 = .ok (.invokespecial 27, 3) := by decide +kernel
theorem own_d1_9 : decode jdk_42_method_3_code 9 = .ok (.return_, 1) := by decide +kernel
def own_Q1_1L (Z : State) (a1 : Addr) (a2 : Addr) (cs : Int32) (G : Value) (u0 : Int32) (h0 : Heap) (n0 : Nat) (v : Option Value) (h : Heap) (L : List Loc) : Prop := ∃ ra0 : Addr, v = none ∧ Fr n0 L ∧ Keep h0 h [a1] ∧ h0.size ≤ ra0 ∧ Exa Z h ra0 "[B" ∧ own_A Z h ra0 .byte [.int u0.toInt8.toInt32] ∧ Exa Z h a1 "java/lang/String" ∧ Fld Z h a1 "java/lang/String" "value" "[B" (.ref ra0) ∧ Fld Z h a1 "java/lang/String" "coder" "B" (.int (0 : Int32)) ∧ own_A Z h a2 .char [.int u0]
set_option maxRecDepth 65536 in
set_option maxHeartbeats 40000000 in
theorem rm1_1L (l : Launch) (Z : State) (a0 : Array Value) (hw : ∀ d ∈ tables_1, d.before a0 Z = true) (ws : List Jvm.Cond) (a1 : Addr) (a2 : Addr) (cs : Int32) (G : Value) (u0 : Int32) (h0 : Heap) (n0 : Nat) (Z0 : n0 ≤ h0.size) (G0p : own_G Z h0 cs G) (E1p : Exa Z h0 a1 "java/lang/String") (F2p : Fld Z h0 a1 "java/lang/String" "value" "[B" (.null)) (F3p : Fld Z h0 a1 "java/lang/String" "coder" "B" (.int (0 : Int32))) (V4p : own_A Z h0 a2 .char [.int u0]) (G_a1 : n0 ≤ a1) (ne_a2_a1 : a2 ≠ a1)  (kn0 : ¬ ((255 : Int32) < u0)) (kn1 : ¬ (u0 < (0 : Int32))) (kn2 : ¬ ((65535 : Int32) < u0)) :
    own_M l (⟨"java/lang/String", "<init>", "([C)V"⟩ : MethodName) jdk_42_method_3_code 2 none ws ({ frames := 3, cells := 1, slots := 1, locals := 52 } : Room) #[.ref a1, .ref a2] Z h0 (own_Q1_1L Z a1 a2 cs G u0 h0 n0) := by
  refine own_prol (C := "java/lang/String") rfl own_pn5 (fun m => own_ef1 m ..) ?_
  intro p e s m below meth c s₁ hx hby hml hown hnm hlk hret X0 e0 hZ
  have N0 := Fr.nil n0
  have K0 := Keep.refl h0 [a1]
  refine own_aloadN X0 hx (hb hby own_d1_0) (q := 1) rfl rfl rfl ?_
  refine own_aloadN X0 hx (hb hby own_d1_1) (q := 2) rfl rfl rfl ?_
  refine own_iconst X0 hx (v := (0 : Int32)) (hb hby own_d1_2) (q := 3) rfl rfl ?_
  refine own_aloadN X0 hx (hb hby own_d1_3) (q := 4) rfl rfl rfl ?_
  refine own_alen X0 hx hZ (n := (1 : Int32)) e0 V4p rfl (hb hby own_d1_4) (q := 5) rfl ?_
  refine own_aconstNull X0 hx (hb hby own_d1_5) (q := 6) rfl ?_
  refine own_callC X0 hx hZ hown rfl (own_h hw 7 rfl) (own_h hw 8 rfl) (own_h hw 3 rfl) (own_h hw 10 rfl) (by decide) (rm2_1L l Z a0 hw [] a1 a2 cs G u0 h0 n0 Z0 G0p E1p F2p F3p V4p G_a1 ne_a2_a1 kn0 kn1 kn2) own_pd13 rfl e0 (by rw [hml]; rfl) (argsL := [.ref a2, .int (0 : Int32), .int (1 : Int32), .null]) (st := []) rfl (W := 0) (Nat.le_of_eq rfl) (by decide) (by decide) (by decide) (by decide) (hb hby own_d1_6) (q := 9) rfl (fun v981 T982 L983 X984 hQ985 => ?_)
  obtain ⟨a989, rfl, N986, K987, O990, E991, A992, E993, F994, F995, A996⟩ := hQ985
  have G997 := G0p.keep K987 (allS (own_exaPlain E1p) all0)
  have Z998 : n0 ≤ T982.heap.size := Nat.le_trans Z0 K987.1
  have K999 := K0.trans K987 (allS (Or.inl (List.mem_of_getElem? (i := 0) rfl)) all0)
  have N988 := Fr.app N0 N986
  have ne1000 : a1 ≠ a989 := Nat.ne_of_lt (Nat.lt_of_lt_of_le E1p.lt O990)
  have ne1001 : a2 ≠ a989 := Nat.ne_of_lt (Nat.lt_of_lt_of_le V4p.lt O990)
  have Z1002 : n0 ≤ a989 := Nat.le_trans Z0 O990
  have O1003 : h0.size ≤ a989 := Nat.le_trans K0.1 O990
  show own_Go _ _ _ _ (T982.setTop (mkF m 9 #[.val (.ref a1), .val (.ref a2)] []))
  refine own_retV X984 hx hlk (rest := []) hret (hb hby own_d1_9) ?_ (by decide) (by decide)
  show own_Q1_1L Z a1 a2 cs G u0 h0 n0 _ T982.heap _
  exact ⟨a989, rfl, N988, K999, O1003, E991, A992, E993, F994, F995, A996⟩

def own_Q2_1H (Z : State) (a1 : Addr) (a2 : Addr) (cs : Int32) (G : Value) (u0 : Int32) (h0 : Heap) (n0 : Nat) (v : Option Value) (h : Heap) (L : List Loc) : Prop := ∃ ra0 : Addr, v = none ∧ Fr n0 L ∧ Keep h0 h [a1] ∧ h0.size ≤ ra0 ∧ Exa Z h ra0 "[B" ∧ own_A Z h ra0 .byte [.int ((u0 >>> ((0 : Int32) &&& 31)).toInt8.toInt32), .int ((u0 >>> ((8 : Int32) &&& 31)).toInt8.toInt32)] ∧ Exa Z h a1 "java/lang/String" ∧ Fld Z h a1 "java/lang/String" "value" "[B" (.ref ra0) ∧ Fld Z h a1 "java/lang/String" "coder" "B" (.int (1 : Int32)) ∧ own_A Z h a2 .char [.int u0]
set_option maxRecDepth 65536 in
set_option maxHeartbeats 40000000 in
theorem rm2_1H (l : Launch) (Z : State) (a0 : Array Value) (hw : ∀ d ∈ tables_1, d.before a0 Z = true) (ws : List Jvm.Cond) (a1 : Addr) (a2 : Addr) (cs : Int32) (G : Value) (u0 : Int32) (h0 : Heap) (n0 : Nat) (Z0 : n0 ≤ h0.size) (G0p : own_G Z h0 cs G) (E1p : Exa Z h0 a1 "java/lang/String") (F2p : Fld Z h0 a1 "java/lang/String" "value" "[B" (.null)) (F3p : Fld Z h0 a1 "java/lang/String" "coder" "B" (.int (0 : Int32))) (V4p : own_A Z h0 a2 .char [.int u0]) (G_a1 : n0 ≤ a1) (ne_a2_a1 : a2 ≠ a1)  (kn0 : ¬ (u0 < (0 : Int32))) (kn1 : ¬ ((65535 : Int32) < u0)) (hH : (255 : Int32) < u0) :
    own_M l (⟨"java/lang/String", "<init>", "([CIILjava/lang/Void;)V"⟩ : MethodName) jdk_42_method_149_code 6 none ws ({ frames := 4, cells := 2, slots := 7, locals := 57 } : Room) #[.ref a1, .ref a2, .int (0 : Int32), .int (1 : Int32), .null] Z h0 (own_Q2_1H Z a1 a2 cs G u0 h0 n0) := by
  refine own_prol (C := "java/lang/String") rfl own_pn5 (fun m => own_ef2_null_k0_k1 m ..) ?_
  intro p e s m below meth c s₁ hx hby hml hown hnm hlk hret X0 e0 hZ
  have N0 := Fr.nil n0
  have K0 := Keep.refl h0 [a1]
  refine own_aloadN X0 hx (hb hby own_d2_0) (q := 1) rfl rfl rfl ?_
  refine own_initO X0 hx hZ hown (own_h hw 11 rfl) (own_h hw 12 rfl) (own_h hw 13 rfl) e0 (by rw [hml]; rfl) (by decide) (W := 0) (Nat.le_of_eq rfl) (by decide) (hb hby own_d2_1) (q := 4) rfl (fun T1004 X1005 e1006 => ?_)
  refine own_iloadN X1005 hx (hb hby own_d2_4) (q := 5) rfl rfl ?_
  refine own_if0M X1005 hx (hb hby own_d2_5) (cd := .ne) (x := (1 : Int32)) (pt := 27) (q := 8) (by decide) (by decide) rfl rfl (fun _ => ?_) (fun h => False.elim (((by decide) : ¬ ((1 : Int32) = (0 : Int32))) h))
  refine own_getS X1005 hx hZ hown (own_h hw 39 rfl) Via.refl e1006 G0p.2.2.1 (hb hby own_d2_27) (q := 30) rfl (fun T1007 X1008 e1009 => ?_)
  refine own_if0P X1008 hx (hb hby own_d2_30) (cd := .eq) (x := cs) (pt := 58) (q := 33) (by decide) (by decide) rfl rfl (fun h => False.elim ((G0p.1 : ¬ (cs = (0 : Int32))) h)) (fun _ => ?_)
  refine own_aloadN X1008 hx (hb hby own_d2_33) (q := 34) rfl rfl rfl ?_
  refine own_iloadN X1008 hx (hb hby own_d2_34) (q := 35) rfl rfl ?_
  refine own_iloadN X1008 hx (hb hby own_d2_35) (q := 36) rfl rfl ?_
  refine own_callS X1008 hx hZ hown (own_h hw 102 rfl) (own_h hw 103 rfl) (own_h hw 104 rfl) (own_h hw 105 rfl) (by decide) (rm17_1H l Z a0 hw [] a2 cs G u0 h0 n0 Z0 G0p V4p kn0 kn1 hH) own_pd10 rfl e1009 (by rw [hml]; rfl) (argsL := [.ref a2, .int (0 : Int32), .int (1 : Int32)]) (st := []) rfl (W := 0) (Nat.le_of_eq rfl) (by decide) (by decide) (by decide) (by decide) (hb hby own_d2_36) (q := 39) rfl (fun v1016 T1017 L1018 X1019 hQ1020 => ?_)
  obtain ⟨a1024, rfl, N1021, K1022, O1025, E1026, A1027⟩ := hQ1020
  have G1028 := G0p.keep K1022 all0
  have E1029 := E1p.keep K1022
  have F1030 := F2p.keep K1022 nin0
  have F1031 := F3p.keep K1022 nin0
  have V1032 := V4p.keep K1022 nin0
  have Z1033 : n0 ≤ T1017.heap.size := Nat.le_trans Z0 K1022.1
  have K1034 := K0.trans K1022 all0
  have N1023 := Fr.app N0 N1021
  have ne1035 : a1 ≠ a1024 := Nat.ne_of_lt (Nat.lt_of_lt_of_le E1p.lt O1025)
  have ne1036 : a2 ≠ a1024 := Nat.ne_of_lt (Nat.lt_of_lt_of_le V4p.lt O1025)
  have Z1037 : n0 ≤ a1024 := Nat.le_trans Z0 O1025
  have O1038 : h0.size ≤ a1024 := Nat.le_trans K0.1 O1025
  show own_Go _ _ _ _ (T1017.setTop (mkF m 39 #[.val (.ref a1), .val (.ref a2), .val (.int (0 : Int32)), .val (.int (1 : Int32)), .val .null, .unset] [.ref a1024]))
  refine own_astore (L' := #[.val (.ref a1), .val (.ref a2), .val (.int (0 : Int32)), .val (.int (1 : Int32)), .val .null, .val (.ref a1024)]) X1019 hx (hb hby own_d2_39) (q := 41) rfl rfl rfl ?_
  refine own_aloadN X1019 hx (hb hby own_d2_41) (q := 42) rfl rfl rfl ?_
  refine own_aload X1019 hx (hb hby own_d2_42) (q := 44) rfl rfl rfl ?_
  refine own_iloadN X1019 hx (hb hby own_d2_44) (q := 45) rfl rfl ?_
  refine own_callSP X1019 hx hZ hown (own_h hw 109 rfl) (own_h hw 110 rfl) (own_h hw 104 rfl) (own_h hw 111 rfl) (by decide) (rm19_2_1 l Z a0 hw [] a1024 ([.int ((u0 >>> ((0 : Int32) &&& 31)).toInt8.toInt32), .int ((u0 >>> ((8 : Int32) &&& 31)).toInt8.toInt32)]) T1017.heap A1027 rfl) own_pd12 rfl rfl (by rw [hml]; rfl) (argsL := [.ref a1024, .int (1 : Int32)]) (st := [.ref a1]) rfl (W := 1) (Nat.le_of_eq rfl) (by decide) (by decide) (by decide) (by decide) (hb hby own_d2_45) (q := 48) rfl (fun T1039 X1040 e1041 => ?_)
  rw [show (own_f19_2_1  : Int32) = (1 : Int32) from rfl]
  refine own_putF X1040 hx hZ hown (host := "") (Or.inl (own_h hw 21 rfl)) Via.refl e1041 F1031 E1029 (Or.inr ⟨(own_h hw 17 rfl), rfl, hnm⟩) (own_h hw 2 rfl) (ty := .byte) (by decide) rfl rfl (hb hby own_d2_48) (q := 51) rfl (fun T1042 h1045 X1043 e1044 W1046 => ?_)
  have G1047 := G1028.wr W1046
  have E1048 := Exa.wr W1046 E1029
  have F1049 := Fld.other W1046 F1030 (Or.inr (slot_ne (C := "java/lang/String") (Or.inr (own_h hw 16 rfl)) (Or.inr (own_h hw 17 rfl)) (by decide) (t := (.array .byte)) (t' := .byte) (by decide) (by decide)))
  have F1050 := Fld.same W1046 F1031
  have V1051 := V1032.other W1046 ne_a2_a1
  have E1052 := Exa.wr W1046 E1026
  have A1053 := A1027.other W1046 (Ne.symm ne1035)
  have K1054 := K1034.wr W1046 (Or.inl (List.mem_of_getElem? (i := 0) rfl))
  have Z1055 : n0 ≤ h1045.size := W1046.size ▸ Z1033
  have N1056 := Fr.snoc X1043 N1023 G_a1
  refine own_aloadN X1043 hx (hb hby own_d2_51) (q := 52) rfl rfl rfl ?_
  refine own_aload X1043 hx (hb hby own_d2_52) (q := 54) rfl rfl rfl ?_
  refine own_putF X1043 hx hZ hown (host := "") (Or.inl (own_h hw 20 rfl)) Via.refl e1044 F1049 E1048 (Or.inr ⟨(own_h hw 16 rfl), rfl, hnm⟩) (own_h hw 2 rfl) (ty := (.array .byte)) (by decide) rfl rfl (hb hby own_d2_54) (q := 57) rfl (fun T1057 h1060 X1058 e1059 W1061 => ?_)
  have G1062 := G1047.wr W1061
  have E1063 := Exa.wr W1061 E1048
  have F1064 := Fld.same W1061 F1049
  have F1065 := Fld.other W1061 F1050 (Or.inr (slot_ne (C := "java/lang/String") (Or.inr (own_h hw 17 rfl)) (Or.inr (own_h hw 16 rfl)) (by decide) (t := .byte) (t' := (.array .byte)) (by decide) (by decide)))
  have V1066 := V1051.other W1061 ne_a2_a1
  have E1067 := Exa.wr W1061 E1052
  have A1068 := A1053.other W1061 (Ne.symm ne1035)
  have K1069 := K1054.wr W1061 (Or.inl (List.mem_of_getElem? (i := 0) rfl))
  have Z1070 : n0 ≤ h1060.size := W1061.size ▸ Z1055
  have N1071 := Fr.snoc X1058 N1056 G_a1
  refine own_retV X1058 hx hlk (rest := []) hret (hb hby own_d2_57) ?_ (by decide) (by decide)
  show own_Q2_1H Z a1 a2 cs G u0 h0 n0 _ T1057.heap _
  rw [e1059]
  exact ⟨a1024, rfl, N1071, K1069, O1038, E1067, A1068, E1063, F1064, F1065, V1066⟩

def own_Q1_1H (Z : State) (a1 : Addr) (a2 : Addr) (cs : Int32) (G : Value) (u0 : Int32) (h0 : Heap) (n0 : Nat) (v : Option Value) (h : Heap) (L : List Loc) : Prop := ∃ ra0 : Addr, v = none ∧ Fr n0 L ∧ Keep h0 h [a1] ∧ h0.size ≤ ra0 ∧ Exa Z h ra0 "[B" ∧ own_A Z h ra0 .byte [.int ((u0 >>> ((0 : Int32) &&& 31)).toInt8.toInt32), .int ((u0 >>> ((8 : Int32) &&& 31)).toInt8.toInt32)] ∧ Exa Z h a1 "java/lang/String" ∧ Fld Z h a1 "java/lang/String" "value" "[B" (.ref ra0) ∧ Fld Z h a1 "java/lang/String" "coder" "B" (.int (1 : Int32)) ∧ own_A Z h a2 .char [.int u0]
set_option maxRecDepth 65536 in
set_option maxHeartbeats 40000000 in
theorem rm1_1H (l : Launch) (Z : State) (a0 : Array Value) (hw : ∀ d ∈ tables_1, d.before a0 Z = true) (ws : List Jvm.Cond) (a1 : Addr) (a2 : Addr) (cs : Int32) (G : Value) (u0 : Int32) (h0 : Heap) (n0 : Nat) (Z0 : n0 ≤ h0.size) (G0p : own_G Z h0 cs G) (E1p : Exa Z h0 a1 "java/lang/String") (F2p : Fld Z h0 a1 "java/lang/String" "value" "[B" (.null)) (F3p : Fld Z h0 a1 "java/lang/String" "coder" "B" (.int (0 : Int32))) (V4p : own_A Z h0 a2 .char [.int u0]) (G_a1 : n0 ≤ a1) (ne_a2_a1 : a2 ≠ a1)  (kn0 : ¬ (u0 < (0 : Int32))) (kn1 : ¬ ((65535 : Int32) < u0)) (hH : (255 : Int32) < u0) :
    own_M l (⟨"java/lang/String", "<init>", "([C)V"⟩ : MethodName) jdk_42_method_3_code 2 none ws ({ frames := 5, cells := 2, slots := 7, locals := 74 } : Room) #[.ref a1, .ref a2] Z h0 (own_Q1_1H Z a1 a2 cs G u0 h0 n0) := by
  refine own_prol (C := "java/lang/String") rfl own_pn5 (fun m => own_ef1 m ..) ?_
  intro p e s m below meth c s₁ hx hby hml hown hnm hlk hret X0 e0 hZ
  have N0 := Fr.nil n0
  have K0 := Keep.refl h0 [a1]
  refine own_aloadN X0 hx (hb hby own_d1_0) (q := 1) rfl rfl rfl ?_
  refine own_aloadN X0 hx (hb hby own_d1_1) (q := 2) rfl rfl rfl ?_
  refine own_iconst X0 hx (v := (0 : Int32)) (hb hby own_d1_2) (q := 3) rfl rfl ?_
  refine own_aloadN X0 hx (hb hby own_d1_3) (q := 4) rfl rfl rfl ?_
  refine own_alen X0 hx hZ (n := (1 : Int32)) e0 V4p rfl (hb hby own_d1_4) (q := 5) rfl ?_
  refine own_aconstNull X0 hx (hb hby own_d1_5) (q := 6) rfl ?_
  refine own_callC X0 hx hZ hown rfl (own_h hw 7 rfl) (own_h hw 8 rfl) (own_h hw 3 rfl) (own_h hw 10 rfl) (by decide) (rm2_1H l Z a0 hw [] a1 a2 cs G u0 h0 n0 Z0 G0p E1p F2p F3p V4p G_a1 ne_a2_a1 kn0 kn1 hH) own_pd13 rfl e0 (by rw [hml]; rfl) (argsL := [.ref a2, .int (0 : Int32), .int (1 : Int32), .null]) (st := []) rfl (W := 0) (Nat.le_of_eq rfl) (by decide) (by decide) (by decide) (by decide) (hb hby own_d1_6) (q := 9) rfl (fun v1075 T1076 L1077 X1078 hQ1079 => ?_)
  obtain ⟨a1083, rfl, N1080, K1081, O1084, E1085, A1086, E1087, F1088, F1089, A1090⟩ := hQ1079
  have G1091 := G0p.keep K1081 (allS (own_exaPlain E1p) all0)
  have Z1092 : n0 ≤ T1076.heap.size := Nat.le_trans Z0 K1081.1
  have K1093 := K0.trans K1081 (allS (Or.inl (List.mem_of_getElem? (i := 0) rfl)) all0)
  have N1082 := Fr.app N0 N1080
  have ne1094 : a1 ≠ a1083 := Nat.ne_of_lt (Nat.lt_of_lt_of_le E1p.lt O1084)
  have ne1095 : a2 ≠ a1083 := Nat.ne_of_lt (Nat.lt_of_lt_of_le V4p.lt O1084)
  have Z1096 : n0 ≤ a1083 := Nat.le_trans Z0 O1084
  have O1097 : h0.size ≤ a1083 := Nat.le_trans K0.1 O1084
  show own_Go _ _ _ _ (T1076.setTop (mkF m 9 #[.val (.ref a1), .val (.ref a2)] []))
  refine own_retV X1078 hx hlk (rest := []) hret (hb hby own_d1_9) ?_ (by decide) (by decide)
  show own_Q1_1H Z a1 a2 cs G u0 h0 n0 _ T1076.heap _
  exact ⟨a1083, rfl, N1082, K1093, O1097, E1085, A1086, E1087, F1088, F1089, A1090⟩
theorem own_ef2_null_k0_k2 (m : MethodId) (a1 : Addr) (a2 : Addr) : entryFrame m #[.ref a1, .ref a2, .int (0 : Int32), .int (2 : Int32), .null] 6 = mkF m 0 #[.val (.ref a1), .val (.ref a2), .val (.int (0 : Int32)), .val (.int (2 : Int32)), .val .null, .unset] [] := by first | (simp [entryFrame, mkF, argsToLocals, Value.category]; done) | rfl

def own_Q2_2L (Z : State) (a1 : Addr) (a2 : Addr) (cs : Int32) (G : Value) (u0 : Int32) (u1 : Int32) (h0 : Heap) (n0 : Nat) (v : Option Value) (h : Heap) (L : List Loc) : Prop := ∃ ra0 : Addr, v = none ∧ Fr n0 L ∧ Keep h0 h [a1] ∧ h0.size ≤ ra0 ∧ Exa Z h ra0 "[B" ∧ own_A Z h ra0 .byte [.int u0.toInt8.toInt32, .int u1.toInt8.toInt32] ∧ Exa Z h a1 "java/lang/String" ∧ Fld Z h a1 "java/lang/String" "value" "[B" (.ref ra0) ∧ Fld Z h a1 "java/lang/String" "coder" "B" (.int (0 : Int32)) ∧ own_A Z h a2 .char [.int u0, .int u1]
set_option maxRecDepth 65536 in
set_option maxHeartbeats 40000000 in
theorem rm2_2L (l : Launch) (Z : State) (a0 : Array Value) (hw : ∀ d ∈ tables_1, d.before a0 Z = true) (ws : List Jvm.Cond) (a1 : Addr) (a2 : Addr) (cs : Int32) (G : Value) (u0 : Int32) (u1 : Int32) (h0 : Heap) (n0 : Nat) (Z0 : n0 ≤ h0.size) (G0p : own_G Z h0 cs G) (E1p : Exa Z h0 a1 "java/lang/String") (F2p : Fld Z h0 a1 "java/lang/String" "value" "[B" (.null)) (F3p : Fld Z h0 a1 "java/lang/String" "coder" "B" (.int (0 : Int32))) (V4p : own_A Z h0 a2 .char [.int u0, .int u1]) (G_a1 : n0 ≤ a1) (ne_a2_a1 : a2 ≠ a1)  (kn0 : ¬ ((255 : Int32) < u0)) (kn1 : ¬ ((255 : Int32) < u1)) (kn2 : ¬ (u0 < (0 : Int32))) (kn3 : ¬ ((65535 : Int32) < u0)) (kn4 : ¬ (u1 < (0 : Int32))) (kn5 : ¬ ((65535 : Int32) < u1)) :
    own_M l (⟨"java/lang/String", "<init>", "([CIILjava/lang/Void;)V"⟩ : MethodName) jdk_42_method_149_code 6 none ws ({ frames := 2, cells := 1, slots := 2, locals := 35 } : Room) #[.ref a1, .ref a2, .int (0 : Int32), .int (2 : Int32), .null] Z h0 (own_Q2_2L Z a1 a2 cs G u0 u1 h0 n0) := by
  refine own_prol (C := "java/lang/String") rfl own_pn5 (fun m => own_ef2_null_k0_k2 m ..) ?_
  intro p e s m below meth c s₁ hx hby hml hown hnm hlk hret X0 e0 hZ
  have N0 := Fr.nil n0
  have K0 := Keep.refl h0 [a1]
  refine own_aloadN X0 hx (hb hby own_d2_0) (q := 1) rfl rfl rfl ?_
  refine own_initO X0 hx hZ hown (own_h hw 11 rfl) (own_h hw 12 rfl) (own_h hw 13 rfl) e0 (by rw [hml]; rfl) (by decide) (W := 0) (Nat.le_of_eq rfl) (by decide) (hb hby own_d2_1) (q := 4) rfl (fun T1098 X1099 e1100 => ?_)
  refine own_iloadN X1099 hx (hb hby own_d2_4) (q := 5) rfl rfl ?_
  refine own_if0M X1099 hx (hb hby own_d2_5) (cd := .ne) (x := (2 : Int32)) (pt := 27) (q := 8) (by decide) (by decide) rfl rfl (fun _ => ?_) (fun h => False.elim (((by decide) : ¬ ((2 : Int32) = (0 : Int32))) h))
  refine own_getS X1099 hx hZ hown (own_h hw 39 rfl) Via.refl e1100 G0p.2.2.1 (hb hby own_d2_27) (q := 30) rfl (fun T1101 X1102 e1103 => ?_)
  refine own_if0P X1102 hx (hb hby own_d2_30) (cd := .eq) (x := cs) (pt := 58) (q := 33) (by decide) (by decide) rfl rfl (fun h => False.elim ((G0p.1 : ¬ (cs = (0 : Int32))) h)) (fun _ => ?_)
  refine own_aloadN X1102 hx (hb hby own_d2_33) (q := 34) rfl rfl rfl ?_
  refine own_iloadN X1102 hx (hb hby own_d2_34) (q := 35) rfl rfl ?_
  refine own_iloadN X1102 hx (hb hby own_d2_35) (q := 36) rfl rfl ?_
  refine own_callS X1102 hx hZ hown (own_h hw 102 rfl) (own_h hw 103 rfl) (own_h hw 104 rfl) (own_h hw 105 rfl) (by decide) (rm17_22 l Z a0 hw [] a2 cs G u0 u1 h0 n0 Z0 G0p V4p kn0 kn1 kn2 kn3 kn4 kn5) own_pd10 rfl e1103 (by rw [hml]; rfl) (argsL := [.ref a2, .int (0 : Int32), .int (2 : Int32)]) (st := []) rfl (W := 0) (Nat.le_of_eq rfl) (by decide) (by decide) (by decide) (by decide) (hb hby own_d2_36) (q := 39) rfl (fun v1110 T1111 L1112 X1113 hQ1114 => ?_)
  obtain ⟨a1118, rfl, N1115, K1116, O1119, E1120, A1121⟩ := hQ1114
  have G1122 := G0p.keep K1116 all0
  have E1123 := E1p.keep K1116
  have F1124 := F2p.keep K1116 nin0
  have F1125 := F3p.keep K1116 nin0
  have V1126 := V4p.keep K1116 nin0
  have Z1127 : n0 ≤ T1111.heap.size := Nat.le_trans Z0 K1116.1
  have K1128 := K0.trans K1116 all0
  have N1117 := Fr.app N0 N1115
  have ne1129 : a1 ≠ a1118 := Nat.ne_of_lt (Nat.lt_of_lt_of_le E1p.lt O1119)
  have ne1130 : a2 ≠ a1118 := Nat.ne_of_lt (Nat.lt_of_lt_of_le V4p.lt O1119)
  have Z1131 : n0 ≤ a1118 := Nat.le_trans Z0 O1119
  have O1132 : h0.size ≤ a1118 := Nat.le_trans K0.1 O1119
  show own_Go _ _ _ _ (T1111.setTop (mkF m 39 #[.val (.ref a1), .val (.ref a2), .val (.int (0 : Int32)), .val (.int (2 : Int32)), .val .null, .unset] [.ref a1118]))
  refine own_astore (L' := #[.val (.ref a1), .val (.ref a2), .val (.int (0 : Int32)), .val (.int (2 : Int32)), .val .null, .val (.ref a1118)]) X1113 hx (hb hby own_d2_39) (q := 41) rfl rfl rfl ?_
  refine own_aloadN X1113 hx (hb hby own_d2_41) (q := 42) rfl rfl rfl ?_
  refine own_aload X1113 hx (hb hby own_d2_42) (q := 44) rfl rfl rfl ?_
  refine own_iloadN X1113 hx (hb hby own_d2_44) (q := 45) rfl rfl ?_
  refine own_callSP X1113 hx hZ hown (own_h hw 109 rfl) (own_h hw 110 rfl) (own_h hw 104 rfl) (own_h hw 111 rfl) (by decide) (rm19_2_2 l Z a0 hw [] a1118 ([.int u0.toInt8.toInt32, .int u1.toInt8.toInt32]) T1111.heap A1121 rfl) own_pd12 rfl rfl (by rw [hml]; rfl) (argsL := [.ref a1118, .int (2 : Int32)]) (st := [.ref a1]) rfl (W := 1) (Nat.le_of_eq rfl) (by decide) (by decide) (by decide) (by decide) (hb hby own_d2_45) (q := 48) rfl (fun T1133 X1134 e1135 => ?_)
  rw [show (own_f19_2_2  : Int32) = (0 : Int32) from rfl]
  refine own_putF X1134 hx hZ hown (host := "") (Or.inl (own_h hw 21 rfl)) Via.refl e1135 F1125 E1123 (Or.inr ⟨(own_h hw 17 rfl), rfl, hnm⟩) (own_h hw 2 rfl) (ty := .byte) (by decide) rfl rfl (hb hby own_d2_48) (q := 51) rfl (fun T1136 h1139 X1137 e1138 W1140 => ?_)
  have G1141 := G1122.wr W1140
  have E1142 := Exa.wr W1140 E1123
  have F1143 := Fld.other W1140 F1124 (Or.inr (slot_ne (C := "java/lang/String") (Or.inr (own_h hw 16 rfl)) (Or.inr (own_h hw 17 rfl)) (by decide) (t := (.array .byte)) (t' := .byte) (by decide) (by decide)))
  have F1144 := Fld.same W1140 F1125
  have V1145 := V1126.other W1140 ne_a2_a1
  have E1146 := Exa.wr W1140 E1120
  have A1147 := A1121.other W1140 (Ne.symm ne1129)
  have K1148 := K1128.wr W1140 (Or.inl (List.mem_of_getElem? (i := 0) rfl))
  have Z1149 : n0 ≤ h1139.size := W1140.size ▸ Z1127
  have N1150 := Fr.snoc X1137 N1117 G_a1
  refine own_aloadN X1137 hx (hb hby own_d2_51) (q := 52) rfl rfl rfl ?_
  refine own_aload X1137 hx (hb hby own_d2_52) (q := 54) rfl rfl rfl ?_
  refine own_putF X1137 hx hZ hown (host := "") (Or.inl (own_h hw 20 rfl)) Via.refl e1138 F1143 E1142 (Or.inr ⟨(own_h hw 16 rfl), rfl, hnm⟩) (own_h hw 2 rfl) (ty := (.array .byte)) (by decide) rfl rfl (hb hby own_d2_54) (q := 57) rfl (fun T1151 h1154 X1152 e1153 W1155 => ?_)
  have G1156 := G1141.wr W1155
  have E1157 := Exa.wr W1155 E1142
  have F1158 := Fld.same W1155 F1143
  have F1159 := Fld.other W1155 F1144 (Or.inr (slot_ne (C := "java/lang/String") (Or.inr (own_h hw 17 rfl)) (Or.inr (own_h hw 16 rfl)) (by decide) (t := .byte) (t' := (.array .byte)) (by decide) (by decide)))
  have V1160 := V1145.other W1155 ne_a2_a1
  have E1161 := Exa.wr W1155 E1146
  have A1162 := A1147.other W1155 (Ne.symm ne1129)
  have K1163 := K1148.wr W1155 (Or.inl (List.mem_of_getElem? (i := 0) rfl))
  have Z1164 : n0 ≤ h1154.size := W1155.size ▸ Z1149
  have N1165 := Fr.snoc X1152 N1150 G_a1
  refine own_retV X1152 hx hlk (rest := []) hret (hb hby own_d2_57) ?_ (by decide) (by decide)
  show own_Q2_2L Z a1 a2 cs G u0 u1 h0 n0 _ T1151.heap _
  rw [e1153]
  exact ⟨a1118, rfl, N1165, K1163, O1132, E1161, A1162, E1157, F1158, F1159, V1160⟩

def own_Q1_2L (Z : State) (a1 : Addr) (a2 : Addr) (cs : Int32) (G : Value) (u0 : Int32) (u1 : Int32) (h0 : Heap) (n0 : Nat) (v : Option Value) (h : Heap) (L : List Loc) : Prop := ∃ ra0 : Addr, v = none ∧ Fr n0 L ∧ Keep h0 h [a1] ∧ h0.size ≤ ra0 ∧ Exa Z h ra0 "[B" ∧ own_A Z h ra0 .byte [.int u0.toInt8.toInt32, .int u1.toInt8.toInt32] ∧ Exa Z h a1 "java/lang/String" ∧ Fld Z h a1 "java/lang/String" "value" "[B" (.ref ra0) ∧ Fld Z h a1 "java/lang/String" "coder" "B" (.int (0 : Int32)) ∧ own_A Z h a2 .char [.int u0, .int u1]
set_option maxRecDepth 65536 in
set_option maxHeartbeats 40000000 in
theorem rm1_2L (l : Launch) (Z : State) (a0 : Array Value) (hw : ∀ d ∈ tables_1, d.before a0 Z = true) (ws : List Jvm.Cond) (a1 : Addr) (a2 : Addr) (cs : Int32) (G : Value) (u0 : Int32) (u1 : Int32) (h0 : Heap) (n0 : Nat) (Z0 : n0 ≤ h0.size) (G0p : own_G Z h0 cs G) (E1p : Exa Z h0 a1 "java/lang/String") (F2p : Fld Z h0 a1 "java/lang/String" "value" "[B" (.null)) (F3p : Fld Z h0 a1 "java/lang/String" "coder" "B" (.int (0 : Int32))) (V4p : own_A Z h0 a2 .char [.int u0, .int u1]) (G_a1 : n0 ≤ a1) (ne_a2_a1 : a2 ≠ a1)  (kn0 : ¬ ((255 : Int32) < u0)) (kn1 : ¬ ((255 : Int32) < u1)) (kn2 : ¬ (u0 < (0 : Int32))) (kn3 : ¬ ((65535 : Int32) < u0)) (kn4 : ¬ (u1 < (0 : Int32))) (kn5 : ¬ ((65535 : Int32) < u1)) :
    own_M l (⟨"java/lang/String", "<init>", "([C)V"⟩ : MethodName) jdk_42_method_3_code 2 none ws ({ frames := 3, cells := 1, slots := 2, locals := 52 } : Room) #[.ref a1, .ref a2] Z h0 (own_Q1_2L Z a1 a2 cs G u0 u1 h0 n0) := by
  refine own_prol (C := "java/lang/String") rfl own_pn5 (fun m => own_ef1 m ..) ?_
  intro p e s m below meth c s₁ hx hby hml hown hnm hlk hret X0 e0 hZ
  have N0 := Fr.nil n0
  have K0 := Keep.refl h0 [a1]
  refine own_aloadN X0 hx (hb hby own_d1_0) (q := 1) rfl rfl rfl ?_
  refine own_aloadN X0 hx (hb hby own_d1_1) (q := 2) rfl rfl rfl ?_
  refine own_iconst X0 hx (v := (0 : Int32)) (hb hby own_d1_2) (q := 3) rfl rfl ?_
  refine own_aloadN X0 hx (hb hby own_d1_3) (q := 4) rfl rfl rfl ?_
  refine own_alen X0 hx hZ (n := (2 : Int32)) e0 V4p rfl (hb hby own_d1_4) (q := 5) rfl ?_
  refine own_aconstNull X0 hx (hb hby own_d1_5) (q := 6) rfl ?_
  refine own_callC X0 hx hZ hown rfl (own_h hw 7 rfl) (own_h hw 8 rfl) (own_h hw 3 rfl) (own_h hw 10 rfl) (by decide) (rm2_2L l Z a0 hw [] a1 a2 cs G u0 u1 h0 n0 Z0 G0p E1p F2p F3p V4p G_a1 ne_a2_a1 kn0 kn1 kn2 kn3 kn4 kn5) own_pd13 rfl e0 (by rw [hml]; rfl) (argsL := [.ref a2, .int (0 : Int32), .int (2 : Int32), .null]) (st := []) rfl (W := 0) (Nat.le_of_eq rfl) (by decide) (by decide) (by decide) (by decide) (hb hby own_d1_6) (q := 9) rfl (fun v1169 T1170 L1171 X1172 hQ1173 => ?_)
  obtain ⟨a1177, rfl, N1174, K1175, O1178, E1179, A1180, E1181, F1182, F1183, A1184⟩ := hQ1173
  have G1185 := G0p.keep K1175 (allS (own_exaPlain E1p) all0)
  have Z1186 : n0 ≤ T1170.heap.size := Nat.le_trans Z0 K1175.1
  have K1187 := K0.trans K1175 (allS (Or.inl (List.mem_of_getElem? (i := 0) rfl)) all0)
  have N1176 := Fr.app N0 N1174
  have ne1188 : a1 ≠ a1177 := Nat.ne_of_lt (Nat.lt_of_lt_of_le E1p.lt O1178)
  have ne1189 : a2 ≠ a1177 := Nat.ne_of_lt (Nat.lt_of_lt_of_le V4p.lt O1178)
  have Z1190 : n0 ≤ a1177 := Nat.le_trans Z0 O1178
  have O1191 : h0.size ≤ a1177 := Nat.le_trans K0.1 O1178
  show own_Go _ _ _ _ (T1170.setTop (mkF m 9 #[.val (.ref a1), .val (.ref a2)] []))
  refine own_retV X1172 hx hlk (rest := []) hret (hb hby own_d1_9) ?_ (by decide) (by decide)
  show own_Q1_2L Z a1 a2 cs G u0 u1 h0 n0 _ T1170.heap _
  exact ⟨a1177, rfl, N1176, K1187, O1191, E1179, A1180, E1181, F1182, F1183, A1184⟩

def own_Q2_2H (Z : State) (a1 : Addr) (a2 : Addr) (cs : Int32) (G : Value) (u0 : Int32) (u1 : Int32) (h0 : Heap) (n0 : Nat) (v : Option Value) (h : Heap) (L : List Loc) : Prop := ∃ ra0 : Addr, v = none ∧ Fr n0 L ∧ Keep h0 h [a1] ∧ h0.size ≤ ra0 ∧ Exa Z h ra0 "[B" ∧ own_A Z h ra0 .byte [.int ((u0 >>> ((0 : Int32) &&& 31)).toInt8.toInt32), .int ((u0 >>> ((8 : Int32) &&& 31)).toInt8.toInt32), .int ((u1 >>> ((0 : Int32) &&& 31)).toInt8.toInt32), .int ((u1 >>> ((8 : Int32) &&& 31)).toInt8.toInt32)] ∧ Exa Z h a1 "java/lang/String" ∧ Fld Z h a1 "java/lang/String" "value" "[B" (.ref ra0) ∧ Fld Z h a1 "java/lang/String" "coder" "B" (.int (1 : Int32)) ∧ own_A Z h a2 .char [.int u0, .int u1]
set_option maxRecDepth 65536 in
set_option maxHeartbeats 40000000 in
theorem rm2_2H (l : Launch) (Z : State) (a0 : Array Value) (hw : ∀ d ∈ tables_1, d.before a0 Z = true) (ws : List Jvm.Cond) (a1 : Addr) (a2 : Addr) (cs : Int32) (G : Value) (u0 : Int32) (u1 : Int32) (h0 : Heap) (n0 : Nat) (Z0 : n0 ≤ h0.size) (G0p : own_G Z h0 cs G) (E1p : Exa Z h0 a1 "java/lang/String") (F2p : Fld Z h0 a1 "java/lang/String" "value" "[B" (.null)) (F3p : Fld Z h0 a1 "java/lang/String" "coder" "B" (.int (0 : Int32))) (V4p : own_A Z h0 a2 .char [.int u0, .int u1]) (G_a1 : n0 ≤ a1) (ne_a2_a1 : a2 ≠ a1)  (kn0 : ¬ (u0 < (0 : Int32))) (kn1 : ¬ ((65535 : Int32) < u0)) (kn2 : ¬ (u1 < (0 : Int32))) (kn3 : ¬ ((65535 : Int32) < u1)) (hH : (255 : Int32) < u0 ∨ (255 : Int32) < u1) :
    own_M l (⟨"java/lang/String", "<init>", "([CIILjava/lang/Void;)V"⟩ : MethodName) jdk_42_method_149_code 6 none ws ({ frames := 4, cells := 2, slots := 8, locals := 57 } : Room) #[.ref a1, .ref a2, .int (0 : Int32), .int (2 : Int32), .null] Z h0 (own_Q2_2H Z a1 a2 cs G u0 u1 h0 n0) := by
  refine own_prol (C := "java/lang/String") rfl own_pn5 (fun m => own_ef2_null_k0_k2 m ..) ?_
  intro p e s m below meth c s₁ hx hby hml hown hnm hlk hret X0 e0 hZ
  have N0 := Fr.nil n0
  have K0 := Keep.refl h0 [a1]
  refine own_aloadN X0 hx (hb hby own_d2_0) (q := 1) rfl rfl rfl ?_
  refine own_initO X0 hx hZ hown (own_h hw 11 rfl) (own_h hw 12 rfl) (own_h hw 13 rfl) e0 (by rw [hml]; rfl) (by decide) (W := 0) (Nat.le_of_eq rfl) (by decide) (hb hby own_d2_1) (q := 4) rfl (fun T1192 X1193 e1194 => ?_)
  refine own_iloadN X1193 hx (hb hby own_d2_4) (q := 5) rfl rfl ?_
  refine own_if0M X1193 hx (hb hby own_d2_5) (cd := .ne) (x := (2 : Int32)) (pt := 27) (q := 8) (by decide) (by decide) rfl rfl (fun _ => ?_) (fun h => False.elim (((by decide) : ¬ ((2 : Int32) = (0 : Int32))) h))
  refine own_getS X1193 hx hZ hown (own_h hw 39 rfl) Via.refl e1194 G0p.2.2.1 (hb hby own_d2_27) (q := 30) rfl (fun T1195 X1196 e1197 => ?_)
  refine own_if0P X1196 hx (hb hby own_d2_30) (cd := .eq) (x := cs) (pt := 58) (q := 33) (by decide) (by decide) rfl rfl (fun h => False.elim ((G0p.1 : ¬ (cs = (0 : Int32))) h)) (fun _ => ?_)
  refine own_aloadN X1196 hx (hb hby own_d2_33) (q := 34) rfl rfl rfl ?_
  refine own_iloadN X1196 hx (hb hby own_d2_34) (q := 35) rfl rfl ?_
  refine own_iloadN X1196 hx (hb hby own_d2_35) (q := 36) rfl rfl ?_
  refine own_callS X1196 hx hZ hown (own_h hw 102 rfl) (own_h hw 103 rfl) (own_h hw 104 rfl) (own_h hw 105 rfl) (by decide) (rm17_2H l Z a0 hw [] a2 cs G u0 u1 h0 n0 Z0 G0p V4p kn0 kn1 kn2 kn3 hH) own_pd10 rfl e1197 (by rw [hml]; rfl) (argsL := [.ref a2, .int (0 : Int32), .int (2 : Int32)]) (st := []) rfl (W := 0) (Nat.le_of_eq rfl) (by decide) (by decide) (by decide) (by decide) (hb hby own_d2_36) (q := 39) rfl (fun v1204 T1205 L1206 X1207 hQ1208 => ?_)
  obtain ⟨a1212, rfl, N1209, K1210, O1213, E1214, A1215⟩ := hQ1208
  have G1216 := G0p.keep K1210 all0
  have E1217 := E1p.keep K1210
  have F1218 := F2p.keep K1210 nin0
  have F1219 := F3p.keep K1210 nin0
  have V1220 := V4p.keep K1210 nin0
  have Z1221 : n0 ≤ T1205.heap.size := Nat.le_trans Z0 K1210.1
  have K1222 := K0.trans K1210 all0
  have N1211 := Fr.app N0 N1209
  have ne1223 : a1 ≠ a1212 := Nat.ne_of_lt (Nat.lt_of_lt_of_le E1p.lt O1213)
  have ne1224 : a2 ≠ a1212 := Nat.ne_of_lt (Nat.lt_of_lt_of_le V4p.lt O1213)
  have Z1225 : n0 ≤ a1212 := Nat.le_trans Z0 O1213
  have O1226 : h0.size ≤ a1212 := Nat.le_trans K0.1 O1213
  show own_Go _ _ _ _ (T1205.setTop (mkF m 39 #[.val (.ref a1), .val (.ref a2), .val (.int (0 : Int32)), .val (.int (2 : Int32)), .val .null, .unset] [.ref a1212]))
  refine own_astore (L' := #[.val (.ref a1), .val (.ref a2), .val (.int (0 : Int32)), .val (.int (2 : Int32)), .val .null, .val (.ref a1212)]) X1207 hx (hb hby own_d2_39) (q := 41) rfl rfl rfl ?_
  refine own_aloadN X1207 hx (hb hby own_d2_41) (q := 42) rfl rfl rfl ?_
  refine own_aload X1207 hx (hb hby own_d2_42) (q := 44) rfl rfl rfl ?_
  refine own_iloadN X1207 hx (hb hby own_d2_44) (q := 45) rfl rfl ?_
  refine own_callSP X1207 hx hZ hown (own_h hw 109 rfl) (own_h hw 110 rfl) (own_h hw 104 rfl) (own_h hw 111 rfl) (by decide) (rm19_4_2 l Z a0 hw [] a1212 ([.int ((u0 >>> ((0 : Int32) &&& 31)).toInt8.toInt32), .int ((u0 >>> ((8 : Int32) &&& 31)).toInt8.toInt32), .int ((u1 >>> ((0 : Int32) &&& 31)).toInt8.toInt32), .int ((u1 >>> ((8 : Int32) &&& 31)).toInt8.toInt32)]) T1205.heap A1215 rfl) own_pd12 rfl rfl (by rw [hml]; rfl) (argsL := [.ref a1212, .int (2 : Int32)]) (st := [.ref a1]) rfl (W := 1) (Nat.le_of_eq rfl) (by decide) (by decide) (by decide) (by decide) (hb hby own_d2_45) (q := 48) rfl (fun T1227 X1228 e1229 => ?_)
  rw [show (own_f19_4_2  : Int32) = (1 : Int32) from rfl]
  refine own_putF X1228 hx hZ hown (host := "") (Or.inl (own_h hw 21 rfl)) Via.refl e1229 F1219 E1217 (Or.inr ⟨(own_h hw 17 rfl), rfl, hnm⟩) (own_h hw 2 rfl) (ty := .byte) (by decide) rfl rfl (hb hby own_d2_48) (q := 51) rfl (fun T1230 h1233 X1231 e1232 W1234 => ?_)
  have G1235 := G1216.wr W1234
  have E1236 := Exa.wr W1234 E1217
  have F1237 := Fld.other W1234 F1218 (Or.inr (slot_ne (C := "java/lang/String") (Or.inr (own_h hw 16 rfl)) (Or.inr (own_h hw 17 rfl)) (by decide) (t := (.array .byte)) (t' := .byte) (by decide) (by decide)))
  have F1238 := Fld.same W1234 F1219
  have V1239 := V1220.other W1234 ne_a2_a1
  have E1240 := Exa.wr W1234 E1214
  have A1241 := A1215.other W1234 (Ne.symm ne1223)
  have K1242 := K1222.wr W1234 (Or.inl (List.mem_of_getElem? (i := 0) rfl))
  have Z1243 : n0 ≤ h1233.size := W1234.size ▸ Z1221
  have N1244 := Fr.snoc X1231 N1211 G_a1
  refine own_aloadN X1231 hx (hb hby own_d2_51) (q := 52) rfl rfl rfl ?_
  refine own_aload X1231 hx (hb hby own_d2_52) (q := 54) rfl rfl rfl ?_
  refine own_putF X1231 hx hZ hown (host := "") (Or.inl (own_h hw 20 rfl)) Via.refl e1232 F1237 E1236 (Or.inr ⟨(own_h hw 16 rfl), rfl, hnm⟩) (own_h hw 2 rfl) (ty := (.array .byte)) (by decide) rfl rfl (hb hby own_d2_54) (q := 57) rfl (fun T1245 h1248 X1246 e1247 W1249 => ?_)
  have G1250 := G1235.wr W1249
  have E1251 := Exa.wr W1249 E1236
  have F1252 := Fld.same W1249 F1237
  have F1253 := Fld.other W1249 F1238 (Or.inr (slot_ne (C := "java/lang/String") (Or.inr (own_h hw 17 rfl)) (Or.inr (own_h hw 16 rfl)) (by decide) (t := .byte) (t' := (.array .byte)) (by decide) (by decide)))
  have V1254 := V1239.other W1249 ne_a2_a1
  have E1255 := Exa.wr W1249 E1240
  have A1256 := A1241.other W1249 (Ne.symm ne1223)
  have K1257 := K1242.wr W1249 (Or.inl (List.mem_of_getElem? (i := 0) rfl))
  have Z1258 : n0 ≤ h1248.size := W1249.size ▸ Z1243
  have N1259 := Fr.snoc X1246 N1244 G_a1
  refine own_retV X1246 hx hlk (rest := []) hret (hb hby own_d2_57) ?_ (by decide) (by decide)
  show own_Q2_2H Z a1 a2 cs G u0 u1 h0 n0 _ T1245.heap _
  rw [e1247]
  exact ⟨a1212, rfl, N1259, K1257, O1226, E1255, A1256, E1251, F1252, F1253, V1254⟩

def own_Q1_2H (Z : State) (a1 : Addr) (a2 : Addr) (cs : Int32) (G : Value) (u0 : Int32) (u1 : Int32) (h0 : Heap) (n0 : Nat) (v : Option Value) (h : Heap) (L : List Loc) : Prop := ∃ ra0 : Addr, v = none ∧ Fr n0 L ∧ Keep h0 h [a1] ∧ h0.size ≤ ra0 ∧ Exa Z h ra0 "[B" ∧ own_A Z h ra0 .byte [.int ((u0 >>> ((0 : Int32) &&& 31)).toInt8.toInt32), .int ((u0 >>> ((8 : Int32) &&& 31)).toInt8.toInt32), .int ((u1 >>> ((0 : Int32) &&& 31)).toInt8.toInt32), .int ((u1 >>> ((8 : Int32) &&& 31)).toInt8.toInt32)] ∧ Exa Z h a1 "java/lang/String" ∧ Fld Z h a1 "java/lang/String" "value" "[B" (.ref ra0) ∧ Fld Z h a1 "java/lang/String" "coder" "B" (.int (1 : Int32)) ∧ own_A Z h a2 .char [.int u0, .int u1]
set_option maxRecDepth 65536 in
set_option maxHeartbeats 40000000 in
theorem rm1_2H (l : Launch) (Z : State) (a0 : Array Value) (hw : ∀ d ∈ tables_1, d.before a0 Z = true) (ws : List Jvm.Cond) (a1 : Addr) (a2 : Addr) (cs : Int32) (G : Value) (u0 : Int32) (u1 : Int32) (h0 : Heap) (n0 : Nat) (Z0 : n0 ≤ h0.size) (G0p : own_G Z h0 cs G) (E1p : Exa Z h0 a1 "java/lang/String") (F2p : Fld Z h0 a1 "java/lang/String" "value" "[B" (.null)) (F3p : Fld Z h0 a1 "java/lang/String" "coder" "B" (.int (0 : Int32))) (V4p : own_A Z h0 a2 .char [.int u0, .int u1]) (G_a1 : n0 ≤ a1) (ne_a2_a1 : a2 ≠ a1)  (kn0 : ¬ (u0 < (0 : Int32))) (kn1 : ¬ ((65535 : Int32) < u0)) (kn2 : ¬ (u1 < (0 : Int32))) (kn3 : ¬ ((65535 : Int32) < u1)) (hH : (255 : Int32) < u0 ∨ (255 : Int32) < u1) :
    own_M l (⟨"java/lang/String", "<init>", "([C)V"⟩ : MethodName) jdk_42_method_3_code 2 none ws ({ frames := 5, cells := 2, slots := 8, locals := 74 } : Room) #[.ref a1, .ref a2] Z h0 (own_Q1_2H Z a1 a2 cs G u0 u1 h0 n0) := by
  refine own_prol (C := "java/lang/String") rfl own_pn5 (fun m => own_ef1 m ..) ?_
  intro p e s m below meth c s₁ hx hby hml hown hnm hlk hret X0 e0 hZ
  have N0 := Fr.nil n0
  have K0 := Keep.refl h0 [a1]
  refine own_aloadN X0 hx (hb hby own_d1_0) (q := 1) rfl rfl rfl ?_
  refine own_aloadN X0 hx (hb hby own_d1_1) (q := 2) rfl rfl rfl ?_
  refine own_iconst X0 hx (v := (0 : Int32)) (hb hby own_d1_2) (q := 3) rfl rfl ?_
  refine own_aloadN X0 hx (hb hby own_d1_3) (q := 4) rfl rfl rfl ?_
  refine own_alen X0 hx hZ (n := (2 : Int32)) e0 V4p rfl (hb hby own_d1_4) (q := 5) rfl ?_
  refine own_aconstNull X0 hx (hb hby own_d1_5) (q := 6) rfl ?_
  refine own_callC X0 hx hZ hown rfl (own_h hw 7 rfl) (own_h hw 8 rfl) (own_h hw 3 rfl) (own_h hw 10 rfl) (by decide) (rm2_2H l Z a0 hw [] a1 a2 cs G u0 u1 h0 n0 Z0 G0p E1p F2p F3p V4p G_a1 ne_a2_a1 kn0 kn1 kn2 kn3 hH) own_pd13 rfl e0 (by rw [hml]; rfl) (argsL := [.ref a2, .int (0 : Int32), .int (2 : Int32), .null]) (st := []) rfl (W := 0) (Nat.le_of_eq rfl) (by decide) (by decide) (by decide) (by decide) (hb hby own_d1_6) (q := 9) rfl (fun v1263 T1264 L1265 X1266 hQ1267 => ?_)
  obtain ⟨a1271, rfl, N1268, K1269, O1272, E1273, A1274, E1275, F1276, F1277, A1278⟩ := hQ1267
  have G1279 := G0p.keep K1269 (allS (own_exaPlain E1p) all0)
  have Z1280 : n0 ≤ T1264.heap.size := Nat.le_trans Z0 K1269.1
  have K1281 := K0.trans K1269 (allS (Or.inl (List.mem_of_getElem? (i := 0) rfl)) all0)
  have N1270 := Fr.app N0 N1268
  have ne1282 : a1 ≠ a1271 := Nat.ne_of_lt (Nat.lt_of_lt_of_le E1p.lt O1272)
  have ne1283 : a2 ≠ a1271 := Nat.ne_of_lt (Nat.lt_of_lt_of_le V4p.lt O1272)
  have Z1284 : n0 ≤ a1271 := Nat.le_trans Z0 O1272
  have O1285 : h0.size ≤ a1271 := Nat.le_trans K0.1 O1272
  show own_Go _ _ _ _ (T1264.setTop (mkF m 9 #[.val (.ref a1), .val (.ref a2)] []))
  refine own_retV X1266 hx hlk (rest := []) hret (hb hby own_d1_9) ?_ (by decide) (by decide)
  show own_Q1_2H Z a1 a2 cs G u0 u1 h0 n0 _ T1264.heap _
  exact ⟨a1271, rfl, N1270, K1281, O1285, E1273, A1274, E1275, F1276, F1277, A1278⟩
theorem own_ef2_null_k0_k3 (m : MethodId) (a1 : Addr) (a2 : Addr) : entryFrame m #[.ref a1, .ref a2, .int (0 : Int32), .int (3 : Int32), .null] 6 = mkF m 0 #[.val (.ref a1), .val (.ref a2), .val (.int (0 : Int32)), .val (.int (3 : Int32)), .val .null, .unset] [] := by first | (simp [entryFrame, mkF, argsToLocals, Value.category]; done) | rfl

def own_Q2_3L (Z : State) (a1 : Addr) (a2 : Addr) (cs : Int32) (G : Value) (u0 : Int32) (u1 : Int32) (u2 : Int32) (h0 : Heap) (n0 : Nat) (v : Option Value) (h : Heap) (L : List Loc) : Prop := ∃ ra0 : Addr, v = none ∧ Fr n0 L ∧ Keep h0 h [a1] ∧ h0.size ≤ ra0 ∧ Exa Z h ra0 "[B" ∧ own_A Z h ra0 .byte [.int u0.toInt8.toInt32, .int u1.toInt8.toInt32, .int u2.toInt8.toInt32] ∧ Exa Z h a1 "java/lang/String" ∧ Fld Z h a1 "java/lang/String" "value" "[B" (.ref ra0) ∧ Fld Z h a1 "java/lang/String" "coder" "B" (.int (0 : Int32)) ∧ own_A Z h a2 .char [.int u0, .int u1, .int u2]
set_option maxRecDepth 65536 in
set_option maxHeartbeats 40000000 in
theorem rm2_3L (l : Launch) (Z : State) (a0 : Array Value) (hw : ∀ d ∈ tables_1, d.before a0 Z = true) (ws : List Jvm.Cond) (a1 : Addr) (a2 : Addr) (cs : Int32) (G : Value) (u0 : Int32) (u1 : Int32) (u2 : Int32) (h0 : Heap) (n0 : Nat) (Z0 : n0 ≤ h0.size) (G0p : own_G Z h0 cs G) (E1p : Exa Z h0 a1 "java/lang/String") (F2p : Fld Z h0 a1 "java/lang/String" "value" "[B" (.null)) (F3p : Fld Z h0 a1 "java/lang/String" "coder" "B" (.int (0 : Int32))) (V4p : own_A Z h0 a2 .char [.int u0, .int u1, .int u2]) (G_a1 : n0 ≤ a1) (ne_a2_a1 : a2 ≠ a1)  (kn0 : ¬ ((255 : Int32) < u0)) (kn1 : ¬ ((255 : Int32) < u1)) (kn2 : ¬ ((255 : Int32) < u2)) (kn3 : ¬ (u0 < (0 : Int32))) (kn4 : ¬ ((65535 : Int32) < u0)) (kn5 : ¬ (u1 < (0 : Int32))) (kn6 : ¬ ((65535 : Int32) < u1)) (kn7 : ¬ (u2 < (0 : Int32))) (kn8 : ¬ ((65535 : Int32) < u2)) :
    own_M l (⟨"java/lang/String", "<init>", "([CIILjava/lang/Void;)V"⟩ : MethodName) jdk_42_method_149_code 6 none ws ({ frames := 2, cells := 1, slots := 3, locals := 35 } : Room) #[.ref a1, .ref a2, .int (0 : Int32), .int (3 : Int32), .null] Z h0 (own_Q2_3L Z a1 a2 cs G u0 u1 u2 h0 n0) := by
  refine own_prol (C := "java/lang/String") rfl own_pn5 (fun m => own_ef2_null_k0_k3 m ..) ?_
  intro p e s m below meth c s₁ hx hby hml hown hnm hlk hret X0 e0 hZ
  have N0 := Fr.nil n0
  have K0 := Keep.refl h0 [a1]
  refine own_aloadN X0 hx (hb hby own_d2_0) (q := 1) rfl rfl rfl ?_
  refine own_initO X0 hx hZ hown (own_h hw 11 rfl) (own_h hw 12 rfl) (own_h hw 13 rfl) e0 (by rw [hml]; rfl) (by decide) (W := 0) (Nat.le_of_eq rfl) (by decide) (hb hby own_d2_1) (q := 4) rfl (fun T1286 X1287 e1288 => ?_)
  refine own_iloadN X1287 hx (hb hby own_d2_4) (q := 5) rfl rfl ?_
  refine own_if0M X1287 hx (hb hby own_d2_5) (cd := .ne) (x := (3 : Int32)) (pt := 27) (q := 8) (by decide) (by decide) rfl rfl (fun _ => ?_) (fun h => False.elim (((by decide) : ¬ ((3 : Int32) = (0 : Int32))) h))
  refine own_getS X1287 hx hZ hown (own_h hw 39 rfl) Via.refl e1288 G0p.2.2.1 (hb hby own_d2_27) (q := 30) rfl (fun T1289 X1290 e1291 => ?_)
  refine own_if0P X1290 hx (hb hby own_d2_30) (cd := .eq) (x := cs) (pt := 58) (q := 33) (by decide) (by decide) rfl rfl (fun h => False.elim ((G0p.1 : ¬ (cs = (0 : Int32))) h)) (fun _ => ?_)
  refine own_aloadN X1290 hx (hb hby own_d2_33) (q := 34) rfl rfl rfl ?_
  refine own_iloadN X1290 hx (hb hby own_d2_34) (q := 35) rfl rfl ?_
  refine own_iloadN X1290 hx (hb hby own_d2_35) (q := 36) rfl rfl ?_
  refine own_callS X1290 hx hZ hown (own_h hw 102 rfl) (own_h hw 103 rfl) (own_h hw 104 rfl) (own_h hw 105 rfl) (by decide) (rm17_33 l Z a0 hw [] a2 cs G u0 u1 u2 h0 n0 Z0 G0p V4p kn0 kn1 kn2 kn3 kn4 kn5 kn6 kn7 kn8) own_pd10 rfl e1291 (by rw [hml]; rfl) (argsL := [.ref a2, .int (0 : Int32), .int (3 : Int32)]) (st := []) rfl (W := 0) (Nat.le_of_eq rfl) (by decide) (by decide) (by decide) (by decide) (hb hby own_d2_36) (q := 39) rfl (fun v1298 T1299 L1300 X1301 hQ1302 => ?_)
  obtain ⟨a1306, rfl, N1303, K1304, O1307, E1308, A1309⟩ := hQ1302
  have G1310 := G0p.keep K1304 all0
  have E1311 := E1p.keep K1304
  have F1312 := F2p.keep K1304 nin0
  have F1313 := F3p.keep K1304 nin0
  have V1314 := V4p.keep K1304 nin0
  have Z1315 : n0 ≤ T1299.heap.size := Nat.le_trans Z0 K1304.1
  have K1316 := K0.trans K1304 all0
  have N1305 := Fr.app N0 N1303
  have ne1317 : a1 ≠ a1306 := Nat.ne_of_lt (Nat.lt_of_lt_of_le E1p.lt O1307)
  have ne1318 : a2 ≠ a1306 := Nat.ne_of_lt (Nat.lt_of_lt_of_le V4p.lt O1307)
  have Z1319 : n0 ≤ a1306 := Nat.le_trans Z0 O1307
  have O1320 : h0.size ≤ a1306 := Nat.le_trans K0.1 O1307
  show own_Go _ _ _ _ (T1299.setTop (mkF m 39 #[.val (.ref a1), .val (.ref a2), .val (.int (0 : Int32)), .val (.int (3 : Int32)), .val .null, .unset] [.ref a1306]))
  refine own_astore (L' := #[.val (.ref a1), .val (.ref a2), .val (.int (0 : Int32)), .val (.int (3 : Int32)), .val .null, .val (.ref a1306)]) X1301 hx (hb hby own_d2_39) (q := 41) rfl rfl rfl ?_
  refine own_aloadN X1301 hx (hb hby own_d2_41) (q := 42) rfl rfl rfl ?_
  refine own_aload X1301 hx (hb hby own_d2_42) (q := 44) rfl rfl rfl ?_
  refine own_iloadN X1301 hx (hb hby own_d2_44) (q := 45) rfl rfl ?_
  refine own_callSP X1301 hx hZ hown (own_h hw 109 rfl) (own_h hw 110 rfl) (own_h hw 104 rfl) (own_h hw 111 rfl) (by decide) (rm19_3_3 l Z a0 hw [] a1306 ([.int u0.toInt8.toInt32, .int u1.toInt8.toInt32, .int u2.toInt8.toInt32]) T1299.heap A1309 rfl) own_pd12 rfl rfl (by rw [hml]; rfl) (argsL := [.ref a1306, .int (3 : Int32)]) (st := [.ref a1]) rfl (W := 1) (Nat.le_of_eq rfl) (by decide) (by decide) (by decide) (by decide) (hb hby own_d2_45) (q := 48) rfl (fun T1321 X1322 e1323 => ?_)
  rw [show (own_f19_3_3  : Int32) = (0 : Int32) from rfl]
  refine own_putF X1322 hx hZ hown (host := "") (Or.inl (own_h hw 21 rfl)) Via.refl e1323 F1313 E1311 (Or.inr ⟨(own_h hw 17 rfl), rfl, hnm⟩) (own_h hw 2 rfl) (ty := .byte) (by decide) rfl rfl (hb hby own_d2_48) (q := 51) rfl (fun T1324 h1327 X1325 e1326 W1328 => ?_)
  have G1329 := G1310.wr W1328
  have E1330 := Exa.wr W1328 E1311
  have F1331 := Fld.other W1328 F1312 (Or.inr (slot_ne (C := "java/lang/String") (Or.inr (own_h hw 16 rfl)) (Or.inr (own_h hw 17 rfl)) (by decide) (t := (.array .byte)) (t' := .byte) (by decide) (by decide)))
  have F1332 := Fld.same W1328 F1313
  have V1333 := V1314.other W1328 ne_a2_a1
  have E1334 := Exa.wr W1328 E1308
  have A1335 := A1309.other W1328 (Ne.symm ne1317)
  have K1336 := K1316.wr W1328 (Or.inl (List.mem_of_getElem? (i := 0) rfl))
  have Z1337 : n0 ≤ h1327.size := W1328.size ▸ Z1315
  have N1338 := Fr.snoc X1325 N1305 G_a1
  refine own_aloadN X1325 hx (hb hby own_d2_51) (q := 52) rfl rfl rfl ?_
  refine own_aload X1325 hx (hb hby own_d2_52) (q := 54) rfl rfl rfl ?_
  refine own_putF X1325 hx hZ hown (host := "") (Or.inl (own_h hw 20 rfl)) Via.refl e1326 F1331 E1330 (Or.inr ⟨(own_h hw 16 rfl), rfl, hnm⟩) (own_h hw 2 rfl) (ty := (.array .byte)) (by decide) rfl rfl (hb hby own_d2_54) (q := 57) rfl (fun T1339 h1342 X1340 e1341 W1343 => ?_)
  have G1344 := G1329.wr W1343
  have E1345 := Exa.wr W1343 E1330
  have F1346 := Fld.same W1343 F1331
  have F1347 := Fld.other W1343 F1332 (Or.inr (slot_ne (C := "java/lang/String") (Or.inr (own_h hw 17 rfl)) (Or.inr (own_h hw 16 rfl)) (by decide) (t := .byte) (t' := (.array .byte)) (by decide) (by decide)))
  have V1348 := V1333.other W1343 ne_a2_a1
  have E1349 := Exa.wr W1343 E1334
  have A1350 := A1335.other W1343 (Ne.symm ne1317)
  have K1351 := K1336.wr W1343 (Or.inl (List.mem_of_getElem? (i := 0) rfl))
  have Z1352 : n0 ≤ h1342.size := W1343.size ▸ Z1337
  have N1353 := Fr.snoc X1340 N1338 G_a1
  refine own_retV X1340 hx hlk (rest := []) hret (hb hby own_d2_57) ?_ (by decide) (by decide)
  show own_Q2_3L Z a1 a2 cs G u0 u1 u2 h0 n0 _ T1339.heap _
  rw [e1341]
  exact ⟨a1306, rfl, N1353, K1351, O1320, E1349, A1350, E1345, F1346, F1347, V1348⟩

def own_Q1_3L (Z : State) (a1 : Addr) (a2 : Addr) (cs : Int32) (G : Value) (u0 : Int32) (u1 : Int32) (u2 : Int32) (h0 : Heap) (n0 : Nat) (v : Option Value) (h : Heap) (L : List Loc) : Prop := ∃ ra0 : Addr, v = none ∧ Fr n0 L ∧ Keep h0 h [a1] ∧ h0.size ≤ ra0 ∧ Exa Z h ra0 "[B" ∧ own_A Z h ra0 .byte [.int u0.toInt8.toInt32, .int u1.toInt8.toInt32, .int u2.toInt8.toInt32] ∧ Exa Z h a1 "java/lang/String" ∧ Fld Z h a1 "java/lang/String" "value" "[B" (.ref ra0) ∧ Fld Z h a1 "java/lang/String" "coder" "B" (.int (0 : Int32)) ∧ own_A Z h a2 .char [.int u0, .int u1, .int u2]
set_option maxRecDepth 65536 in
set_option maxHeartbeats 40000000 in
theorem rm1_3L (l : Launch) (Z : State) (a0 : Array Value) (hw : ∀ d ∈ tables_1, d.before a0 Z = true) (ws : List Jvm.Cond) (a1 : Addr) (a2 : Addr) (cs : Int32) (G : Value) (u0 : Int32) (u1 : Int32) (u2 : Int32) (h0 : Heap) (n0 : Nat) (Z0 : n0 ≤ h0.size) (G0p : own_G Z h0 cs G) (E1p : Exa Z h0 a1 "java/lang/String") (F2p : Fld Z h0 a1 "java/lang/String" "value" "[B" (.null)) (F3p : Fld Z h0 a1 "java/lang/String" "coder" "B" (.int (0 : Int32))) (V4p : own_A Z h0 a2 .char [.int u0, .int u1, .int u2]) (G_a1 : n0 ≤ a1) (ne_a2_a1 : a2 ≠ a1)  (kn0 : ¬ ((255 : Int32) < u0)) (kn1 : ¬ ((255 : Int32) < u1)) (kn2 : ¬ ((255 : Int32) < u2)) (kn3 : ¬ (u0 < (0 : Int32))) (kn4 : ¬ ((65535 : Int32) < u0)) (kn5 : ¬ (u1 < (0 : Int32))) (kn6 : ¬ ((65535 : Int32) < u1)) (kn7 : ¬ (u2 < (0 : Int32))) (kn8 : ¬ ((65535 : Int32) < u2)) :
    own_M l (⟨"java/lang/String", "<init>", "([C)V"⟩ : MethodName) jdk_42_method_3_code 2 none ws ({ frames := 3, cells := 1, slots := 3, locals := 52 } : Room) #[.ref a1, .ref a2] Z h0 (own_Q1_3L Z a1 a2 cs G u0 u1 u2 h0 n0) := by
  refine own_prol (C := "java/lang/String") rfl own_pn5 (fun m => own_ef1 m ..) ?_
  intro p e s m below meth c s₁ hx hby hml hown hnm hlk hret X0 e0 hZ
  have N0 := Fr.nil n0
  have K0 := Keep.refl h0 [a1]
  refine own_aloadN X0 hx (hb hby own_d1_0) (q := 1) rfl rfl rfl ?_
  refine own_aloadN X0 hx (hb hby own_d1_1) (q := 2) rfl rfl rfl ?_
  refine own_iconst X0 hx (v := (0 : Int32)) (hb hby own_d1_2) (q := 3) rfl rfl ?_
  refine own_aloadN X0 hx (hb hby own_d1_3) (q := 4) rfl rfl rfl ?_
  refine own_alen X0 hx hZ (n := (3 : Int32)) e0 V4p rfl (hb hby own_d1_4) (q := 5) rfl ?_
  refine own_aconstNull X0 hx (hb hby own_d1_5) (q := 6) rfl ?_
  refine own_callC X0 hx hZ hown rfl (own_h hw 7 rfl) (own_h hw 8 rfl) (own_h hw 3 rfl) (own_h hw 10 rfl) (by decide) (rm2_3L l Z a0 hw [] a1 a2 cs G u0 u1 u2 h0 n0 Z0 G0p E1p F2p F3p V4p G_a1 ne_a2_a1 kn0 kn1 kn2 kn3 kn4 kn5 kn6 kn7 kn8) own_pd13 rfl e0 (by rw [hml]; rfl) (argsL := [.ref a2, .int (0 : Int32), .int (3 : Int32), .null]) (st := []) rfl (W := 0) (Nat.le_of_eq rfl) (by decide) (by decide) (by decide) (by decide) (hb hby own_d1_6) (q := 9) rfl (fun v1357 T1358 L1359 X1360 hQ1361 => ?_)
  obtain ⟨a1365, rfl, N1362, K1363, O1366, E1367, A1368, E1369, F1370, F1371, A1372⟩ := hQ1361
  have G1373 := G0p.keep K1363 (allS (own_exaPlain E1p) all0)
  have Z1374 : n0 ≤ T1358.heap.size := Nat.le_trans Z0 K1363.1
  have K1375 := K0.trans K1363 (allS (Or.inl (List.mem_of_getElem? (i := 0) rfl)) all0)
  have N1364 := Fr.app N0 N1362
  have ne1376 : a1 ≠ a1365 := Nat.ne_of_lt (Nat.lt_of_lt_of_le E1p.lt O1366)
  have ne1377 : a2 ≠ a1365 := Nat.ne_of_lt (Nat.lt_of_lt_of_le V4p.lt O1366)
  have Z1378 : n0 ≤ a1365 := Nat.le_trans Z0 O1366
  have O1379 : h0.size ≤ a1365 := Nat.le_trans K0.1 O1366
  show own_Go _ _ _ _ (T1358.setTop (mkF m 9 #[.val (.ref a1), .val (.ref a2)] []))
  refine own_retV X1360 hx hlk (rest := []) hret (hb hby own_d1_9) ?_ (by decide) (by decide)
  show own_Q1_3L Z a1 a2 cs G u0 u1 u2 h0 n0 _ T1358.heap _
  exact ⟨a1365, rfl, N1364, K1375, O1379, E1367, A1368, E1369, F1370, F1371, A1372⟩

def own_Q2_3H (Z : State) (a1 : Addr) (a2 : Addr) (cs : Int32) (G : Value) (u0 : Int32) (u1 : Int32) (u2 : Int32) (h0 : Heap) (n0 : Nat) (v : Option Value) (h : Heap) (L : List Loc) : Prop := ∃ ra0 : Addr, v = none ∧ Fr n0 L ∧ Keep h0 h [a1] ∧ h0.size ≤ ra0 ∧ Exa Z h ra0 "[B" ∧ own_A Z h ra0 .byte [.int ((u0 >>> ((0 : Int32) &&& 31)).toInt8.toInt32), .int ((u0 >>> ((8 : Int32) &&& 31)).toInt8.toInt32), .int ((u1 >>> ((0 : Int32) &&& 31)).toInt8.toInt32), .int ((u1 >>> ((8 : Int32) &&& 31)).toInt8.toInt32), .int ((u2 >>> ((0 : Int32) &&& 31)).toInt8.toInt32), .int ((u2 >>> ((8 : Int32) &&& 31)).toInt8.toInt32)] ∧ Exa Z h a1 "java/lang/String" ∧ Fld Z h a1 "java/lang/String" "value" "[B" (.ref ra0) ∧ Fld Z h a1 "java/lang/String" "coder" "B" (.int (1 : Int32)) ∧ own_A Z h a2 .char [.int u0, .int u1, .int u2]
set_option maxRecDepth 65536 in
set_option maxHeartbeats 40000000 in
theorem rm2_3H (l : Launch) (Z : State) (a0 : Array Value) (hw : ∀ d ∈ tables_1, d.before a0 Z = true) (ws : List Jvm.Cond) (a1 : Addr) (a2 : Addr) (cs : Int32) (G : Value) (u0 : Int32) (u1 : Int32) (u2 : Int32) (h0 : Heap) (n0 : Nat) (Z0 : n0 ≤ h0.size) (G0p : own_G Z h0 cs G) (E1p : Exa Z h0 a1 "java/lang/String") (F2p : Fld Z h0 a1 "java/lang/String" "value" "[B" (.null)) (F3p : Fld Z h0 a1 "java/lang/String" "coder" "B" (.int (0 : Int32))) (V4p : own_A Z h0 a2 .char [.int u0, .int u1, .int u2]) (G_a1 : n0 ≤ a1) (ne_a2_a1 : a2 ≠ a1)  (kn0 : ¬ (u0 < (0 : Int32))) (kn1 : ¬ ((65535 : Int32) < u0)) (kn2 : ¬ (u1 < (0 : Int32))) (kn3 : ¬ ((65535 : Int32) < u1)) (kn4 : ¬ (u2 < (0 : Int32))) (kn5 : ¬ ((65535 : Int32) < u2)) (hH : (255 : Int32) < u0 ∨ (255 : Int32) < u1 ∨ (255 : Int32) < u2) :
    own_M l (⟨"java/lang/String", "<init>", "([CIILjava/lang/Void;)V"⟩ : MethodName) jdk_42_method_149_code 6 none ws ({ frames := 4, cells := 2, slots := 9, locals := 57 } : Room) #[.ref a1, .ref a2, .int (0 : Int32), .int (3 : Int32), .null] Z h0 (own_Q2_3H Z a1 a2 cs G u0 u1 u2 h0 n0) := by
  refine own_prol (C := "java/lang/String") rfl own_pn5 (fun m => own_ef2_null_k0_k3 m ..) ?_
  intro p e s m below meth c s₁ hx hby hml hown hnm hlk hret X0 e0 hZ
  have N0 := Fr.nil n0
  have K0 := Keep.refl h0 [a1]
  refine own_aloadN X0 hx (hb hby own_d2_0) (q := 1) rfl rfl rfl ?_
  refine own_initO X0 hx hZ hown (own_h hw 11 rfl) (own_h hw 12 rfl) (own_h hw 13 rfl) e0 (by rw [hml]; rfl) (by decide) (W := 0) (Nat.le_of_eq rfl) (by decide) (hb hby own_d2_1) (q := 4) rfl (fun T1380 X1381 e1382 => ?_)
  refine own_iloadN X1381 hx (hb hby own_d2_4) (q := 5) rfl rfl ?_
  refine own_if0M X1381 hx (hb hby own_d2_5) (cd := .ne) (x := (3 : Int32)) (pt := 27) (q := 8) (by decide) (by decide) rfl rfl (fun _ => ?_) (fun h => False.elim (((by decide) : ¬ ((3 : Int32) = (0 : Int32))) h))
  refine own_getS X1381 hx hZ hown (own_h hw 39 rfl) Via.refl e1382 G0p.2.2.1 (hb hby own_d2_27) (q := 30) rfl (fun T1383 X1384 e1385 => ?_)
  refine own_if0P X1384 hx (hb hby own_d2_30) (cd := .eq) (x := cs) (pt := 58) (q := 33) (by decide) (by decide) rfl rfl (fun h => False.elim ((G0p.1 : ¬ (cs = (0 : Int32))) h)) (fun _ => ?_)
  refine own_aloadN X1384 hx (hb hby own_d2_33) (q := 34) rfl rfl rfl ?_
  refine own_iloadN X1384 hx (hb hby own_d2_34) (q := 35) rfl rfl ?_
  refine own_iloadN X1384 hx (hb hby own_d2_35) (q := 36) rfl rfl ?_
  refine own_callS X1384 hx hZ hown (own_h hw 102 rfl) (own_h hw 103 rfl) (own_h hw 104 rfl) (own_h hw 105 rfl) (by decide) (rm17_3H l Z a0 hw [] a2 cs G u0 u1 u2 h0 n0 Z0 G0p V4p kn0 kn1 kn2 kn3 kn4 kn5 hH) own_pd10 rfl e1385 (by rw [hml]; rfl) (argsL := [.ref a2, .int (0 : Int32), .int (3 : Int32)]) (st := []) rfl (W := 0) (Nat.le_of_eq rfl) (by decide) (by decide) (by decide) (by decide) (hb hby own_d2_36) (q := 39) rfl (fun v1392 T1393 L1394 X1395 hQ1396 => ?_)
  obtain ⟨a1400, rfl, N1397, K1398, O1401, E1402, A1403⟩ := hQ1396
  have G1404 := G0p.keep K1398 all0
  have E1405 := E1p.keep K1398
  have F1406 := F2p.keep K1398 nin0
  have F1407 := F3p.keep K1398 nin0
  have V1408 := V4p.keep K1398 nin0
  have Z1409 : n0 ≤ T1393.heap.size := Nat.le_trans Z0 K1398.1
  have K1410 := K0.trans K1398 all0
  have N1399 := Fr.app N0 N1397
  have ne1411 : a1 ≠ a1400 := Nat.ne_of_lt (Nat.lt_of_lt_of_le E1p.lt O1401)
  have ne1412 : a2 ≠ a1400 := Nat.ne_of_lt (Nat.lt_of_lt_of_le V4p.lt O1401)
  have Z1413 : n0 ≤ a1400 := Nat.le_trans Z0 O1401
  have O1414 : h0.size ≤ a1400 := Nat.le_trans K0.1 O1401
  show own_Go _ _ _ _ (T1393.setTop (mkF m 39 #[.val (.ref a1), .val (.ref a2), .val (.int (0 : Int32)), .val (.int (3 : Int32)), .val .null, .unset] [.ref a1400]))
  refine own_astore (L' := #[.val (.ref a1), .val (.ref a2), .val (.int (0 : Int32)), .val (.int (3 : Int32)), .val .null, .val (.ref a1400)]) X1395 hx (hb hby own_d2_39) (q := 41) rfl rfl rfl ?_
  refine own_aloadN X1395 hx (hb hby own_d2_41) (q := 42) rfl rfl rfl ?_
  refine own_aload X1395 hx (hb hby own_d2_42) (q := 44) rfl rfl rfl ?_
  refine own_iloadN X1395 hx (hb hby own_d2_44) (q := 45) rfl rfl ?_
  refine own_callSP X1395 hx hZ hown (own_h hw 109 rfl) (own_h hw 110 rfl) (own_h hw 104 rfl) (own_h hw 111 rfl) (by decide) (rm19_6_3 l Z a0 hw [] a1400 ([.int ((u0 >>> ((0 : Int32) &&& 31)).toInt8.toInt32), .int ((u0 >>> ((8 : Int32) &&& 31)).toInt8.toInt32), .int ((u1 >>> ((0 : Int32) &&& 31)).toInt8.toInt32), .int ((u1 >>> ((8 : Int32) &&& 31)).toInt8.toInt32), .int ((u2 >>> ((0 : Int32) &&& 31)).toInt8.toInt32), .int ((u2 >>> ((8 : Int32) &&& 31)).toInt8.toInt32)]) T1393.heap A1403 rfl) own_pd12 rfl rfl (by rw [hml]; rfl) (argsL := [.ref a1400, .int (3 : Int32)]) (st := [.ref a1]) rfl (W := 1) (Nat.le_of_eq rfl) (by decide) (by decide) (by decide) (by decide) (hb hby own_d2_45) (q := 48) rfl (fun T1415 X1416 e1417 => ?_)
  rw [show (own_f19_6_3  : Int32) = (1 : Int32) from rfl]
  refine own_putF X1416 hx hZ hown (host := "") (Or.inl (own_h hw 21 rfl)) Via.refl e1417 F1407 E1405 (Or.inr ⟨(own_h hw 17 rfl), rfl, hnm⟩) (own_h hw 2 rfl) (ty := .byte) (by decide) rfl rfl (hb hby own_d2_48) (q := 51) rfl (fun T1418 h1421 X1419 e1420 W1422 => ?_)
  have G1423 := G1404.wr W1422
  have E1424 := Exa.wr W1422 E1405
  have F1425 := Fld.other W1422 F1406 (Or.inr (slot_ne (C := "java/lang/String") (Or.inr (own_h hw 16 rfl)) (Or.inr (own_h hw 17 rfl)) (by decide) (t := (.array .byte)) (t' := .byte) (by decide) (by decide)))
  have F1426 := Fld.same W1422 F1407
  have V1427 := V1408.other W1422 ne_a2_a1
  have E1428 := Exa.wr W1422 E1402
  have A1429 := A1403.other W1422 (Ne.symm ne1411)
  have K1430 := K1410.wr W1422 (Or.inl (List.mem_of_getElem? (i := 0) rfl))
  have Z1431 : n0 ≤ h1421.size := W1422.size ▸ Z1409
  have N1432 := Fr.snoc X1419 N1399 G_a1
  refine own_aloadN X1419 hx (hb hby own_d2_51) (q := 52) rfl rfl rfl ?_
  refine own_aload X1419 hx (hb hby own_d2_52) (q := 54) rfl rfl rfl ?_
  refine own_putF X1419 hx hZ hown (host := "") (Or.inl (own_h hw 20 rfl)) Via.refl e1420 F1425 E1424 (Or.inr ⟨(own_h hw 16 rfl), rfl, hnm⟩) (own_h hw 2 rfl) (ty := (.array .byte)) (by decide) rfl rfl (hb hby own_d2_54) (q := 57) rfl (fun T1433 h1436 X1434 e1435 W1437 => ?_)
  have G1438 := G1423.wr W1437
  have E1439 := Exa.wr W1437 E1424
  have F1440 := Fld.same W1437 F1425
  have F1441 := Fld.other W1437 F1426 (Or.inr (slot_ne (C := "java/lang/String") (Or.inr (own_h hw 17 rfl)) (Or.inr (own_h hw 16 rfl)) (by decide) (t := .byte) (t' := (.array .byte)) (by decide) (by decide)))
  have V1442 := V1427.other W1437 ne_a2_a1
  have E1443 := Exa.wr W1437 E1428
  have A1444 := A1429.other W1437 (Ne.symm ne1411)
  have K1445 := K1430.wr W1437 (Or.inl (List.mem_of_getElem? (i := 0) rfl))
  have Z1446 : n0 ≤ h1436.size := W1437.size ▸ Z1431
  have N1447 := Fr.snoc X1434 N1432 G_a1
  refine own_retV X1434 hx hlk (rest := []) hret (hb hby own_d2_57) ?_ (by decide) (by decide)
  show own_Q2_3H Z a1 a2 cs G u0 u1 u2 h0 n0 _ T1433.heap _
  rw [e1435]
  exact ⟨a1400, rfl, N1447, K1445, O1414, E1443, A1444, E1439, F1440, F1441, V1442⟩

def own_Q1_3H (Z : State) (a1 : Addr) (a2 : Addr) (cs : Int32) (G : Value) (u0 : Int32) (u1 : Int32) (u2 : Int32) (h0 : Heap) (n0 : Nat) (v : Option Value) (h : Heap) (L : List Loc) : Prop := ∃ ra0 : Addr, v = none ∧ Fr n0 L ∧ Keep h0 h [a1] ∧ h0.size ≤ ra0 ∧ Exa Z h ra0 "[B" ∧ own_A Z h ra0 .byte [.int ((u0 >>> ((0 : Int32) &&& 31)).toInt8.toInt32), .int ((u0 >>> ((8 : Int32) &&& 31)).toInt8.toInt32), .int ((u1 >>> ((0 : Int32) &&& 31)).toInt8.toInt32), .int ((u1 >>> ((8 : Int32) &&& 31)).toInt8.toInt32), .int ((u2 >>> ((0 : Int32) &&& 31)).toInt8.toInt32), .int ((u2 >>> ((8 : Int32) &&& 31)).toInt8.toInt32)] ∧ Exa Z h a1 "java/lang/String" ∧ Fld Z h a1 "java/lang/String" "value" "[B" (.ref ra0) ∧ Fld Z h a1 "java/lang/String" "coder" "B" (.int (1 : Int32)) ∧ own_A Z h a2 .char [.int u0, .int u1, .int u2]
set_option maxRecDepth 65536 in
set_option maxHeartbeats 40000000 in
theorem rm1_3H (l : Launch) (Z : State) (a0 : Array Value) (hw : ∀ d ∈ tables_1, d.before a0 Z = true) (ws : List Jvm.Cond) (a1 : Addr) (a2 : Addr) (cs : Int32) (G : Value) (u0 : Int32) (u1 : Int32) (u2 : Int32) (h0 : Heap) (n0 : Nat) (Z0 : n0 ≤ h0.size) (G0p : own_G Z h0 cs G) (E1p : Exa Z h0 a1 "java/lang/String") (F2p : Fld Z h0 a1 "java/lang/String" "value" "[B" (.null)) (F3p : Fld Z h0 a1 "java/lang/String" "coder" "B" (.int (0 : Int32))) (V4p : own_A Z h0 a2 .char [.int u0, .int u1, .int u2]) (G_a1 : n0 ≤ a1) (ne_a2_a1 : a2 ≠ a1)  (kn0 : ¬ (u0 < (0 : Int32))) (kn1 : ¬ ((65535 : Int32) < u0)) (kn2 : ¬ (u1 < (0 : Int32))) (kn3 : ¬ ((65535 : Int32) < u1)) (kn4 : ¬ (u2 < (0 : Int32))) (kn5 : ¬ ((65535 : Int32) < u2)) (hH : (255 : Int32) < u0 ∨ (255 : Int32) < u1 ∨ (255 : Int32) < u2) :
    own_M l (⟨"java/lang/String", "<init>", "([C)V"⟩ : MethodName) jdk_42_method_3_code 2 none ws ({ frames := 5, cells := 2, slots := 9, locals := 74 } : Room) #[.ref a1, .ref a2] Z h0 (own_Q1_3H Z a1 a2 cs G u0 u1 u2 h0 n0) := by
  refine own_prol (C := "java/lang/String") rfl own_pn5 (fun m => own_ef1 m ..) ?_
  intro p e s m below meth c s₁ hx hby hml hown hnm hlk hret X0 e0 hZ
  have N0 := Fr.nil n0
  have K0 := Keep.refl h0 [a1]
  refine own_aloadN X0 hx (hb hby own_d1_0) (q := 1) rfl rfl rfl ?_
  refine own_aloadN X0 hx (hb hby own_d1_1) (q := 2) rfl rfl rfl ?_
  refine own_iconst X0 hx (v := (0 : Int32)) (hb hby own_d1_2) (q := 3) rfl rfl ?_
  refine own_aloadN X0 hx (hb hby own_d1_3) (q := 4) rfl rfl rfl ?_
  refine own_alen X0 hx hZ (n := (3 : Int32)) e0 V4p rfl (hb hby own_d1_4) (q := 5) rfl ?_
  refine own_aconstNull X0 hx (hb hby own_d1_5) (q := 6) rfl ?_
  refine own_callC X0 hx hZ hown rfl (own_h hw 7 rfl) (own_h hw 8 rfl) (own_h hw 3 rfl) (own_h hw 10 rfl) (by decide) (rm2_3H l Z a0 hw [] a1 a2 cs G u0 u1 u2 h0 n0 Z0 G0p E1p F2p F3p V4p G_a1 ne_a2_a1 kn0 kn1 kn2 kn3 kn4 kn5 hH) own_pd13 rfl e0 (by rw [hml]; rfl) (argsL := [.ref a2, .int (0 : Int32), .int (3 : Int32), .null]) (st := []) rfl (W := 0) (Nat.le_of_eq rfl) (by decide) (by decide) (by decide) (by decide) (hb hby own_d1_6) (q := 9) rfl (fun v1451 T1452 L1453 X1454 hQ1455 => ?_)
  obtain ⟨a1459, rfl, N1456, K1457, O1460, E1461, A1462, E1463, F1464, F1465, A1466⟩ := hQ1455
  have G1467 := G0p.keep K1457 (allS (own_exaPlain E1p) all0)
  have Z1468 : n0 ≤ T1452.heap.size := Nat.le_trans Z0 K1457.1
  have K1469 := K0.trans K1457 (allS (Or.inl (List.mem_of_getElem? (i := 0) rfl)) all0)
  have N1458 := Fr.app N0 N1456
  have ne1470 : a1 ≠ a1459 := Nat.ne_of_lt (Nat.lt_of_lt_of_le E1p.lt O1460)
  have ne1471 : a2 ≠ a1459 := Nat.ne_of_lt (Nat.lt_of_lt_of_le V4p.lt O1460)
  have Z1472 : n0 ≤ a1459 := Nat.le_trans Z0 O1460
  have O1473 : h0.size ≤ a1459 := Nat.le_trans K0.1 O1460
  show own_Go _ _ _ _ (T1452.setTop (mkF m 9 #[.val (.ref a1), .val (.ref a2)] []))
  refine own_retV X1454 hx hlk (rest := []) hret (hb hby own_d1_9) ?_ (by decide) (by decide)
  show own_Q1_3H Z a1 a2 cs G u0 u1 u2 h0 n0 _ T1452.heap _
  exact ⟨a1459, rfl, N1458, K1469, O1473, E1461, A1462, E1463, F1464, F1465, A1466⟩
theorem own_ef6 (m : MethodId) (a1 : Addr) : entryFrame m #[.ref a1] 1 = mkF m 0 #[.val (.ref a1)] [] := by first | (simp [entryFrame, mkF, argsToLocals, Value.category]; done) | rfl
theorem own_d6_0 : decode jdk_42_method_152_code 0 = .ok (.getstatic 38, 3) := by decide +kernel
theorem own_d6_3 : decode jdk_42_method_152_code 3 = .ok (.ifCond .eq 10, 3) := by decide +kernel
theorem own_d6_6 : decode jdk_42_method_152_code 6 = .ok (.aload_n 0, 1) := by decide +kernel
theorem own_d6_7 : decode jdk_42_method_152_code 7 = .ok (.getfield 15, 3) := by decide +kernel
theorem own_d6_10 : decode jdk_42_method_152_code 10 = .ok (.goto 4, 3) := by decide +kernel
theorem own_d6_14 : decode jdk_42_method_152_code 14 = .ok (.ireturn, 1) := by decide +kernel
def own_f6_0 (cs : Int32) : Int32 := (0 : Int32)
set_option maxRecDepth 65536 in
set_option maxHeartbeats 40000000 in
theorem rm6_0 (l : Launch) (Z : State) (a0 : Array Value) (hw : ∀ d ∈ tables_1, d.before a0 Z = true) (ws : List Jvm.Cond) (a1 : Addr) (cs : Int32) (G : Value) (h0 : Heap) (G0p : own_G Z h0 cs G) (F1p : Fld Z h0 a1 "java/lang/String" "coder" "B" (.int (0 : Int32))) :
    own_M l (⟨"java/lang/String", "coder", "()B"⟩ : MethodName) jdk_42_method_152_code 1 (some .byte) ws ({ frames := 0, cells := 0, slots := 0, locals := 0 } : Room) #[.ref a1] Z h0 (own_P (.int (own_f6_0 cs)) h0) := by
  refine own_prol (C := "java/lang/String") rfl own_pn5 (fun m => own_ef6 m ..) ?_
  intro p e s m below meth c s₁ hx hby hml hown hnm hlk hret X0 e0 hZ
  refine own_getS X0 hx hZ hown (own_h hw 39 rfl) Via.refl e0 G0p.2.2.1 (hb hby own_d6_0) (q := 3) rfl (fun T1474 X1475 e1476 => ?_)
  refine own_if0P X1475 hx (hb hby own_d6_3) (cd := .eq) (x := cs) (pt := 13) (q := 6) (by decide) (by decide) rfl rfl (fun h => False.elim ((G0p.1 : ¬ (cs = (0 : Int32))) h)) (fun _ => ?_)
  refine own_aloadN X1475 hx (hb hby own_d6_6) (q := 7) rfl rfl rfl ?_
  refine own_getF X1475 hx hZ hown (host := "") (Or.inl (own_h hw 21 rfl)) Via.refl e1476 F1p (hb hby own_d6_7) (q := 10) rfl (fun T1477 X1478 e1479 => ?_)
  refine own_goto X1478 hx (hb hby own_d6_10) (q := 14) (by decide) (by decide) ?_
  refine own_retN X1478 hx hlk (t := .byte) (by simp) hret (hb hby own_d6_14) ?_ (by decide) (by decide)
  have r : own_f6_0 cs = (0 : Int32) := by rw [own_f6_0]
  exact ⟨by rw [r] <;> rfl, e1479, rfl⟩
theorem own_ef21 (m : MethodId) (a1 : Addr) : entryFrame m #[.ref a1] 1 = mkF m 0 #[.val (.ref a1)] [] := by first | (simp [entryFrame, mkF, argsToLocals, Value.category]; done) | rfl
theorem own_d21_0 : decode jdk_42_method_154_code 0 = .ok (.getstatic 38, 3) := by decide +kernel
theorem own_d21_3 : decode jdk_42_method_154_code 3 = .ok (.ifCond .eq 14, 3) := by decide +kernel
theorem own_d21_6 : decode jdk_42_method_154_code 6 = .ok (.aload_n 0, 1) := by decide +kernel
theorem own_d21_7 : decode jdk_42_method_154_code 7 = .ok (.getfield 15, 3) := by decide +kernel
theorem own_d21_10 : decode jdk_42_method_154_code 10 = .ok (.ifCond .ne 7, 3) := by decide +kernel
theorem own_d21_13 : decode jdk_42_method_154_code 13 = .ok (.iconst 1, 1) := by decide +kernel
theorem own_d21_14 : decode jdk_42_method_154_code 14 = .ok (.goto 4, 3) := by decide +kernel
theorem own_d21_18 : decode jdk_42_method_154_code 18 = .ok (.ireturn, 1) := by decide +kernel
def own_f21_0 (cs : Int32) : Int32 := (1 : Int32)
set_option maxRecDepth 65536 in
set_option maxHeartbeats 40000000 in
theorem rm21_0 (l : Launch) (Z : State) (a0 : Array Value) (hw : ∀ d ∈ tables_1, d.before a0 Z = true) (ws : List Jvm.Cond) (a1 : Addr) (cs : Int32) (G : Value) (h0 : Heap) (G0p : own_G Z h0 cs G) (F1p : Fld Z h0 a1 "java/lang/String" "coder" "B" (.int (0 : Int32))) :
    own_M l (⟨"java/lang/String", "isLatin1", "()Z"⟩ : MethodName) jdk_42_method_154_code 1 (some .boolean) ws ({ frames := 0, cells := 0, slots := 0, locals := 0 } : Room) #[.ref a1] Z h0 (own_P (.int (own_f21_0 cs)) h0) := by
  refine own_prol (C := "java/lang/String") rfl own_pn5 (fun m => own_ef21 m ..) ?_
  intro p e s m below meth c s₁ hx hby hml hown hnm hlk hret X0 e0 hZ
  refine own_getS X0 hx hZ hown (own_h hw 39 rfl) Via.refl e0 G0p.2.2.1 (hb hby own_d21_0) (q := 3) rfl (fun T1480 X1481 e1482 => ?_)
  refine own_if0P X1481 hx (hb hby own_d21_3) (cd := .eq) (x := cs) (pt := 17) (q := 6) (by decide) (by decide) rfl rfl (fun h => False.elim ((G0p.1 : ¬ (cs = (0 : Int32))) h)) (fun _ => ?_)
  refine own_aloadN X1481 hx (hb hby own_d21_6) (q := 7) rfl rfl rfl ?_
  refine own_getF X1481 hx hZ hown (host := "") (Or.inl (own_h hw 21 rfl)) Via.refl e1482 F1p (hb hby own_d21_7) (q := 10) rfl (fun T1483 X1484 e1485 => ?_)
  refine own_if0M X1484 hx (hb hby own_d21_10) (cd := .ne) (x := (0 : Int32)) (pt := 17) (q := 13) (by decide) (by decide) rfl rfl (fun h => False.elim (h ((by decide) : (0 : Int32) = (0 : Int32)))) (fun _ => ?_)
  refine own_iconst X1484 hx (v := (1 : Int32)) (hb hby own_d21_13) (q := 14) rfl rfl ?_
  refine own_goto X1484 hx (hb hby own_d21_14) (q := 18) (by decide) (by decide) ?_
  refine own_retN X1484 hx hlk (t := .boolean) (by simp) hret (hb hby own_d21_18) ?_ (by decide) (by decide)
  have r : own_f21_0 cs = (1 : Int32) := by rw [own_f21_0]
  exact ⟨by rw [r] <;> rfl, e1485, rfl⟩

def own_f6_1 (cs : Int32) : Int32 := (1 : Int32)
set_option maxRecDepth 65536 in
set_option maxHeartbeats 40000000 in
theorem rm6_1 (l : Launch) (Z : State) (a0 : Array Value) (hw : ∀ d ∈ tables_1, d.before a0 Z = true) (ws : List Jvm.Cond) (a1 : Addr) (cs : Int32) (G : Value) (h0 : Heap) (G0p : own_G Z h0 cs G) (F1p : Fld Z h0 a1 "java/lang/String" "coder" "B" (.int (1 : Int32))) :
    own_M l (⟨"java/lang/String", "coder", "()B"⟩ : MethodName) jdk_42_method_152_code 1 (some .byte) ws ({ frames := 0, cells := 0, slots := 0, locals := 0 } : Room) #[.ref a1] Z h0 (own_P (.int (own_f6_1 cs)) h0) := by
  refine own_prol (C := "java/lang/String") rfl own_pn5 (fun m => own_ef6 m ..) ?_
  intro p e s m below meth c s₁ hx hby hml hown hnm hlk hret X0 e0 hZ
  refine own_getS X0 hx hZ hown (own_h hw 39 rfl) Via.refl e0 G0p.2.2.1 (hb hby own_d6_0) (q := 3) rfl (fun T1486 X1487 e1488 => ?_)
  refine own_if0P X1487 hx (hb hby own_d6_3) (cd := .eq) (x := cs) (pt := 13) (q := 6) (by decide) (by decide) rfl rfl (fun h => False.elim ((G0p.1 : ¬ (cs = (0 : Int32))) h)) (fun _ => ?_)
  refine own_aloadN X1487 hx (hb hby own_d6_6) (q := 7) rfl rfl rfl ?_
  refine own_getF X1487 hx hZ hown (host := "") (Or.inl (own_h hw 21 rfl)) Via.refl e1488 F1p (hb hby own_d6_7) (q := 10) rfl (fun T1489 X1490 e1491 => ?_)
  refine own_goto X1490 hx (hb hby own_d6_10) (q := 14) (by decide) (by decide) ?_
  refine own_retN X1490 hx hlk (t := .byte) (by simp) hret (hb hby own_d6_14) ?_ (by decide) (by decide)
  have r : own_f6_1 cs = (1 : Int32) := by rw [own_f6_1]
  exact ⟨by rw [r] <;> rfl, e1491, rfl⟩
theorem own_d21_17 : decode jdk_42_method_154_code 17 = .ok (.iconst 0, 1) := by decide +kernel
def own_f21_1 (cs : Int32) : Int32 := (0 : Int32)
set_option maxRecDepth 65536 in
set_option maxHeartbeats 40000000 in
theorem rm21_1 (l : Launch) (Z : State) (a0 : Array Value) (hw : ∀ d ∈ tables_1, d.before a0 Z = true) (ws : List Jvm.Cond) (a1 : Addr) (cs : Int32) (G : Value) (h0 : Heap) (G0p : own_G Z h0 cs G) (F1p : Fld Z h0 a1 "java/lang/String" "coder" "B" (.int (1 : Int32))) :
    own_M l (⟨"java/lang/String", "isLatin1", "()Z"⟩ : MethodName) jdk_42_method_154_code 1 (some .boolean) ws ({ frames := 0, cells := 0, slots := 0, locals := 0 } : Room) #[.ref a1] Z h0 (own_P (.int (own_f21_1 cs)) h0) := by
  refine own_prol (C := "java/lang/String") rfl own_pn5 (fun m => own_ef21 m ..) ?_
  intro p e s m below meth c s₁ hx hby hml hown hnm hlk hret X0 e0 hZ
  refine own_getS X0 hx hZ hown (own_h hw 39 rfl) Via.refl e0 G0p.2.2.1 (hb hby own_d21_0) (q := 3) rfl (fun T1492 X1493 e1494 => ?_)
  refine own_if0P X1493 hx (hb hby own_d21_3) (cd := .eq) (x := cs) (pt := 17) (q := 6) (by decide) (by decide) rfl rfl (fun h => False.elim ((G0p.1 : ¬ (cs = (0 : Int32))) h)) (fun _ => ?_)
  refine own_aloadN X1493 hx (hb hby own_d21_6) (q := 7) rfl rfl rfl ?_
  refine own_getF X1493 hx hZ hown (host := "") (Or.inl (own_h hw 21 rfl)) Via.refl e1494 F1p (hb hby own_d21_7) (q := 10) rfl (fun T1495 X1496 e1497 => ?_)
  refine own_if0M X1496 hx (hb hby own_d21_10) (cd := .ne) (x := (1 : Int32)) (pt := 17) (q := 13) (by decide) (by decide) rfl rfl (fun _ => ?_) (fun h => False.elim (((by decide) : ¬ ((1 : Int32) = (0 : Int32))) h))
  refine own_iconst X1496 hx (v := (0 : Int32)) (hb hby own_d21_17) (q := 18) rfl rfl ?_
  refine own_retN X1496 hx hlk (t := .boolean) (by simp) hret (hb hby own_d21_18) ?_ (by decide) (by decide)
  have r : own_f21_1 cs = (0 : Int32) := by rw [own_f21_1]
  exact ⟨by rw [r] <;> rfl, e1497, rfl⟩
theorem own_pd14 : parseMethodDescriptor "()B" = some ⟨[], some .byte⟩ := by decide +kernel
theorem own_ef5 (m : MethodId) (a1 : Addr) : entryFrame m #[.ref a1] 1 = mkF m 0 #[.val (.ref a1)] [] := by first | (simp [entryFrame, mkF, argsToLocals, Value.category]; done) | rfl
theorem own_d5_0 : decode jdk_42_method_54_code 0 = .ok (.aload_n 0, 1) := by decide +kernel
theorem own_d5_1 : decode jdk_42_method_54_code 1 = .ok (.getfield 9, 3) := by decide +kernel
theorem own_d5_4 : decode jdk_42_method_54_code 4 = .ok (.arraylength, 1) := by decide +kernel
theorem own_d5_5 : decode jdk_42_method_54_code 5 = .ok (.aload_n 0, 1) := by decide +kernel
theorem own_d5_6 : decode jdk_42_method_54_code 6 = .ok (.invokevirtual 335, 3) := by decide +kernel
theorem own_d5_9 : decode jdk_42_method_54_code 9 = .ok (.ishr, 1) := by decide +kernel
theorem own_d5_10 : decode jdk_42_method_54_code 10 = .ok (.ireturn, 1) := by decide +kernel
def own_f5_0 (cs : Int32) (nn : Int32) : Int32 := nn >>> ((0 : Int32) &&& 31)
set_option maxRecDepth 65536 in
set_option maxHeartbeats 40000000 in
theorem rm5_0 (l : Launch) (Z : State) (a0 : Array Value) (hw : ∀ d ∈ tables_1, d.before a0 Z = true) (ws : List Jvm.Cond) (a1 : Addr) (cs : Int32) (G : Value) (b1 : Addr) (vs : List Value) (nn : Int32) (h0 : Heap) (G0p : own_G Z h0 cs G) (E1p : Exa Z h0 a1 "java/lang/String") (F2p : Fld Z h0 a1 "java/lang/String" "value" "[B" (.ref b1)) (F3p : Fld Z h0 a1 "java/lang/String" "coder" "B" (.int (0 : Int32))) (V4p : own_A Z h0 b1 .byte vs) (hl_vs : vs.length.toInt32 = nn)  :
    own_M l (⟨"java/lang/String", "length", "()I"⟩ : MethodName) jdk_42_method_54_code 1 (some .int) ws ({ frames := 1, cells := 0, slots := 0, locals := 13 } : Room) #[.ref a1] Z h0 (own_P (.int (own_f5_0 cs nn)) h0) := by
  refine own_prol (C := "java/lang/String") rfl own_pn5 (fun m => own_ef5 m ..) ?_
  intro p e s m below meth c s₁ hx hby hml hown hnm hlk hret X0 e0 hZ
  refine own_aloadN X0 hx (hb hby own_d5_0) (q := 1) rfl rfl rfl ?_
  refine own_getF X0 hx hZ hown (host := "") (Or.inl (own_h hw 20 rfl)) Via.refl e0 F2p (hb hby own_d5_1) (q := 4) rfl (fun T1498 X1499 e1500 => ?_)
  refine own_alen X1499 hx hZ (n := nn) e1500 V4p hl_vs (hb hby own_d5_4) (q := 5) rfl ?_
  refine own_aloadN X1499 hx (hb hby own_d5_5) (q := 6) rfl rfl rfl ?_
  refine own_callVP X1499 hx hZ hown (own_h hw 34 rfl) (own_h hw 35 rfl) (own_h hw 37 rfl) (own_h hw 37 rfl) (own_h hw 36 rfl) (own_h hw 3 rfl) (own_h hw 38 rfl) E1p (by decide) (rm6_0 l Z a0 hw [] a1 cs G h0 G0p F3p) own_pd14 rfl e1500 (by rw [hml]; rfl) (argsL := []) (st := [.int nn]) rfl (W := 1) (Nat.le_of_eq rfl) (by decide) (by decide) (by decide) (by decide) (hb hby own_d5_6) (q := 9) rfl (fun T1501 X1502 e1503 => ?_)
  rw [show (own_f6_0 cs : Int32) = (0 : Int32) from rfl]
  refine own_ishr X1502 hx (hb hby own_d5_9) (q := 10) rfl ?_
  refine own_retI X1502 hx hlk hret (hb hby own_d5_10) ?_ (by decide) (by decide)
  have r : own_f5_0 cs nn = nn >>> ((0 : Int32) &&& 31) := by rw [own_f5_0]
  exact ⟨by rw [r] <;> rfl, e1503, rfl⟩

def own_f5_1 (cs : Int32) (nn : Int32) : Int32 := nn >>> ((1 : Int32) &&& 31)
set_option maxRecDepth 65536 in
set_option maxHeartbeats 40000000 in
theorem rm5_1 (l : Launch) (Z : State) (a0 : Array Value) (hw : ∀ d ∈ tables_1, d.before a0 Z = true) (ws : List Jvm.Cond) (a1 : Addr) (cs : Int32) (G : Value) (b1 : Addr) (vs : List Value) (nn : Int32) (h0 : Heap) (G0p : own_G Z h0 cs G) (E1p : Exa Z h0 a1 "java/lang/String") (F2p : Fld Z h0 a1 "java/lang/String" "value" "[B" (.ref b1)) (F3p : Fld Z h0 a1 "java/lang/String" "coder" "B" (.int (1 : Int32))) (V4p : own_A Z h0 b1 .byte vs) (hl_vs : vs.length.toInt32 = nn)  :
    own_M l (⟨"java/lang/String", "length", "()I"⟩ : MethodName) jdk_42_method_54_code 1 (some .int) ws ({ frames := 1, cells := 0, slots := 0, locals := 13 } : Room) #[.ref a1] Z h0 (own_P (.int (own_f5_1 cs nn)) h0) := by
  refine own_prol (C := "java/lang/String") rfl own_pn5 (fun m => own_ef5 m ..) ?_
  intro p e s m below meth c s₁ hx hby hml hown hnm hlk hret X0 e0 hZ
  refine own_aloadN X0 hx (hb hby own_d5_0) (q := 1) rfl rfl rfl ?_
  refine own_getF X0 hx hZ hown (host := "") (Or.inl (own_h hw 20 rfl)) Via.refl e0 F2p (hb hby own_d5_1) (q := 4) rfl (fun T1504 X1505 e1506 => ?_)
  refine own_alen X1505 hx hZ (n := nn) e1506 V4p hl_vs (hb hby own_d5_4) (q := 5) rfl ?_
  refine own_aloadN X1505 hx (hb hby own_d5_5) (q := 6) rfl rfl rfl ?_
  refine own_callVP X1505 hx hZ hown (own_h hw 34 rfl) (own_h hw 35 rfl) (own_h hw 37 rfl) (own_h hw 37 rfl) (own_h hw 36 rfl) (own_h hw 3 rfl) (own_h hw 38 rfl) E1p (by decide) (rm6_1 l Z a0 hw [] a1 cs G h0 G0p F3p) own_pd14 rfl e1506 (by rw [hml]; rfl) (argsL := []) (st := [.int nn]) rfl (W := 1) (Nat.le_of_eq rfl) (by decide) (by decide) (by decide) (by decide) (hb hby own_d5_6) (q := 9) rfl (fun T1507 X1508 e1509 => ?_)
  rw [show (own_f6_1 cs : Int32) = (1 : Int32) from rfl]
  refine own_ishr X1508 hx (hb hby own_d5_9) (q := 10) rfl ?_
  refine own_retI X1508 hx hlk hret (hb hby own_d5_10) ?_ (by decide) (by decide)
  have r : own_f5_1 cs nn = nn >>> ((1 : Int32) &&& 31) := by rw [own_f5_1]
  exact ⟨by rw [r] <;> rfl, e1509, rfl⟩
theorem own_ef22 (m : MethodId) (a1 : Addr) (p2 : Int32) : entryFrame m #[.ref a1, .int p2] 2 = mkF m 0 #[.val (.ref a1), .val (.int p2)] [] := by first | (simp [entryFrame, mkF, argsToLocals, Value.category]; done) | rfl
theorem own_d22_0 : decode jdk_43_method_2_code 0 = .ok (.iload_n 1, 1) := by decide +kernel
theorem own_d22_1 : decode jdk_43_method_2_code 1 = .ok (.aload_n 0, 1) := by decide +kernel
theorem own_d22_2 : decode jdk_43_method_2_code 2 = .ok (.arraylength, 1) := by decide +kernel
theorem own_d22_3 : decode jdk_43_method_2_code 3 = .ok (.invokestatic 9, 3) := by decide +kernel
theorem own_d22_6 : decode jdk_43_method_2_code 6 = .ok (.aload_n 0, 1) := by decide +kernel
theorem own_d22_7 : decode jdk_43_method_2_code 7 = .ok (.iload_n 1, 1) := by decide +kernel
theorem own_d22_8 : decode jdk_43_method_2_code 8 = .ok (.baload, 1) := by decide +kernel
theorem own_d22_9 : decode jdk_43_method_2_code 9 = .ok (.sipush 255, 3) := by decide +kernel
theorem own_d22_12 : decode jdk_43_method_2_code 12 = .ok (.iand, 1) := by decide +kernel
theorem own_d22_13 : decode jdk_43_method_2_code 13 = .ok (.i2c, 1) := by decide +kernel
theorem own_d22_14 : decode jdk_43_method_2_code 14 = .ok (.ireturn, 1) := by decide +kernel
def own_f22 (p2 : Int32) (cs : Int32) (nn : Int32) (y0 : Int32) : Int32 := nar .char ((y0 &&& (255 : Int32)).toUInt32.toUInt16.toUInt32.toInt32)
set_option maxRecDepth 65536 in
set_option maxHeartbeats 40000000 in
theorem rm22 (l : Launch) (Z : State) (a0 : Array Value) (hw : ∀ d ∈ tables_1, d.before a0 Z = true) (ws : List Jvm.Cond) (a1 : Addr) (p2 : Int32) (cs : Int32) (G : Value) (vs : List Value) (nn : Int32) (y0 : Int32) (h0 : Heap) (G0p : own_G Z h0 cs G) (V1p : own_A Z h0 a1 .byte vs) (kn0 : ¬ (p2 < (0 : Int32))) (kn1 : p2 < nn) (hl_vs : vs.length.toInt32 = nn) (g0 : vs[p2.toNatClampNeg]? = some (.int y0))  :
    own_M l (⟨"java/lang/StringLatin1", "charAt", "([BI)C"⟩ : MethodName) jdk_43_method_2_code 2 (some .char) ws ({ frames := 2, cells := 0, slots := 0, locals := 27 } : Room) #[.ref a1, .int p2] Z h0 (own_P (.int (own_f22 p2 cs nn y0)) h0) := by
  refine own_prol (C := "java/lang/StringLatin1") rfl own_pn0 (fun m => own_ef22 m ..) ?_
  intro p e s m below meth c s₁ hx hby hml hown hnm hlk hret X0 e0 hZ
  refine own_iloadN X0 hx (hb hby own_d22_0) (q := 1) rfl rfl ?_
  refine own_aloadN X0 hx (hb hby own_d22_1) (q := 2) rfl rfl rfl ?_
  refine own_alen X0 hx hZ (n := nn) e0 V1p hl_vs (hb hby own_d22_2) (q := 3) rfl ?_
  refine own_callSV X0 hx hZ hown (own_h hw 126 rfl) (own_h hw 127 rfl) (own_h hw 3 rfl) (own_h hw 128 rfl) (by decide) (rm23 l Z a0 hw [] p2 nn cs G h0 G0p kn0 kn1) own_pd3 rfl e0 (by rw [hml]; rfl) (argsL := [.int p2, .int nn]) (st := []) rfl (W := 0) (Nat.le_of_eq rfl) (by decide) (by decide) (by decide) (by decide) (hb hby own_d22_3) (q := 6) rfl (fun T1513 X1514 e1515 => ?_)
  refine own_aloadN X1514 hx (hb hby own_d22_6) (q := 7) rfl rfl rfl ?_
  refine own_iloadN X1514 hx (hb hby own_d22_7) (q := 8) rfl rfl ?_
  refine own_baload X1514 hx hZ (i := p2.toNatClampNeg) (v := .int y0) e1515 V1p kn0 rfl g0 (hb hby own_d22_8) (q := 9) rfl ?_
  refine own_sipush X1514 hx (v := (255 : Int32)) (hb hby own_d22_9) (q := 12) rfl rfl ?_
  refine own_iand X1514 hx (hb hby own_d22_12) (q := 13) rfl ?_
  refine own_i2c X1514 hx (hb hby own_d22_13) (q := 14) rfl ?_
  refine own_retN X1514 hx hlk (t := .char) (by simp) hret (hb hby own_d22_14) ?_ (by decide) (by decide)
  have r : own_f22 p2 cs nn y0 = nar .char ((y0 &&& (255 : Int32)).toUInt32.toUInt16.toUInt32.toInt32) := by rw [own_f22]
  exact ⟨by rw [r] <;> rfl, e1515, rfl⟩
theorem own_pd15 : parseMethodDescriptor "()Z" = some ⟨[], some .boolean⟩ := by decide +kernel
theorem own_ef20 (m : MethodId) (a1 : Addr) (p2 : Int32) : entryFrame m #[.ref a1, .int p2] 2 = mkF m 0 #[.val (.ref a1), .val (.int p2)] [] := by first | (simp [entryFrame, mkF, argsToLocals, Value.category]; done) | rfl
theorem own_d20_0 : decode jdk_42_method_56_code 0 = .ok (.aload_n 0, 1) := by decide +kernel
theorem own_d20_1 : decode jdk_42_method_56_code 1 = .ok (.invokevirtual 492, 3) := by decide +kernel
theorem own_d20_4 : decode jdk_42_method_56_code 4 = .ok (.ifCond .eq 12, 3) := by decide +kernel
theorem own_d20_7 : decode jdk_42_method_56_code 7 = .ok (.aload_n 0, 1) := by decide +kernel
theorem own_d20_8 : decode jdk_42_method_56_code 8 = .ok (.getfield 9, 3) := by decide +kernel
theorem own_d20_11 : decode jdk_42_method_56_code 11 = .ok (.iload_n 1, 1) := by decide +kernel
theorem own_d20_12 : decode jdk_42_method_56_code 12 = .ok (.invokestatic 495, 3) := by decide +kernel
theorem own_d20_15 : decode jdk_42_method_56_code 15 = .ok (.ireturn, 1) := by decide +kernel
def own_f20_0 (p2 : Int32) (cs : Int32) (nn : Int32) (y0 : Int32) : Int32 := nar .char (own_f22 p2 cs nn y0)
set_option maxRecDepth 65536 in
set_option maxHeartbeats 40000000 in
theorem rm20_0 (l : Launch) (Z : State) (a0 : Array Value) (hw : ∀ d ∈ tables_1, d.before a0 Z = true) (ws : List Jvm.Cond) (a1 : Addr) (p2 : Int32) (cs : Int32) (G : Value) (b1 : Addr) (vs : List Value) (nn : Int32) (y0 : Int32) (h0 : Heap) (G0p : own_G Z h0 cs G) (E1p : Exa Z h0 a1 "java/lang/String") (F2p : Fld Z h0 a1 "java/lang/String" "value" "[B" (.ref b1)) (F3p : Fld Z h0 a1 "java/lang/String" "coder" "B" (.int (0 : Int32))) (V4p : own_A Z h0 b1 .byte vs) (kn0 : ¬ (p2 < (0 : Int32))) (kn1 : p2 < nn) (hl_vs : vs.length.toInt32 = nn) (g0 : vs[p2.toNatClampNeg]? = some (.int y0))  :
    own_M l (⟨"java/lang/String", "charAt", "(I)C"⟩ : MethodName) jdk_42_method_56_code 2 (some .char) ws ({ frames := 3, cells := 0, slots := 0, locals := 40 } : Room) #[.ref a1, .int p2] Z h0 (own_P (.int (own_f20_0 p2 cs nn y0)) h0) := by
  refine own_prol (C := "java/lang/String") rfl own_pn5 (fun m => own_ef20 m ..) ?_
  intro p e s m below meth c s₁ hx hby hml hown hnm hlk hret X0 e0 hZ
  refine own_aloadN X0 hx (hb hby own_d20_0) (q := 1) rfl rfl rfl ?_
  refine own_callVP X0 hx hZ hown (own_h hw 117 rfl) (own_h hw 118 rfl) (own_h hw 120 rfl) (own_h hw 120 rfl) (own_h hw 119 rfl) (own_h hw 3 rfl) (own_h hw 121 rfl) E1p (by decide) (rm21_0 l Z a0 hw [] a1 cs G h0 G0p F3p) own_pd15 rfl e0 (by rw [hml]; rfl) (argsL := []) (st := []) rfl (W := 0) (Nat.le_of_eq rfl) (by decide) (by decide) (by decide) (by decide) (hb hby own_d20_1) (q := 4) rfl (fun T1516 X1517 e1518 => ?_)
  rw [show (own_f21_0 cs : Int32) = (1 : Int32) from rfl]
  refine own_if0P X1517 hx (hb hby own_d20_4) (cd := .eq) (x := (1 : Int32)) (pt := 16) (q := 7) (by decide) (by decide) rfl rfl (fun h => False.elim (((by decide) : ¬ ((1 : Int32) = (0 : Int32))) h)) (fun _ => ?_)
  refine own_aloadN X1517 hx (hb hby own_d20_7) (q := 8) rfl rfl rfl ?_
  refine own_getF X1517 hx hZ hown (host := "") (Or.inl (own_h hw 20 rfl)) Via.refl e1518 F2p (hb hby own_d20_8) (q := 11) rfl (fun T1519 X1520 e1521 => ?_)
  refine own_iloadN X1520 hx (hb hby own_d20_11) (q := 12) rfl rfl ?_
  refine own_callSP X1520 hx hZ hown (own_h hw 122 rfl) (own_h hw 123 rfl) (own_h hw 124 rfl) (own_h hw 125 rfl) (by decide) (rm22 l Z a0 hw [] b1 p2 cs G vs nn y0 h0 G0p V4p kn0 kn1 hl_vs g0) own_pd11 rfl e1521 (by rw [hml]; rfl) (argsL := [.ref b1, .int p2]) (st := []) rfl (W := 0) (Nat.le_of_eq rfl) (by decide) (by decide) (by decide) (by decide) (hb hby own_d20_12) (q := 15) rfl (fun T1522 X1523 e1524 => ?_)
  refine own_retN X1523 hx hlk (t := .char) (by simp) hret (hb hby own_d20_15) ?_ (by decide) (by decide)
  have r : own_f20_0 p2 cs nn y0 = nar .char (own_f22 p2 cs nn y0) := by rw [own_f20_0]
  exact ⟨by rw [r] <;> rfl, e1524, rfl⟩
theorem own_ef36 (m : MethodId) (a1 : Addr) (p2 : Int32) : entryFrame m #[.ref a1, .int p2] 2 = mkF m 0 #[.val (.ref a1), .val (.int p2)] [] := by first | (simp [entryFrame, mkF, argsToLocals, Value.category]; done) | rfl
theorem own_d36_0 : decode jdk_52_method_83_code 0 = .ok (.iload_n 1, 1) := by decide +kernel
theorem own_d36_1 : decode jdk_52_method_83_code 1 = .ok (.aload_n 0, 1) := by decide +kernel
theorem own_d36_2 : decode jdk_52_method_83_code 2 = .ok (.invokestatic 67, 3) := by decide +kernel
theorem own_d36_5 : decode jdk_52_method_83_code 5 = .ok (.aload_n 0, 1) := by decide +kernel
theorem own_d36_6 : decode jdk_52_method_83_code 6 = .ok (.iload_n 1, 1) := by decide +kernel
theorem own_d36_7 : decode jdk_52_method_83_code 7 = .ok (.invokestatic 71, 3) := by decide +kernel
theorem own_d36_10 : decode jdk_52_method_83_code 10 = .ok (.ireturn, 1) := by decide +kernel
def own_f36 (p2 : Int32) (cs : Int32) (nn : Int32) (y0 : Int32) (y1 : Int32) : Int32 := nar .char (own_f35 p2 cs y0 y1)
set_option maxRecDepth 65536 in
set_option maxHeartbeats 40000000 in
theorem rm36 (l : Launch) (Z : State) (a0 : Array Value) (hw : ∀ d ∈ tables_1, d.before a0 Z = true) (ws : List Jvm.Cond) (a1 : Addr) (p2 : Int32) (cs : Int32) (G : Value) (vs : List Value) (nn : Int32) (y0 : Int32) (y1 : Int32) (h0 : Heap) (G0p : own_G Z h0 cs G) (V1p : own_A Z h0 a1 .byte vs) (kn0 : ¬ (p2 < (0 : Int32))) (kn1 : p2 < (own_f38 nn)) (hl_vs : vs.length.toInt32 = nn) (q0 : ¬ (p2 <<< ((1 : Int32) &&& 31)) < 0) (q1 : ¬ ((p2 <<< ((1 : Int32) &&& 31)) + (1 : Int32)) < 0) (g0 : vs[(p2 <<< ((1 : Int32) &&& 31)).toNatClampNeg]? = some (.int y0)) (g1 : vs[((p2 <<< ((1 : Int32) &&& 31)) + (1 : Int32)).toNatClampNeg]? = some (.int y1))  :
    own_M l (⟨"java/lang/StringUTF16", "charAt", "([BI)C"⟩ : MethodName) jdk_52_method_83_code 2 (some .char) ws ({ frames := 3, cells := 0, slots := 0, locals := 40 } : Room) #[.ref a1, .int p2] Z h0 (own_P (.int (own_f36 p2 cs nn y0 y1)) h0) := by
  refine own_prol (C := "java/lang/StringUTF16") rfl own_pn10 (fun m => own_ef36 m ..) ?_
  intro p e s m below meth c s₁ hx hby hml hown hnm hlk hret X0 e0 hZ
  refine own_iloadN X0 hx (hb hby own_d36_0) (q := 1) rfl rfl ?_
  refine own_aloadN X0 hx (hb hby own_d36_1) (q := 2) rfl rfl rfl ?_
  refine own_callSV X0 hx hZ hown (own_h hw 182 rfl) (own_h hw 183 rfl) (own_h hw 104 rfl) (own_h hw 184 rfl) (by decide) (rm37 l Z a0 hw [] p2 a1 cs G vs nn h0 G0p V1p kn0 kn1 hl_vs) own_pd5 rfl e0 (by rw [hml]; rfl) (argsL := [.int p2, .ref a1]) (st := []) rfl (W := 0) (Nat.le_of_eq rfl) (by decide) (by decide) (by decide) (by decide) (hb hby own_d36_2) (q := 5) rfl (fun T1528 X1529 e1530 => ?_)
  refine own_aloadN X1529 hx (hb hby own_d36_5) (q := 6) rfl rfl rfl ?_
  refine own_iloadN X1529 hx (hb hby own_d36_6) (q := 7) rfl rfl ?_
  refine own_callSP X1529 hx hZ hown (own_h hw 176 rfl) (own_h hw 177 rfl) (own_h hw 104 rfl) (own_h hw 178 rfl) (by decide) (rm35 l Z a0 hw [] a1 p2 cs G vs y0 y1 h0 G0p V1p q0 q1 g0 g1) own_pd11 rfl e1530 (by rw [hml]; rfl) (argsL := [.ref a1, .int p2]) (st := []) rfl (W := 0) (Nat.le_of_eq rfl) (by decide) (by decide) (by decide) (by decide) (hb hby own_d36_7) (q := 10) rfl (fun T1531 X1532 e1533 => ?_)
  refine own_retN X1532 hx hlk (t := .char) (by simp) hret (hb hby own_d36_10) ?_ (by decide) (by decide)
  have r : own_f36 p2 cs nn y0 y1 = nar .char (own_f35 p2 cs y0 y1) := by rw [own_f36]
  exact ⟨by rw [r] <;> rfl, e1533, rfl⟩
theorem own_d20_16 : decode jdk_42_method_56_code 16 = .ok (.aload_n 0, 1) := by decide +kernel
theorem own_d20_17 : decode jdk_42_method_56_code 17 = .ok (.getfield 9, 3) := by decide +kernel
theorem own_d20_20 : decode jdk_42_method_56_code 20 = .ok (.iload_n 1, 1) := by decide +kernel
theorem own_d20_21 : decode jdk_42_method_56_code 21 = .ok (.invokestatic 498, 3) := by decide +kernel
theorem own_d20_24 : decode jdk_42_method_56_code 24 = .ok (.ireturn, 1) := by decide +kernel
def own_f20_1 (p2 : Int32) (cs : Int32) (nn : Int32) (y0 : Int32) (y1 : Int32) : Int32 := nar .char (own_f36 p2 cs nn y0 y1)
set_option maxRecDepth 65536 in
set_option maxHeartbeats 40000000 in
theorem rm20_1 (l : Launch) (Z : State) (a0 : Array Value) (hw : ∀ d ∈ tables_1, d.before a0 Z = true) (ws : List Jvm.Cond) (a1 : Addr) (p2 : Int32) (cs : Int32) (G : Value) (b1 : Addr) (vs : List Value) (nn : Int32) (y0 : Int32) (y1 : Int32) (h0 : Heap) (G0p : own_G Z h0 cs G) (E1p : Exa Z h0 a1 "java/lang/String") (F2p : Fld Z h0 a1 "java/lang/String" "value" "[B" (.ref b1)) (F3p : Fld Z h0 a1 "java/lang/String" "coder" "B" (.int (1 : Int32))) (V4p : own_A Z h0 b1 .byte vs) (kn0 : ¬ (p2 < (0 : Int32))) (kn1 : p2 < (own_f38 nn)) (hl_vs : vs.length.toInt32 = nn) (q0 : ¬ (p2 <<< ((1 : Int32) &&& 31)) < 0) (q1 : ¬ ((p2 <<< ((1 : Int32) &&& 31)) + (1 : Int32)) < 0) (g0 : vs[(p2 <<< ((1 : Int32) &&& 31)).toNatClampNeg]? = some (.int y0)) (g1 : vs[((p2 <<< ((1 : Int32) &&& 31)) + (1 : Int32)).toNatClampNeg]? = some (.int y1))  :
    own_M l (⟨"java/lang/String", "charAt", "(I)C"⟩ : MethodName) jdk_42_method_56_code 2 (some .char) ws ({ frames := 4, cells := 0, slots := 0, locals := 53 } : Room) #[.ref a1, .int p2] Z h0 (own_P (.int (own_f20_1 p2 cs nn y0 y1)) h0) := by
  refine own_prol (C := "java/lang/String") rfl own_pn5 (fun m => own_ef20 m ..) ?_
  intro p e s m below meth c s₁ hx hby hml hown hnm hlk hret X0 e0 hZ
  refine own_aloadN X0 hx (hb hby own_d20_0) (q := 1) rfl rfl rfl ?_
  refine own_callVP X0 hx hZ hown (own_h hw 117 rfl) (own_h hw 118 rfl) (own_h hw 120 rfl) (own_h hw 120 rfl) (own_h hw 119 rfl) (own_h hw 3 rfl) (own_h hw 121 rfl) E1p (by decide) (rm21_1 l Z a0 hw [] a1 cs G h0 G0p F3p) own_pd15 rfl e0 (by rw [hml]; rfl) (argsL := []) (st := []) rfl (W := 0) (Nat.le_of_eq rfl) (by decide) (by decide) (by decide) (by decide) (hb hby own_d20_1) (q := 4) rfl (fun T1534 X1535 e1536 => ?_)
  rw [show (own_f21_1 cs : Int32) = (0 : Int32) from rfl]
  refine own_if0P X1535 hx (hb hby own_d20_4) (cd := .eq) (x := (0 : Int32)) (pt := 16) (q := 7) (by decide) (by decide) rfl rfl (fun _ => ?_) (fun h => False.elim (h ((by decide) : (0 : Int32) = (0 : Int32))))
  refine own_aloadN X1535 hx (hb hby own_d20_16) (q := 17) rfl rfl rfl ?_
  refine own_getF X1535 hx hZ hown (host := "") (Or.inl (own_h hw 20 rfl)) Via.refl e1536 F2p (hb hby own_d20_17) (q := 20) rfl (fun T1537 X1538 e1539 => ?_)
  refine own_iloadN X1538 hx (hb hby own_d20_20) (q := 21) rfl rfl ?_
  refine own_callSP X1538 hx hZ hown (own_h hw 179 rfl) (own_h hw 180 rfl) (own_h hw 104 rfl) (own_h hw 181 rfl) (by decide) (rm36 l Z a0 hw [] b1 p2 cs G vs nn y0 y1 h0 G0p V4p kn0 kn1 hl_vs q0 q1 g0 g1) own_pd11 rfl e1539 (by rw [hml]; rfl) (argsL := [.ref b1, .int p2]) (st := []) rfl (W := 0) (Nat.le_of_eq rfl) (by decide) (by decide) (by decide) (by decide) (hb hby own_d20_21) (q := 24) rfl (fun T1540 X1541 e1542 => ?_)
  refine own_retN X1541 hx hlk (t := .char) (by simp) hret (hb hby own_d20_24) ?_ (by decide) (by decide)
  have r : own_f20_1 p2 cs nn y0 y1 = nar .char (own_f36 p2 cs nn y0 y1) := by rw [own_f20_1]
  exact ⟨by rw [r] <;> rfl, e1542, rfl⟩
theorem own_pn41 : plainName "java/lang/AbstractStringBuilder" = true := by first | (simp [plainName, overriddenIn]; done) | decide +kernel
theorem own_ef8 (m : MethodId) (a1 : Addr) (p2 : Int32) : entryFrame m #[.ref a1, .int p2] 2 = mkF m 0 #[.val (.ref a1), .val (.int p2)] [] := by first | (simp [entryFrame, mkF, argsToLocals, Value.category]; done) | rfl
theorem own_d8_0 : decode jdk_68_method_2_code 0 = .ok (.aload_n 0, 1) := by decide +kernel
theorem own_d8_1 : decode jdk_68_method_2_code 1 = .ok (.invokespecial 3, 3) := by decide +kernel
theorem own_d8_4 : decode jdk_68_method_2_code 4 = .ok (.getstatic 18, 3) := by decide +kernel
theorem own_d8_7 : decode jdk_68_method_2_code 7 = .ok (.ifCond .eq 18, 3) := by decide +kernel
theorem own_d8_10 : decode jdk_68_method_2_code 10 = .ok (.aload_n 0, 1) := by decide +kernel
theorem own_d8_11 : decode jdk_68_method_2_code 11 = .ok (.iload_n 1, 1) := by decide +kernel
theorem own_d8_12 : decode jdk_68_method_2_code 12 = .ok (.newarray .byte, 2) := by decide +kernel
theorem own_d8_14 : decode jdk_68_method_2_code 14 = .ok (.putfield 15, 3) := by decide +kernel
theorem own_d8_17 : decode jdk_68_method_2_code 17 = .ok (.aload_n 0, 1) := by decide +kernel
theorem own_d8_18 : decode jdk_68_method_2_code 18 = .ok (.iconst 0, 1) := by decide +kernel
theorem own_d8_19 : decode jdk_68_method_2_code 19 = .ok (.putfield 22, 3) := by decide +kernel
theorem own_d8_22 : decode jdk_68_method_2_code 22 = .ok (.goto 16, 3) := by decide +kernel
theorem own_d8_38 : decode jdk_68_method_2_code 38 = .ok (.return_, 1) := by decide +kernel
def own_Q8 (Z : State) (a1 : Addr) (p2 : Int32) (cs : Int32) (G : Value) (h0 : Heap) (n0 : Nat) (v : Option Value) (h : Heap) (L : List Loc) : Prop := ∃ ra0 : Addr, v = none ∧ Fr n0 L ∧ Keep h0 h [a1] ∧ h0.size ≤ ra0 ∧ Exa Z h ra0 "[B" ∧ own_A Z h ra0 .byte (List.replicate p2.toNatClampNeg (.int (0 : Int32))) ∧ Exa Z h a1 "java/lang/StringBuilder" ∧ Fld Z h a1 "java/lang/AbstractStringBuilder" "value" "[B" (.ref ra0) ∧ Fld Z h a1 "java/lang/AbstractStringBuilder" "coder" "B" (.int (0 : Int32)) ∧ Fld Z h a1 "java/lang/AbstractStringBuilder" "count" "I" (.int (0 : Int32)) ∧ Fld Z h a1 "java/lang/AbstractStringBuilder" "maybeLatin1" "Z" (.int (0 : Int32))
set_option maxRecDepth 65536 in
set_option maxHeartbeats 40000000 in
theorem rm8 (l : Launch) (Z : State) (a0 : Array Value) (hw : ∀ d ∈ tables_1, d.before a0 Z = true) (ws : List Jvm.Cond) (a1 : Addr) (p2 : Int32) (cs : Int32) (G : Value) (h0 : Heap) (n0 : Nat) (Z0 : n0 ≤ h0.size) (G0p : own_G Z h0 cs G) (E1p : Exa Z h0 a1 "java/lang/StringBuilder") (F2p : Fld Z h0 a1 "java/lang/AbstractStringBuilder" "value" "[B" (.null)) (F3p : Fld Z h0 a1 "java/lang/AbstractStringBuilder" "coder" "B" (.int (0 : Int32))) (F4p : Fld Z h0 a1 "java/lang/AbstractStringBuilder" "count" "I" (.int (0 : Int32))) (F5p : Fld Z h0 a1 "java/lang/AbstractStringBuilder" "maybeLatin1" "Z" (.int (0 : Int32))) (G_a1 : n0 ≤ a1)  (kn0 : ¬ (p2 < (0 : Int32))) (hcap : p2.toNatClampNeg ≤ 3) :
    own_M l (⟨"java/lang/AbstractStringBuilder", "<init>", "(I)V"⟩ : MethodName) jdk_68_method_2_code 2 none ws ({ frames := 1, cells := 1, slots := 3, locals := 12 } : Room) #[.ref a1, .int p2] Z h0 (own_Q8 Z a1 p2 cs G h0 n0) := by
  refine own_prol (C := "java/lang/AbstractStringBuilder") rfl own_pn41 (fun m => own_ef8 m ..) ?_
  intro p e s m below meth c s₁ hx hby hml hown hnm hlk hret X0 e0 hZ
  have N0 := Fr.nil n0
  have K0 := Keep.refl h0 [a1]
  refine own_aloadN X0 hx (hb hby own_d8_0) (q := 1) rfl rfl rfl ?_
  refine own_initO X0 hx hZ hown (own_h hw 49 rfl) (own_h hw 12 rfl) (own_h hw 13 rfl) e0 (by rw [hml]; rfl) (by decide) (W := 0) (Nat.le_of_eq rfl) (by decide) (hb hby own_d8_1) (q := 4) rfl (fun T1543 X1544 e1545 => ?_)
  refine own_getS X1544 hx hZ hown (own_h hw 50 rfl) Via.refl e1545 G0p.2.2.1 (hb hby own_d8_4) (q := 7) rfl (fun T1546 X1547 e1548 => ?_)
  refine own_if0P X1547 hx (hb hby own_d8_7) (cd := .eq) (x := cs) (pt := 25) (q := 10) (by decide) (by decide) rfl rfl (fun h => False.elim ((G0p.1 : ¬ (cs = (0 : Int32))) h)) (fun _ => ?_)
  refine own_aloadN X1547 hx (hb hby own_d8_10) (q := 11) rfl rfl rfl ?_
  refine own_iloadN X1547 hx (hb hby own_d8_11) (q := 12) rfl rfl ?_
  refine own_newE X1547 hx hZ (aty := .byte) (ty := .byte) (ad := "[B") (k := p2.toNatClampNeg) (cap := 3) rfl rfl (own_h hw 15 rfl) e1548 kn0 rfl hcap (by decide) (by decide) (by decide) (hb hby own_d8_12) (q := 14) rfl (fun T1549 h1552 a1553 X1550 e1551 g1554 E1555 A1556 E1557 => ?_)
  have O1558 : h0.size ≤ a1553 := by rw [g1554]; exact K0.1
  have L1559 := G0p.ext E1555
  have E1560 := Exa.ext E1555 E1p
  have F1561 := Fld.ext E1555 F2p
  have F1562 := Fld.ext E1555 F3p
  have F1563 := Fld.ext E1555 F4p
  have F1564 := Fld.ext E1555 F5p
  have K1565 := K0.ext E1555
  have ne1566 : a1 ≠ a1553 := by rw [g1554]; exact Nat.ne_of_lt E1p.lt
  have Z1567 : n0 ≤ a1553 := by rw [g1554]; exact Z0
  have Z1568 : n0 ≤ h1552.size := Nat.le_trans Z0 E1555.1
  replace A1556 : own_A Z h1552 a1553 .byte (List.replicate p2.toNatClampNeg (.int (0 : Int32))) := A1556
  refine own_putF X1550 hx hZ hown (host := "") (Or.inl (own_h hw 51 rfl)) Via.refl e1551 F1561 E1560 (Or.inl (own_h hw 52 rfl)) (own_h hw 27 rfl) (ty := (.array .byte)) (by decide) rfl rfl (hb hby own_d8_14) (q := 17) rfl (fun T1569 h1572 X1570 e1571 W1573 => ?_)
  have L1574 := L1559.wr W1573
  have E1575 := Exa.wr W1573 E1560
  have F1576 := Fld.same W1573 F1561
  have F1577 := Fld.other W1573 F1562 (Or.inr (slot_ne (C := "java/lang/StringBuilder") (Or.inl (own_h hw 54 rfl)) (Or.inl (own_h hw 52 rfl)) (by decide) (t := .byte) (t' := (.array .byte)) (by decide) (by decide)))
  have F1578 := Fld.other W1573 F1563 (Or.inr (slot_ne (C := "java/lang/StringBuilder") (Or.inl (own_h hw 82 rfl)) (Or.inl (own_h hw 52 rfl)) (by decide) (t := .int) (t' := (.array .byte)) (by decide) (by decide)))
  have F1579 := Fld.other W1573 F1564 (Or.inr (slot_ne (C := "java/lang/StringBuilder") (Or.inl (own_h hw 214 rfl)) (Or.inl (own_h hw 52 rfl)) (by decide) (t := .boolean) (t' := (.array .byte)) (by decide) (by decide)))
  have A1580 := A1556.other W1573 (Ne.symm ne1566)
  have E1581 := Exa.wr W1573 E1557
  have K1582 := K1565.wr W1573 (Or.inl (List.mem_of_getElem? (i := 0) rfl))
  have Z1583 : n0 ≤ h1572.size := W1573.size ▸ Z1568
  have N1584 := Fr.snoc X1570 N0 G_a1
  refine own_aloadN X1570 hx (hb hby own_d8_17) (q := 18) rfl rfl rfl ?_
  refine own_iconst X1570 hx (v := (0 : Int32)) (hb hby own_d8_18) (q := 19) rfl rfl ?_
  refine own_putF X1570 hx hZ hown (host := "") (Or.inl (own_h hw 53 rfl)) Via.refl e1571 F1577 E1575 (Or.inl (own_h hw 54 rfl)) (own_h hw 27 rfl) (ty := .byte) (by decide) rfl rfl (hb hby own_d8_19) (q := 22) rfl (fun T1585 h1588 X1586 e1587 W1589 => ?_)
  have L1590 := L1574.wr W1589
  have E1591 := Exa.wr W1589 E1575
  have F1592 := Fld.other W1589 F1576 (Or.inr (slot_ne (C := "java/lang/StringBuilder") (Or.inl (own_h hw 52 rfl)) (Or.inl (own_h hw 54 rfl)) (by decide) (t := (.array .byte)) (t' := .byte) (by decide) (by decide)))
  have F1593 := Fld.same W1589 F1577
  have F1594 := Fld.other W1589 F1578 (Or.inr (slot_ne (C := "java/lang/StringBuilder") (Or.inl (own_h hw 82 rfl)) (Or.inl (own_h hw 54 rfl)) (by decide) (t := .int) (t' := .byte) (by decide) (by decide)))
  have F1595 := Fld.other W1589 F1579 (Or.inr (slot_ne (C := "java/lang/StringBuilder") (Or.inl (own_h hw 214 rfl)) (Or.inl (own_h hw 54 rfl)) (by decide) (t := .boolean) (t' := .byte) (by decide) (by decide)))
  have A1596 := A1580.other W1589 (Ne.symm ne1566)
  have E1597 := Exa.wr W1589 E1581
  have K1598 := K1582.wr W1589 (Or.inl (List.mem_of_getElem? (i := 0) rfl))
  have Z1599 : n0 ≤ h1588.size := W1589.size ▸ Z1583
  have N1600 := Fr.snoc X1586 N1584 G_a1
  refine own_goto X1586 hx (hb hby own_d8_22) (q := 38) (by decide) (by decide) ?_
  refine own_retV X1586 hx hlk (rest := []) hret (hb hby own_d8_38) ?_ (by decide) (by decide)
  show own_Q8 Z a1 p2 cs G h0 n0 _ T1585.heap _
  rw [e1587]
  exact ⟨a1553, rfl, N1600, K1598, O1558, E1597, A1596, E1591, F1592, F1593, F1594, F1595⟩
theorem own_pd16 : parseMethodDescriptor "(I)V" = some ⟨[.int], none⟩ := by decide +kernel
theorem own_pn43 : plainName "java/lang/StringBuilder" = true := by first | (simp [plainName, overriddenIn]; done) | decide +kernel
theorem own_ef7 (m : MethodId) (a1 : Addr) (p2 : Int32) : entryFrame m #[.ref a1, .int p2] 2 = mkF m 0 #[.val (.ref a1), .val (.int p2)] [] := by first | (simp [entryFrame, mkF, argsToLocals, Value.category]; done) | rfl
theorem own_d7_0 : decode jdk_67_method_2_code 0 = .ok (.aload_n 0, 1) := by decide +kernel
theorem own_d7_1 : decode jdk_67_method_2_code 1 = .ok (.iload_n 1, 1) := by decide +kernel
theorem own_d7_2 : decode jdk_67_method_2_code 2 = .ok (.invokespecial 1, 3) := by decide +kernel
theorem own_d7_5 : decode jdk_67_method_2_code 5 = .ok (.return_, 1) := by decide +kernel
def own_Q7 (Z : State) (a1 : Addr) (p2 : Int32) (cs : Int32) (G : Value) (h0 : Heap) (n0 : Nat) (v : Option Value) (h : Heap) (L : List Loc) : Prop := ∃ ra0 : Addr, v = none ∧ Fr n0 L ∧ Keep h0 h [a1] ∧ h0.size ≤ ra0 ∧ Exa Z h ra0 "[B" ∧ own_A Z h ra0 .byte (List.replicate p2.toNatClampNeg (.int (0 : Int32))) ∧ Exa Z h a1 "java/lang/StringBuilder" ∧ Fld Z h a1 "java/lang/AbstractStringBuilder" "value" "[B" (.ref ra0) ∧ Fld Z h a1 "java/lang/AbstractStringBuilder" "coder" "B" (.int (0 : Int32)) ∧ Fld Z h a1 "java/lang/AbstractStringBuilder" "count" "I" (.int (0 : Int32)) ∧ Fld Z h a1 "java/lang/AbstractStringBuilder" "maybeLatin1" "Z" (.int (0 : Int32))
set_option maxRecDepth 65536 in
set_option maxHeartbeats 40000000 in
theorem rm7 (l : Launch) (Z : State) (a0 : Array Value) (hw : ∀ d ∈ tables_1, d.before a0 Z = true) (ws : List Jvm.Cond) (a1 : Addr) (p2 : Int32) (cs : Int32) (G : Value) (h0 : Heap) (n0 : Nat) (Z0 : n0 ≤ h0.size) (G0p : own_G Z h0 cs G) (E1p : Exa Z h0 a1 "java/lang/StringBuilder") (F2p : Fld Z h0 a1 "java/lang/AbstractStringBuilder" "value" "[B" (.null)) (F3p : Fld Z h0 a1 "java/lang/AbstractStringBuilder" "coder" "B" (.int (0 : Int32))) (F4p : Fld Z h0 a1 "java/lang/AbstractStringBuilder" "count" "I" (.int (0 : Int32))) (F5p : Fld Z h0 a1 "java/lang/AbstractStringBuilder" "maybeLatin1" "Z" (.int (0 : Int32))) (G_a1 : n0 ≤ a1)  (kn0 : ¬ (p2 < (0 : Int32))) (hcap : p2.toNatClampNeg ≤ 3) :
    own_M l (⟨"java/lang/StringBuilder", "<init>", "(I)V"⟩ : MethodName) jdk_67_method_2_code 2 none ws ({ frames := 2, cells := 1, slots := 3, locals := 25 } : Room) #[.ref a1, .int p2] Z h0 (own_Q7 Z a1 p2 cs G h0 n0) := by
  refine own_prol (C := "java/lang/StringBuilder") rfl own_pn43 (fun m => own_ef7 m ..) ?_
  intro p e s m below meth c s₁ hx hby hml hown hnm hlk hret X0 e0 hZ
  have N0 := Fr.nil n0
  have K0 := Keep.refl h0 [a1]
  refine own_aloadN X0 hx (hb hby own_d7_0) (q := 1) rfl rfl rfl ?_
  refine own_iloadN X0 hx (hb hby own_d7_1) (q := 2) rfl rfl ?_
  refine own_callC X0 hx hZ hown rfl (own_h hw 43 rfl) (own_h hw 44 rfl) (own_h hw 47 rfl) (own_h hw 48 rfl) (by decide) (rm8 l Z a0 hw [] a1 p2 cs G h0 n0 Z0 G0p E1p F2p F3p F4p F5p G_a1 kn0 hcap) own_pd16 rfl e0 (by rw [hml]; rfl) (argsL := [.int p2]) (st := []) rfl (W := 0) (Nat.le_of_eq rfl) (by decide) (by decide) (by decide) (by decide) (hb hby own_d7_2) (q := 5) rfl (fun v1604 T1605 L1606 X1607 hQ1608 => ?_)
  obtain ⟨a1612, rfl, N1609, K1610, O1613, E1614, A1615, E1616, F1617, F1618, F1619, F1620⟩ := hQ1608
  have G1621 := G0p.keep K1610 (allS (own_exaPlain E1p) all0)
  have Z1622 : n0 ≤ T1605.heap.size := Nat.le_trans Z0 K1610.1
  have K1623 := K0.trans K1610 (allS (Or.inl (List.mem_of_getElem? (i := 0) rfl)) all0)
  have N1611 := Fr.app N0 N1609
  have ne1624 : a1 ≠ a1612 := Nat.ne_of_lt (Nat.lt_of_lt_of_le E1p.lt O1613)
  have Z1625 : n0 ≤ a1612 := Nat.le_trans Z0 O1613
  have O1626 : h0.size ≤ a1612 := Nat.le_trans K0.1 O1613
  show own_Go _ _ _ _ (T1605.setTop (mkF m 5 #[.val (.ref a1), .val (.int p2)] []))
  refine own_retV X1607 hx hlk (rest := []) hret (hb hby own_d7_5) ?_ (by decide) (by decide)
  show own_Q7 Z a1 p2 cs G h0 n0 _ T1605.heap _
  exact ⟨a1612, rfl, N1611, K1623, O1626, E1614, A1615, E1616, F1617, F1618, F1619, F1620⟩
theorem own_ef15 (m : MethodId) (a1 : Addr) : entryFrame m #[.ref a1] 1 = mkF m 0 #[.val (.ref a1)] [] := by first | (simp [entryFrame, mkF, argsToLocals, Value.category]; done) | rfl
theorem own_d15_0 : decode jdk_68_method_68_code 0 = .ok (.getstatic 18, 3) := by decide +kernel
theorem own_d15_3 : decode jdk_68_method_68_code 3 = .ok (.ifCond .eq 14, 3) := by decide +kernel
theorem own_d15_6 : decode jdk_68_method_68_code 6 = .ok (.aload_n 0, 1) := by decide +kernel
theorem own_d15_7 : decode jdk_68_method_68_code 7 = .ok (.getfield 22, 3) := by decide +kernel
theorem own_d15_10 : decode jdk_68_method_68_code 10 = .ok (.ifCond .ne 7, 3) := by decide +kernel
theorem own_d15_13 : decode jdk_68_method_68_code 13 = .ok (.iconst 1, 1) := by decide +kernel
theorem own_d15_14 : decode jdk_68_method_68_code 14 = .ok (.goto 4, 3) := by decide +kernel
theorem own_d15_18 : decode jdk_68_method_68_code 18 = .ok (.ireturn, 1) := by decide +kernel
def own_f15_0 (cs : Int32) : Int32 := (1 : Int32)
set_option maxRecDepth 65536 in
set_option maxHeartbeats 40000000 in
theorem rm15_0 (l : Launch) (Z : State) (a0 : Array Value) (hw : ∀ d ∈ tables_1, d.before a0 Z = true) (ws : List Jvm.Cond) (a1 : Addr) (cs : Int32) (G : Value) (h0 : Heap) (G0p : own_G Z h0 cs G) (F1p : Fld Z h0 a1 "java/lang/AbstractStringBuilder" "coder" "B" (.int (0 : Int32))) :
    own_M l (⟨"java/lang/AbstractStringBuilder", "isLatin1", "()Z"⟩ : MethodName) jdk_68_method_68_code 1 (some .boolean) ws ({ frames := 0, cells := 0, slots := 0, locals := 0 } : Room) #[.ref a1] Z h0 (own_P (.int (own_f15_0 cs)) h0) := by
  refine own_prol (C := "java/lang/AbstractStringBuilder") rfl own_pn41 (fun m => own_ef15 m ..) ?_
  intro p e s m below meth c s₁ hx hby hml hown hnm hlk hret X0 e0 hZ
  refine own_getS X0 hx hZ hown (own_h hw 50 rfl) Via.refl e0 G0p.2.2.1 (hb hby own_d15_0) (q := 3) rfl (fun T1627 X1628 e1629 => ?_)
  refine own_if0P X1628 hx (hb hby own_d15_3) (cd := .eq) (x := cs) (pt := 17) (q := 6) (by decide) (by decide) rfl rfl (fun h => False.elim ((G0p.1 : ¬ (cs = (0 : Int32))) h)) (fun _ => ?_)
  refine own_aloadN X1628 hx (hb hby own_d15_6) (q := 7) rfl rfl rfl ?_
  refine own_getF X1628 hx hZ hown (host := "") (Or.inl (own_h hw 53 rfl)) Via.refl e1629 F1p (hb hby own_d15_7) (q := 10) rfl (fun T1630 X1631 e1632 => ?_)
  refine own_if0M X1631 hx (hb hby own_d15_10) (cd := .ne) (x := (0 : Int32)) (pt := 17) (q := 13) (by decide) (by decide) rfl rfl (fun h => False.elim (h ((by decide) : (0 : Int32) = (0 : Int32)))) (fun _ => ?_)
  refine own_iconst X1631 hx (v := (1 : Int32)) (hb hby own_d15_13) (q := 14) rfl rfl ?_
  refine own_goto X1631 hx (hb hby own_d15_14) (q := 18) (by decide) (by decide) ?_
  refine own_retN X1631 hx hlk (t := .boolean) (by simp) hret (hb hby own_d15_18) ?_ (by decide) (by decide)
  have r : own_f15_0 cs = (1 : Int32) := by rw [own_f15_0]
  exact ⟨by rw [r] <;> rfl, e1632, rfl⟩
theorem own_ef28 (m : MethodId) (a1 : Addr) (p2 : Int32) : entryFrame m #[.ref a1, .int p2] 3 = mkF m 0 #[.val (.ref a1), .val (.int p2), .unset] [] := by first | (simp [entryFrame, mkF, argsToLocals, Value.category]; done) | rfl
theorem own_d28_0 : decode jdk_68_method_9_code 0 = .ok (.aload_n 0, 1) := by decide +kernel
theorem own_d28_1 : decode jdk_68_method_9_code 1 = .ok (.getfield 15, 3) := by decide +kernel
theorem own_d28_4 : decode jdk_68_method_9_code 4 = .ok (.arraylength, 1) := by decide +kernel
theorem own_d28_5 : decode jdk_68_method_9_code 5 = .ok (.aload_n 0, 1) := by decide +kernel
theorem own_d28_6 : decode jdk_68_method_9_code 6 = .ok (.getfield 22, 3) := by decide +kernel
theorem own_d28_9 : decode jdk_68_method_9_code 9 = .ok (.ishr, 1) := by decide +kernel
theorem own_d28_10 : decode jdk_68_method_9_code 10 = .ok (.istore_n 2, 1) := by decide +kernel
theorem own_d28_11 : decode jdk_68_method_9_code 11 = .ok (.iload_n 1, 1) := by decide +kernel
theorem own_d28_12 : decode jdk_68_method_9_code 12 = .ok (.iload_n 2, 1) := by decide +kernel
theorem own_d28_13 : decode jdk_68_method_9_code 13 = .ok (.isub, 1) := by decide +kernel
theorem own_d28_14 : decode jdk_68_method_9_code 14 = .ok (.ifCond .le 24, 3) := by decide +kernel
theorem own_d28_38 : decode jdk_68_method_9_code 38 = .ok (.return_, 1) := by decide +kernel
set_option maxRecDepth 65536 in
set_option maxHeartbeats 40000000 in
theorem rm28_0 (l : Launch) (Z : State) (a0 : Array Value) (hw : ∀ d ∈ tables_1, d.before a0 Z = true) (ws : List Jvm.Cond) (a1 : Addr) (p2 : Int32) (b1 : Addr) (vs : List Value) (nn : Int32) (h0 : Heap) (F0p : Fld Z h0 a1 "java/lang/AbstractStringBuilder" "value" "[B" (.ref b1)) (F1p : Fld Z h0 a1 "java/lang/AbstractStringBuilder" "coder" "B" (.int (0 : Int32))) (V2p : own_A Z h0 b1 .byte vs) (kn0 : ¬ ((0 : Int32) < (p2 - (nn >>> ((0 : Int32) &&& 31))))) (hl_vs : vs.length.toInt32 = nn)  :
    own_M l (⟨"java/lang/AbstractStringBuilder", "ensureCapacityInternal", "(I)V"⟩ : MethodName) jdk_68_method_9_code 3 none ws ({ frames := 0, cells := 0, slots := 0, locals := 0 } : Room) #[.ref a1, .int p2] Z h0 (own_V h0) := by
  refine own_prol (C := "java/lang/AbstractStringBuilder") rfl own_pn41 (fun m => own_ef28 m ..) ?_
  intro p e s m below meth c s₁ hx hby hml hown hnm hlk hret X0 e0 hZ
  refine own_aloadN X0 hx (hb hby own_d28_0) (q := 1) rfl rfl rfl ?_
  refine own_getF X0 hx hZ hown (host := "") (Or.inl (own_h hw 51 rfl)) Via.refl e0 F0p (hb hby own_d28_1) (q := 4) rfl (fun T1633 X1634 e1635 => ?_)
  refine own_alen X1634 hx hZ (n := nn) e1635 V2p hl_vs (hb hby own_d28_4) (q := 5) rfl ?_
  refine own_aloadN X1634 hx (hb hby own_d28_5) (q := 6) rfl rfl rfl ?_
  refine own_getF X1634 hx hZ hown (host := "") (Or.inl (own_h hw 53 rfl)) Via.refl e1635 F1p (hb hby own_d28_6) (q := 9) rfl (fun T1636 X1637 e1638 => ?_)
  refine own_ishr X1637 hx (hb hby own_d28_9) (q := 10) rfl ?_
  refine own_istoreN (L' := #[.val (.ref a1), .val (.int p2), .val (.int (nn >>> ((0 : Int32) &&& 31)))]) X1637 hx (hb hby own_d28_10) (q := 11) rfl rfl ?_
  refine own_iloadN X1637 hx (hb hby own_d28_11) (q := 12) rfl rfl ?_
  refine own_iloadN X1637 hx (hb hby own_d28_12) (q := 13) rfl rfl ?_
  refine own_isub X1637 hx (hb hby own_d28_13) (q := 14) rfl ?_
  refine own_if0M X1637 hx (hb hby own_d28_14) (cd := .le) (x := p2 - (nn >>> ((0 : Int32) &&& 31))) (pt := 38) (q := 17) (by decide) (by decide) rfl rfl (fun _ => ?_) (fun h => False.elim ((kn0 : ¬ ((0 : Int32) < (p2 - (nn >>> ((0 : Int32) &&& 31))))) h))
  refine own_retV X1637 hx hlk (rest := []) hret (hb hby own_d28_38) ?_ (by decide) (by decide)
  exact ⟨rfl, e1638, rfl⟩
theorem own_d15_17 : decode jdk_68_method_68_code 17 = .ok (.iconst 0, 1) := by decide +kernel
def own_f15_1 (cs : Int32) : Int32 := (0 : Int32)
set_option maxRecDepth 65536 in
set_option maxHeartbeats 40000000 in
theorem rm15_1 (l : Launch) (Z : State) (a0 : Array Value) (hw : ∀ d ∈ tables_1, d.before a0 Z = true) (ws : List Jvm.Cond) (a1 : Addr) (cs : Int32) (G : Value) (h0 : Heap) (G0p : own_G Z h0 cs G) (F1p : Fld Z h0 a1 "java/lang/AbstractStringBuilder" "coder" "B" (.int (1 : Int32))) :
    own_M l (⟨"java/lang/AbstractStringBuilder", "isLatin1", "()Z"⟩ : MethodName) jdk_68_method_68_code 1 (some .boolean) ws ({ frames := 0, cells := 0, slots := 0, locals := 0 } : Room) #[.ref a1] Z h0 (own_P (.int (own_f15_1 cs)) h0) := by
  refine own_prol (C := "java/lang/AbstractStringBuilder") rfl own_pn41 (fun m => own_ef15 m ..) ?_
  intro p e s m below meth c s₁ hx hby hml hown hnm hlk hret X0 e0 hZ
  refine own_getS X0 hx hZ hown (own_h hw 50 rfl) Via.refl e0 G0p.2.2.1 (hb hby own_d15_0) (q := 3) rfl (fun T1639 X1640 e1641 => ?_)
  refine own_if0P X1640 hx (hb hby own_d15_3) (cd := .eq) (x := cs) (pt := 17) (q := 6) (by decide) (by decide) rfl rfl (fun h => False.elim ((G0p.1 : ¬ (cs = (0 : Int32))) h)) (fun _ => ?_)
  refine own_aloadN X1640 hx (hb hby own_d15_6) (q := 7) rfl rfl rfl ?_
  refine own_getF X1640 hx hZ hown (host := "") (Or.inl (own_h hw 53 rfl)) Via.refl e1641 F1p (hb hby own_d15_7) (q := 10) rfl (fun T1642 X1643 e1644 => ?_)
  refine own_if0M X1643 hx (hb hby own_d15_10) (cd := .ne) (x := (1 : Int32)) (pt := 17) (q := 13) (by decide) (by decide) rfl rfl (fun _ => ?_) (fun h => False.elim (((by decide) : ¬ ((1 : Int32) = (0 : Int32))) h))
  refine own_iconst X1643 hx (v := (0 : Int32)) (hb hby own_d15_17) (q := 18) rfl rfl ?_
  refine own_retN X1643 hx hlk (t := .boolean) (by simp) hret (hb hby own_d15_18) ?_ (by decide) (by decide)
  have r : own_f15_1 cs = (0 : Int32) := by rw [own_f15_1]
  exact ⟨by rw [r] <;> rfl, e1644, rfl⟩

set_option maxRecDepth 65536 in
set_option maxHeartbeats 40000000 in
theorem rm28_1 (l : Launch) (Z : State) (a0 : Array Value) (hw : ∀ d ∈ tables_1, d.before a0 Z = true) (ws : List Jvm.Cond) (a1 : Addr) (p2 : Int32) (b1 : Addr) (vs : List Value) (nn : Int32) (h0 : Heap) (F0p : Fld Z h0 a1 "java/lang/AbstractStringBuilder" "value" "[B" (.ref b1)) (F1p : Fld Z h0 a1 "java/lang/AbstractStringBuilder" "coder" "B" (.int (1 : Int32))) (V2p : own_A Z h0 b1 .byte vs) (kn0 : ¬ ((0 : Int32) < (p2 - (nn >>> ((1 : Int32) &&& 31))))) (hl_vs : vs.length.toInt32 = nn)  :
    own_M l (⟨"java/lang/AbstractStringBuilder", "ensureCapacityInternal", "(I)V"⟩ : MethodName) jdk_68_method_9_code 3 none ws ({ frames := 0, cells := 0, slots := 0, locals := 0 } : Room) #[.ref a1, .int p2] Z h0 (own_V h0) := by
  refine own_prol (C := "java/lang/AbstractStringBuilder") rfl own_pn41 (fun m => own_ef28 m ..) ?_
  intro p e s m below meth c s₁ hx hby hml hown hnm hlk hret X0 e0 hZ
  refine own_aloadN X0 hx (hb hby own_d28_0) (q := 1) rfl rfl rfl ?_
  refine own_getF X0 hx hZ hown (host := "") (Or.inl (own_h hw 51 rfl)) Via.refl e0 F0p (hb hby own_d28_1) (q := 4) rfl (fun T1645 X1646 e1647 => ?_)
  refine own_alen X1646 hx hZ (n := nn) e1647 V2p hl_vs (hb hby own_d28_4) (q := 5) rfl ?_
  refine own_aloadN X1646 hx (hb hby own_d28_5) (q := 6) rfl rfl rfl ?_
  refine own_getF X1646 hx hZ hown (host := "") (Or.inl (own_h hw 53 rfl)) Via.refl e1647 F1p (hb hby own_d28_6) (q := 9) rfl (fun T1648 X1649 e1650 => ?_)
  refine own_ishr X1649 hx (hb hby own_d28_9) (q := 10) rfl ?_
  refine own_istoreN (L' := #[.val (.ref a1), .val (.int p2), .val (.int (nn >>> ((1 : Int32) &&& 31)))]) X1649 hx (hb hby own_d28_10) (q := 11) rfl rfl ?_
  refine own_iloadN X1649 hx (hb hby own_d28_11) (q := 12) rfl rfl ?_
  refine own_iloadN X1649 hx (hb hby own_d28_12) (q := 13) rfl rfl ?_
  refine own_isub X1649 hx (hb hby own_d28_13) (q := 14) rfl ?_
  refine own_if0M X1649 hx (hb hby own_d28_14) (cd := .le) (x := p2 - (nn >>> ((1 : Int32) &&& 31))) (pt := 38) (q := 17) (by decide) (by decide) rfl rfl (fun _ => ?_) (fun h => False.elim ((kn0 : ¬ ((0 : Int32) < (p2 - (nn >>> ((1 : Int32) &&& 31))))) h))
  refine own_retV X1649 hx hlk (rest := []) hret (hb hby own_d28_38) ?_ (by decide) (by decide)
  exact ⟨rfl, e1650, rfl⟩
theorem own_pd17 : parseMethodDescriptor "(C)Z" = some ⟨[.char], some .boolean⟩ := by decide +kernel
theorem own_ef27 (m : MethodId) (a1 : Addr) (p2 : Int32) : entryFrame m #[.ref a1, .int p2] 2 = mkF m 0 #[.val (.ref a1), .val (.int p2)] [] := by first | (simp [entryFrame, mkF, argsToLocals, Value.category]; done) | rfl
theorem own_d27_0 : decode jdk_68_method_31_code 0 = .ok (.aload_n 0, 1) := by decide +kernel
theorem own_d27_1 : decode jdk_68_method_31_code 1 = .ok (.aload_n 0, 1) := by decide +kernel
theorem own_d27_2 : decode jdk_68_method_31_code 2 = .ok (.getfield 79, 3) := by decide +kernel
theorem own_d27_5 : decode jdk_68_method_31_code 5 = .ok (.iconst 1, 1) := by decide +kernel
theorem own_d27_6 : decode jdk_68_method_31_code 6 = .ok (.iadd, 1) := by decide +kernel
theorem own_d27_7 : decode jdk_68_method_31_code 7 = .ok (.invokevirtual 100, 3) := by decide +kernel
theorem own_d27_10 : decode jdk_68_method_31_code 10 = .ok (.aload_n 0, 1) := by decide +kernel
theorem own_d27_11 : decode jdk_68_method_31_code 11 = .ok (.invokevirtual 83, 3) := by decide +kernel
theorem own_d27_14 : decode jdk_68_method_31_code 14 = .ok (.ifCond .eq 31, 3) := by decide +kernel
theorem own_d27_17 : decode jdk_68_method_31_code 17 = .ok (.iload_n 1, 1) := by decide +kernel
theorem own_d27_18 : decode jdk_68_method_31_code 18 = .ok (.invokestatic 191, 3) := by decide +kernel
theorem own_d27_21 : decode jdk_68_method_31_code 21 = .ok (.ifCond .eq 24, 3) := by decide +kernel
theorem own_d27_24 : decode jdk_68_method_31_code 24 = .ok (.aload_n 0, 1) := by decide +kernel
theorem own_d27_25 : decode jdk_68_method_31_code 25 = .ok (.getfield 15, 3) := by decide +kernel
theorem own_d27_28 : decode jdk_68_method_31_code 28 = .ok (.aload_n 0, 1) := by decide +kernel
theorem own_d27_29 : decode jdk_68_method_31_code 29 = .ok (.dup, 1) := by decide +kernel
theorem own_d27_30 : decode jdk_68_method_31_code 30 = .ok (.getfield 79, 3) := by decide +kernel
theorem own_d27_33 : decode jdk_68_method_31_code 33 = .ok (.dup_x1, 1) := by decide +kernel
theorem own_d27_34 : decode jdk_68_method_31_code 34 = .ok (.iconst 1, 1) := by decide +kernel
theorem own_d27_35 : decode jdk_68_method_31_code 35 = .ok (.iadd, 1) := by decide +kernel
theorem own_d27_36 : decode jdk_68_method_31_code 36 = .ok (.putfield 79, 3) := by decide +kernel
theorem own_d27_39 : decode jdk_68_method_31_code 39 = .ok (.iload_n 1, 1) := by decide +kernel
theorem own_d27_40 : decode jdk_68_method_31_code 40 = .ok (.i2b, 1) := by decide +kernel
theorem own_d27_41 : decode jdk_68_method_31_code 41 = .ok (.bastore, 1) := by decide +kernel
theorem own_d27_42 : decode jdk_68_method_31_code 42 = .ok (.goto 33, 3) := by decide +kernel
theorem own_d27_75 : decode jdk_68_method_31_code 75 = .ok (.aload_n 0, 1) := by decide +kernel
theorem own_d27_76 : decode jdk_68_method_31_code 76 = .ok (.areturn, 1) := by decide +kernel
def own_f27_L (a1 : Addr) (p2 : Int32) (cs : Int32) (G : Value) (b1 : Addr) (ct : Int32) (vs : List Value) (nn : Int32) : Addr := a1
def own_Q27_L (Z : State) (a1 : Addr) (p2 : Int32) (cs : Int32) (G : Value) (b1 : Addr) (ct : Int32) (vs : List Value) (nn : Int32) (h0 : Heap) (n0 : Nat) (v : Option Value) (h : Heap) (L : List Loc) : Prop := v = some (.ref (own_f27_L a1 p2 cs G b1 ct vs nn)) ∧ Fr n0 L ∧ Keep h0 h [a1, b1] ∧ Exa Z h a1 "java/lang/StringBuilder" ∧ Fld Z h a1 "java/lang/AbstractStringBuilder" "value" "[B" (.ref b1) ∧ Fld Z h a1 "java/lang/AbstractStringBuilder" "coder" "B" (.int (0 : Int32)) ∧ Fld Z h a1 "java/lang/AbstractStringBuilder" "count" "I" (.int (ct + (1 : Int32))) ∧ Fld Z h a1 "java/lang/AbstractStringBuilder" "maybeLatin1" "Z" (.int (0 : Int32)) ∧ Exa Z h b1 "[B" ∧ own_A Z h b1 .byte (vs.set ct.toNatClampNeg (.int p2.toInt8.toInt32))
set_option maxRecDepth 65536 in
set_option maxHeartbeats 40000000 in
theorem rm27_L (l : Launch) (Z : State) (a0 : Array Value) (hw : ∀ d ∈ tables_1, d.before a0 Z = true) (ws : List Jvm.Cond) (a1 : Addr) (p2 : Int32) (cs : Int32) (G : Value) (b1 : Addr) (ct : Int32) (vs : List Value) (nn : Int32) (h0 : Heap) (n0 : Nat) (G0p : own_G Z h0 cs G) (E1p : Exa Z h0 a1 "java/lang/StringBuilder") (F2p : Fld Z h0 a1 "java/lang/AbstractStringBuilder" "value" "[B" (.ref b1)) (F3p : Fld Z h0 a1 "java/lang/AbstractStringBuilder" "coder" "B" (.int (0 : Int32))) (F4p : Fld Z h0 a1 "java/lang/AbstractStringBuilder" "count" "I" (.int ct)) (F5p : Fld Z h0 a1 "java/lang/AbstractStringBuilder" "maybeLatin1" "Z" (.int (0 : Int32))) (E6p : Exa Z h0 b1 "[B") (V7p : own_A Z h0 b1 .byte vs) (G_a1 : n0 ≤ a1) (G_b1 : n0 ≤ b1) (ne_b1_a1 : b1 ≠ a1)  (kn0 : ¬ ((255 : Int32) < p2)) (kn1 : ¬ ((0 : Int32) < ((ct + (1 : Int32)) - (nn >>> ((0 : Int32) &&& 31))))) (kn2 : ¬ (ct < (0 : Int32))) (hl_vs : vs.length.toInt32 = nn) (hi : ct.toNatClampNeg < vs.length) :
    own_M l (⟨"java/lang/AbstractStringBuilder", "append", "(C)Ljava/lang/AbstractStringBuilder;"⟩ : MethodName) jdk_68_method_31_code 2 (some (.object "java/lang/AbstractStringBuilder")) ws ({ frames := 1, cells := 0, slots := 0, locals := 14 } : Room) #[.ref a1, .int p2] Z h0 (own_Q27_L Z a1 p2 cs G b1 ct vs nn h0 n0) := by
  refine own_prol (C := "java/lang/AbstractStringBuilder") rfl own_pn41 (fun m => own_ef27 m ..) ?_
  intro p e s m below meth c s₁ hx hby hml hown hnm hlk hret X0 e0 hZ
  have N0 := Fr.nil n0
  have K0 := Keep.refl h0 [a1, b1]
  refine own_aloadN X0 hx (hb hby own_d27_0) (q := 1) rfl rfl rfl ?_
  refine own_aloadN X0 hx (hb hby own_d27_1) (q := 2) rfl rfl rfl ?_
  refine own_getF X0 hx hZ hown (host := "") (Or.inl (own_h hw 81 rfl)) Via.refl e0 F4p (hb hby own_d27_2) (q := 5) rfl (fun T1651 X1652 e1653 => ?_)
  refine own_iconst X1652 hx (v := (1 : Int32)) (hb hby own_d27_5) (q := 6) rfl rfl ?_
  refine own_iadd X1652 hx (hb hby own_d27_6) (q := 7) rfl ?_
  refine own_callQ2V X1652 hx hZ hown (own_h hw 146 rfl) (own_h hw 147 rfl) (own_h hw 149 rfl) (own_h hw 148 rfl) (own_h hw 47 rfl) (own_h hw 150 rfl) E1p (by decide) (rm28_0 l Z a0 hw [] a1 (ct + (1 : Int32)) b1 vs nn h0 F2p F3p V7p kn1 hl_vs) own_pd16 rfl e1653 (by rw [hml]; rfl) (argsL := [.int (ct + (1 : Int32))]) (st := []) rfl (W := 0) (Nat.le_of_eq rfl) (by decide) (by decide) (by decide) (by decide) (hb hby own_d27_7) (q := 10) rfl (fun T1654 X1655 e1656 => ?_)
  refine own_aloadN X1655 hx (hb hby own_d27_10) (q := 11) rfl rfl rfl ?_
  refine own_callV2P X1655 hx hZ hown (own_h hw 151 rfl) (own_h hw 84 rfl) (own_h hw 70 rfl) rfl (own_h hw 86 rfl) (own_h hw 85 rfl) (own_h hw 47 rfl) (own_h hw 87 rfl) E1p (by decide) (rm15_0 l Z a0 hw [] a1 cs G h0 G0p F3p) own_pd15 rfl e1656 (by rw [hml]; rfl) (argsL := []) (st := []) rfl (W := 0) (Nat.le_of_eq rfl) (by decide) (by decide) (by decide) (by decide) (hb hby own_d27_11) (q := 14) rfl (fun T1657 X1658 e1659 => ?_)
  rw [show (own_f15_0 cs : Int32) = (1 : Int32) from rfl]
  refine own_if0P X1658 hx (hb hby own_d27_14) (cd := .eq) (x := (1 : Int32)) (pt := 45) (q := 17) (by decide) (by decide) rfl rfl (fun h => False.elim (((by decide) : ¬ ((1 : Int32) = (0 : Int32))) h)) (fun _ => ?_)
  refine own_iloadN X1658 hx (hb hby own_d27_17) (q := 18) rfl rfl ?_
  refine own_callSP X1658 hx hZ hown (own_h hw 152 rfl) (own_h hw 153 rfl) (own_h hw 124 rfl) (own_h hw 154 rfl) (by decide) (rm29_L l Z a0 hw [] p2 h0  kn0) own_pd17 rfl e1659 (by rw [hml]; rfl) (argsL := [.int p2]) (st := []) rfl (W := 0) (Nat.le_of_eq rfl) (by decide) (by decide) (by decide) (by decide) (hb hby own_d27_18) (q := 21) rfl (fun T1660 X1661 e1662 => ?_)
  rw [show (own_f29_L p2 : Int32) = (1 : Int32) from rfl]
  refine own_if0P X1661 hx (hb hby own_d27_21) (cd := .eq) (x := (1 : Int32)) (pt := 45) (q := 24) (by decide) (by decide) rfl rfl (fun h => False.elim (((by decide) : ¬ ((1 : Int32) = (0 : Int32))) h)) (fun _ => ?_)
  refine own_aloadN X1661 hx (hb hby own_d27_24) (q := 25) rfl rfl rfl ?_
  refine own_getF X1661 hx hZ hown (host := "") (Or.inl (own_h hw 51 rfl)) Via.refl e1662 F2p (hb hby own_d27_25) (q := 28) rfl (fun T1663 X1664 e1665 => ?_)
  refine own_aloadN X1664 hx (hb hby own_d27_28) (q := 29) rfl rfl rfl ?_
  refine own_dup X1664 hx (hb hby own_d27_29) (q := 30) rfl rfl ?_
  refine own_getF X1664 hx hZ hown (host := "") (Or.inl (own_h hw 81 rfl)) Via.refl e1665 F4p (hb hby own_d27_30) (q := 33) rfl (fun T1666 X1667 e1668 => ?_)
  refine own_dupX1 X1667 hx (hb hby own_d27_33) (q := 34) rfl rfl rfl ?_
  refine own_iconst X1667 hx (v := (1 : Int32)) (hb hby own_d27_34) (q := 35) rfl rfl ?_
  refine own_iadd X1667 hx (hb hby own_d27_35) (q := 36) rfl ?_
  refine own_putF X1667 hx hZ hown (host := "") (Or.inl (own_h hw 81 rfl)) Via.refl e1668 F4p E1p (Or.inl (own_h hw 82 rfl)) (own_h hw 27 rfl) (ty := .int) (by decide) rfl rfl (hb hby own_d27_36) (q := 39) rfl (fun T1669 h1672 X1670 e1671 W1673 => ?_)
  have G1674 := G0p.wr W1673
  have E1675 := Exa.wr W1673 E1p
  have F1676 := Fld.other W1673 F2p (Or.inr (slot_ne (C := "java/lang/StringBuilder") (Or.inl (own_h hw 52 rfl)) (Or.inl (own_h hw 82 rfl)) (by decide) (t := (.array .byte)) (t' := .int) (by decide) (by decide)))
  have F1677 := Fld.other W1673 F3p (Or.inr (slot_ne (C := "java/lang/StringBuilder") (Or.inl (own_h hw 54 rfl)) (Or.inl (own_h hw 82 rfl)) (by decide) (t := .byte) (t' := .int) (by decide) (by decide)))
  have F1678 := Fld.same W1673 F4p
  have F1679 := Fld.other W1673 F5p (Or.inr (slot_ne (C := "java/lang/StringBuilder") (Or.inl (own_h hw 214 rfl)) (Or.inl (own_h hw 82 rfl)) (by decide) (t := .boolean) (t' := .int) (by decide) (by decide)))
  have E1680 := Exa.wr W1673 E6p
  have V1681 := V7p.other W1673 ne_b1_a1
  have K1682 := K0.wr W1673 (Or.inl (List.mem_of_getElem? (i := 0) rfl))
  have N1683 := Fr.snoc X1670 N0 G_a1
  refine own_iloadN X1670 hx (hb hby own_d27_39) (q := 40) rfl rfl ?_
  refine own_i2b X1670 hx (hb hby own_d27_40) (q := 41) rfl ?_
  refine own_bastore X1670 hx hZ e1671 V1681 kn2 rfl hi (hb hby own_d27_41) (q := 42) rfl (fun T1684 h1687 X1685 e1686 W1688 A1689 => ?_)
  rw [own_bb] at A1689
  replace A1689 : own_A Z h1687 b1 .byte (vs.set ct.toNatClampNeg (.int p2.toInt8.toInt32)) := A1689
  have G1690 := G1674.wr W1688
  have E1691 := Exa.wr W1688 E1675
  have F1692 := Fld.other W1688 F1676 (Or.inl (Ne.symm ne_b1_a1))
  have F1693 := Fld.other W1688 F1677 (Or.inl (Ne.symm ne_b1_a1))
  have F1694 := Fld.other W1688 F1678 (Or.inl (Ne.symm ne_b1_a1))
  have F1695 := Fld.other W1688 F1679 (Or.inl (Ne.symm ne_b1_a1))
  have E1696 := Exa.wr W1688 E1680
  have K1697 := K1682.wr W1688 (Or.inl (List.mem_of_getElem? (i := 1) rfl))
  have N1698 := Fr.snoc X1685 N1683 G_b1
  refine own_goto X1685 hx (hb hby own_d27_42) (q := 75) (by decide) (by decide) ?_
  refine own_aloadN X1685 hx (hb hby own_d27_75) (q := 76) rfl rfl rfl ?_
  refine own_retA X1685 hx hlk rfl rfl rfl hret (hb hby own_d27_76) ?_ (by decide) (by decide)
  have r : own_f27_L a1 p2 cs G b1 ct vs nn = a1 := by rw [own_f27_L]
  show own_Q27_L Z a1 p2 cs G b1 ct vs nn h0 n0 _ T1684.heap _
  rw [e1686]
  exact ⟨(by rw [r] <;> rfl), N1698, K1697, E1691, F1692, F1693, F1694, F1695, E1696, A1689⟩
theorem own_d27_45 : decode jdk_68_method_31_code 45 = .ok (.aload_n 0, 1) := by decide +kernel
theorem own_d27_46 : decode jdk_68_method_31_code 46 = .ok (.invokevirtual 83, 3) := by decide +kernel
theorem own_d27_49 : decode jdk_68_method_31_code 49 = .ok (.ifCond .eq 7, 3) := by decide +kernel
theorem own_d27_56 : decode jdk_68_method_31_code 56 = .ok (.aload_n 0, 1) := by decide +kernel
theorem own_d27_57 : decode jdk_68_method_31_code 57 = .ok (.getfield 15, 3) := by decide +kernel
theorem own_d27_60 : decode jdk_68_method_31_code 60 = .ok (.aload_n 0, 1) := by decide +kernel
theorem own_d27_61 : decode jdk_68_method_31_code 61 = .ok (.dup, 1) := by decide +kernel
theorem own_d27_62 : decode jdk_68_method_31_code 62 = .ok (.getfield 79, 3) := by decide +kernel
theorem own_d27_65 : decode jdk_68_method_31_code 65 = .ok (.dup_x1, 1) := by decide +kernel
theorem own_d27_66 : decode jdk_68_method_31_code 66 = .ok (.iconst 1, 1) := by decide +kernel
theorem own_d27_67 : decode jdk_68_method_31_code 67 = .ok (.iadd, 1) := by decide +kernel
theorem own_d27_68 : decode jdk_68_method_31_code 68 = .ok (.putfield 79, 3) := by decide +kernel
theorem own_d27_71 : decode jdk_68_method_31_code 71 = .ok (.iload_n 1, 1) := by decide +kernel
theorem own_d27_72 : decode jdk_68_method_31_code 72 = .ok (.invokestatic 197, 3) := by decide +kernel
def own_f27_U (a1 : Addr) (p2 : Int32) (cs : Int32) (G : Value) (b1 : Addr) (ct : Int32) (vs : List Value) (nn : Int32) : Addr := a1
def own_Q27_U (Z : State) (a1 : Addr) (p2 : Int32) (cs : Int32) (G : Value) (b1 : Addr) (ct : Int32) (vs : List Value) (nn : Int32) (h0 : Heap) (n0 : Nat) (v : Option Value) (h : Heap) (L : List Loc) : Prop := v = some (.ref (own_f27_U a1 p2 cs G b1 ct vs nn)) ∧ Fr n0 L ∧ Keep h0 h [a1, b1] ∧ Exa Z h a1 "java/lang/StringBuilder" ∧ Fld Z h a1 "java/lang/AbstractStringBuilder" "value" "[B" (.ref b1) ∧ Fld Z h a1 "java/lang/AbstractStringBuilder" "coder" "B" (.int (1 : Int32)) ∧ Fld Z h a1 "java/lang/AbstractStringBuilder" "count" "I" (.int (ct + (1 : Int32))) ∧ Fld Z h a1 "java/lang/AbstractStringBuilder" "maybeLatin1" "Z" (.int (0 : Int32)) ∧ Exa Z h b1 "[B" ∧ own_A Z h b1 .byte ((vs.set (ct <<< ((1 : Int32) &&& 31)).toNatClampNeg (.int ((p2 >>> ((0 : Int32) &&& 31)).toInt8.toInt32))).set ((ct <<< ((1 : Int32) &&& 31)) + (1 : Int32)).toNatClampNeg (.int ((p2 >>> ((8 : Int32) &&& 31)).toInt8.toInt32)))
set_option maxRecDepth 65536 in
set_option maxHeartbeats 40000000 in
theorem rm27_U (l : Launch) (Z : State) (a0 : Array Value) (hw : ∀ d ∈ tables_1, d.before a0 Z = true) (ws : List Jvm.Cond) (a1 : Addr) (p2 : Int32) (cs : Int32) (G : Value) (b1 : Addr) (ct : Int32) (vs : List Value) (nn : Int32) (h0 : Heap) (n0 : Nat) (G0p : own_G Z h0 cs G) (E1p : Exa Z h0 a1 "java/lang/StringBuilder") (F2p : Fld Z h0 a1 "java/lang/AbstractStringBuilder" "value" "[B" (.ref b1)) (F3p : Fld Z h0 a1 "java/lang/AbstractStringBuilder" "coder" "B" (.int (1 : Int32))) (F4p : Fld Z h0 a1 "java/lang/AbstractStringBuilder" "count" "I" (.int ct)) (F5p : Fld Z h0 a1 "java/lang/AbstractStringBuilder" "maybeLatin1" "Z" (.int (0 : Int32))) (E6p : Exa Z h0 b1 "[B") (V7p : own_A Z h0 b1 .byte vs) (G_a1 : n0 ≤ a1) (G_b1 : n0 ≤ b1) (ne_b1_a1 : b1 ≠ a1)  (kn0 : ¬ ((0 : Int32) < ((ct + (1 : Int32)) - (nn >>> ((1 : Int32) &&& 31))))) (kn1 : ¬ (ct < (0 : Int32))) (kn2 : ct < (own_f38 nn)) (hl_vs : vs.length.toInt32 = nn) (q0 : ¬ (ct <<< ((1 : Int32) &&& 31)) < 0) (q1 : ¬ ((ct <<< ((1 : Int32) &&& 31)) + (1 : Int32)) < 0) (i0 : (ct <<< ((1 : Int32) &&& 31)).toNatClampNeg < vs.length) (i1 : ((ct <<< ((1 : Int32) &&& 31)) + (1 : Int32)).toNatClampNeg < vs.length) :
    own_M l (⟨"java/lang/AbstractStringBuilder", "append", "(C)Ljava/lang/AbstractStringBuilder;"⟩ : MethodName) jdk_68_method_31_code 2 (some (.object "java/lang/AbstractStringBuilder")) ws ({ frames := 4, cells := 0, slots := 0, locals := 54 } : Room) #[.ref a1, .int p2] Z h0 (own_Q27_U Z a1 p2 cs G b1 ct vs nn h0 n0) := by
  refine own_prol (C := "java/lang/AbstractStringBuilder") rfl own_pn41 (fun m => own_ef27 m ..) ?_
  intro p e s m below meth c s₁ hx hby hml hown hnm hlk hret X0 e0 hZ
  have N0 := Fr.nil n0
  have K0 := Keep.refl h0 [a1, b1]
  refine own_aloadN X0 hx (hb hby own_d27_0) (q := 1) rfl rfl rfl ?_
  refine own_aloadN X0 hx (hb hby own_d27_1) (q := 2) rfl rfl rfl ?_
  refine own_getF X0 hx hZ hown (host := "") (Or.inl (own_h hw 81 rfl)) Via.refl e0 F4p (hb hby own_d27_2) (q := 5) rfl (fun T1699 X1700 e1701 => ?_)
  refine own_iconst X1700 hx (v := (1 : Int32)) (hb hby own_d27_5) (q := 6) rfl rfl ?_
  refine own_iadd X1700 hx (hb hby own_d27_6) (q := 7) rfl ?_
  refine own_callQ2V X1700 hx hZ hown (own_h hw 146 rfl) (own_h hw 147 rfl) (own_h hw 149 rfl) (own_h hw 148 rfl) (own_h hw 47 rfl) (own_h hw 150 rfl) E1p (by decide) (rm28_1 l Z a0 hw [] a1 (ct + (1 : Int32)) b1 vs nn h0 F2p F3p V7p kn0 hl_vs) own_pd16 rfl e1701 (by rw [hml]; rfl) (argsL := [.int (ct + (1 : Int32))]) (st := []) rfl (W := 0) (Nat.le_of_eq rfl) (by decide) (by decide) (by decide) (by decide) (hb hby own_d27_7) (q := 10) rfl (fun T1702 X1703 e1704 => ?_)
  refine own_aloadN X1703 hx (hb hby own_d27_10) (q := 11) rfl rfl rfl ?_
  refine own_callV2P X1703 hx hZ hown (own_h hw 151 rfl) (own_h hw 84 rfl) (own_h hw 70 rfl) rfl (own_h hw 86 rfl) (own_h hw 85 rfl) (own_h hw 47 rfl) (own_h hw 87 rfl) E1p (by decide) (rm15_1 l Z a0 hw [] a1 cs G h0 G0p F3p) own_pd15 rfl e1704 (by rw [hml]; rfl) (argsL := []) (st := []) rfl (W := 0) (Nat.le_of_eq rfl) (by decide) (by decide) (by decide) (by decide) (hb hby own_d27_11) (q := 14) rfl (fun T1705 X1706 e1707 => ?_)
  rw [show (own_f15_1 cs : Int32) = (0 : Int32) from rfl]
  refine own_if0P X1706 hx (hb hby own_d27_14) (cd := .eq) (x := (0 : Int32)) (pt := 45) (q := 17) (by decide) (by decide) rfl rfl (fun _ => ?_) (fun h => False.elim (h ((by decide) : (0 : Int32) = (0 : Int32))))
  refine own_aloadN X1706 hx (hb hby own_d27_45) (q := 46) rfl rfl rfl ?_
  refine own_callV2P X1706 hx hZ hown (own_h hw 151 rfl) (own_h hw 84 rfl) (own_h hw 70 rfl) rfl (own_h hw 86 rfl) (own_h hw 85 rfl) (own_h hw 47 rfl) (own_h hw 87 rfl) E1p (by decide) (rm15_1 l Z a0 hw [] a1 cs G h0 G0p F3p) own_pd15 rfl e1707 (by rw [hml]; rfl) (argsL := []) (st := []) rfl (W := 0) (Nat.le_of_eq rfl) (by decide) (by decide) (by decide) (by decide) (hb hby own_d27_46) (q := 49) rfl (fun T1708 X1709 e1710 => ?_)
  rw [show (own_f15_1 cs : Int32) = (0 : Int32) from rfl]
  refine own_if0P X1709 hx (hb hby own_d27_49) (cd := .eq) (x := (0 : Int32)) (pt := 56) (q := 52) (by decide) (by decide) rfl rfl (fun _ => ?_) (fun h => False.elim (h ((by decide) : (0 : Int32) = (0 : Int32))))
  refine own_aloadN X1709 hx (hb hby own_d27_56) (q := 57) rfl rfl rfl ?_
  refine own_getF X1709 hx hZ hown (host := "") (Or.inl (own_h hw 51 rfl)) Via.refl e1710 F2p (hb hby own_d27_57) (q := 60) rfl (fun T1711 X1712 e1713 => ?_)
  refine own_aloadN X1712 hx (hb hby own_d27_60) (q := 61) rfl rfl rfl ?_
  refine own_dup X1712 hx (hb hby own_d27_61) (q := 62) rfl rfl ?_
  refine own_getF X1712 hx hZ hown (host := "") (Or.inl (own_h hw 81 rfl)) Via.refl e1713 F4p (hb hby own_d27_62) (q := 65) rfl (fun T1714 X1715 e1716 => ?_)
  refine own_dupX1 X1715 hx (hb hby own_d27_65) (q := 66) rfl rfl rfl ?_
  refine own_iconst X1715 hx (v := (1 : Int32)) (hb hby own_d27_66) (q := 67) rfl rfl ?_
  refine own_iadd X1715 hx (hb hby own_d27_67) (q := 68) rfl ?_
  refine own_putF X1715 hx hZ hown (host := "") (Or.inl (own_h hw 81 rfl)) Via.refl e1716 F4p E1p (Or.inl (own_h hw 82 rfl)) (own_h hw 27 rfl) (ty := .int) (by decide) rfl rfl (hb hby own_d27_68) (q := 71) rfl (fun T1717 h1720 X1718 e1719 W1721 => ?_)
  have G1722 := G0p.wr W1721
  have E1723 := Exa.wr W1721 E1p
  have F1724 := Fld.other W1721 F2p (Or.inr (slot_ne (C := "java/lang/StringBuilder") (Or.inl (own_h hw 52 rfl)) (Or.inl (own_h hw 82 rfl)) (by decide) (t := (.array .byte)) (t' := .int) (by decide) (by decide)))
  have F1725 := Fld.other W1721 F3p (Or.inr (slot_ne (C := "java/lang/StringBuilder") (Or.inl (own_h hw 54 rfl)) (Or.inl (own_h hw 82 rfl)) (by decide) (t := .byte) (t' := .int) (by decide) (by decide)))
  have F1726 := Fld.same W1721 F4p
  have F1727 := Fld.other W1721 F5p (Or.inr (slot_ne (C := "java/lang/StringBuilder") (Or.inl (own_h hw 214 rfl)) (Or.inl (own_h hw 82 rfl)) (by decide) (t := .boolean) (t' := .int) (by decide) (by decide)))
  have E1728 := Exa.wr W1721 E6p
  have V1729 := V7p.other W1721 ne_b1_a1
  have K1730 := K0.wr W1721 (Or.inl (List.mem_of_getElem? (i := 0) rfl))
  have N1731 := Fr.snoc X1718 N0 G_a1
  refine own_iloadN X1718 hx (hb hby own_d27_71) (q := 72) rfl rfl ?_
  refine own_callS X1718 hx hZ hown (own_h hw 210 rfl) (own_h hw 211 rfl) (own_h hw 104 rfl) (own_h hw 212 rfl) (by decide) (rm45 l Z a0 hw [] b1 ct p2 cs G vs nn h1720 n0 G1722 V1729 G_b1 kn1 kn2 hl_vs q0 q1 i0 i1) own_pd6 rfl e1719 (by rw [hml]; rfl) (argsL := [.ref b1, .int ct, .int p2]) (st := []) rfl (W := 0) (Nat.le_of_eq rfl) (by decide) (by decide) (by decide) (by decide) (hb hby own_d27_72) (q := 75) rfl (fun v1738 T1739 L1740 X1741 hQ1742 => ?_)
  obtain ⟨rfl, N1743, K1744, A1746⟩ := hQ1742
  have G1747 := G1722.keep K1744 (allS (own_exaPlain E1728) all0)
  have E1748 := E1723.keep K1744
  have F1749 := F1724.keep K1744 (ninS (Ne.symm ne_b1_a1) nin0)
  have F1750 := F1725.keep K1744 (ninS (Ne.symm ne_b1_a1) nin0)
  have F1751 := F1726.keep K1744 (ninS (Ne.symm ne_b1_a1) nin0)
  have F1752 := F1727.keep K1744 (ninS (Ne.symm ne_b1_a1) nin0)
  have E1753 := E1728.keep K1744
  have K1754 := K1730.trans K1744 (allS (Or.inl (List.mem_of_getElem? (i := 1) rfl)) all0)
  have N1745 := Fr.app N1731 N1743
  show own_Go _ _ _ _ (T1739.setTop (mkF m 75 #[.val (.ref a1), .val (.int p2)] []))
  refine own_aloadN X1741 hx (hb hby own_d27_75) (q := 76) rfl rfl rfl ?_
  refine own_retA X1741 hx hlk rfl rfl rfl hret (hb hby own_d27_76) ?_ (by decide) (by decide)
  have r : own_f27_U a1 p2 cs G b1 ct vs nn = a1 := by rw [own_f27_U]
  show own_Q27_U Z a1 p2 cs G b1 ct vs nn h0 n0 _ T1739.heap _
  exact ⟨(by rw [r] <;> rfl), N1745, K1754, E1748, F1749, F1750, F1751, F1752, E1753, A1746⟩
theorem own_pd18 : parseMethodDescriptor "(C)Ljava/lang/AbstractStringBuilder;" = some ⟨[.char], some (.object "java/lang/AbstractStringBuilder")⟩ := by decide +kernel
theorem own_ef26 (m : MethodId) (a1 : Addr) (p2 : Int32) : entryFrame m #[.ref a1, .int p2] 2 = mkF m 0 #[.val (.ref a1), .val (.int p2)] [] := by first | (simp [entryFrame, mkF, argsToLocals, Value.category]; done) | rfl
theorem own_d26_0 : decode jdk_67_method_14_code 0 = .ok (.aload_n 0, 1) := by decide +kernel
theorem own_d26_1 : decode jdk_67_method_14_code 1 = .ok (.iload_n 1, 1) := by decide +kernel
theorem own_d26_2 : decode jdk_67_method_14_code 2 = .ok (.invokespecial 50, 3) := by decide +kernel
theorem own_d26_5 : decode jdk_67_method_14_code 5 = .ok (.pop, 1) := by decide +kernel
theorem own_d26_6 : decode jdk_67_method_14_code 6 = .ok (.aload_n 0, 1) := by decide +kernel
theorem own_d26_7 : decode jdk_67_method_14_code 7 = .ok (.areturn, 1) := by decide +kernel
def own_f26_L (a1 : Addr) (p2 : Int32) (cs : Int32) (G : Value) (b1 : Addr) (ct : Int32) (vs : List Value) (nn : Int32) : Addr := a1
def own_Q26_L (Z : State) (a1 : Addr) (p2 : Int32) (cs : Int32) (G : Value) (b1 : Addr) (ct : Int32) (vs : List Value) (nn : Int32) (h0 : Heap) (n0 : Nat) (v : Option Value) (h : Heap) (L : List Loc) : Prop := v = some (.ref (own_f26_L a1 p2 cs G b1 ct vs nn)) ∧ Fr n0 L ∧ Keep h0 h [a1, b1] ∧ Exa Z h a1 "java/lang/StringBuilder" ∧ Fld Z h a1 "java/lang/AbstractStringBuilder" "value" "[B" (.ref b1) ∧ Fld Z h a1 "java/lang/AbstractStringBuilder" "coder" "B" (.int (0 : Int32)) ∧ Fld Z h a1 "java/lang/AbstractStringBuilder" "count" "I" (.int (ct + (1 : Int32))) ∧ Fld Z h a1 "java/lang/AbstractStringBuilder" "maybeLatin1" "Z" (.int (0 : Int32)) ∧ Exa Z h b1 "[B" ∧ own_A Z h b1 .byte (vs.set ct.toNatClampNeg (.int p2.toInt8.toInt32))
set_option maxRecDepth 65536 in
set_option maxHeartbeats 40000000 in
theorem rm26_L (l : Launch) (Z : State) (a0 : Array Value) (hw : ∀ d ∈ tables_1, d.before a0 Z = true) (ws : List Jvm.Cond) (a1 : Addr) (p2 : Int32) (cs : Int32) (G : Value) (b1 : Addr) (ct : Int32) (vs : List Value) (nn : Int32) (h0 : Heap) (n0 : Nat) (G0p : own_G Z h0 cs G) (E1p : Exa Z h0 a1 "java/lang/StringBuilder") (F2p : Fld Z h0 a1 "java/lang/AbstractStringBuilder" "value" "[B" (.ref b1)) (F3p : Fld Z h0 a1 "java/lang/AbstractStringBuilder" "coder" "B" (.int (0 : Int32))) (F4p : Fld Z h0 a1 "java/lang/AbstractStringBuilder" "count" "I" (.int ct)) (F5p : Fld Z h0 a1 "java/lang/AbstractStringBuilder" "maybeLatin1" "Z" (.int (0 : Int32))) (E6p : Exa Z h0 b1 "[B") (V7p : own_A Z h0 b1 .byte vs) (G_a1 : n0 ≤ a1) (G_b1 : n0 ≤ b1) (ne_b1_a1 : b1 ≠ a1)  (kn0 : ¬ ((255 : Int32) < p2)) (kn1 : ¬ ((0 : Int32) < ((ct + (1 : Int32)) - (nn >>> ((0 : Int32) &&& 31))))) (kn2 : ¬ (ct < (0 : Int32))) (hl_vs : vs.length.toInt32 = nn) (hi : ct.toNatClampNeg < vs.length) :
    own_M l (⟨"java/lang/StringBuilder", "append", "(C)Ljava/lang/StringBuilder;"⟩ : MethodName) jdk_67_method_14_code 2 (some (.object "java/lang/StringBuilder")) ws ({ frames := 2, cells := 0, slots := 0, locals := 27 } : Room) #[.ref a1, .int p2] Z h0 (own_Q26_L Z a1 p2 cs G b1 ct vs nn h0 n0) := by
  refine own_prol (C := "java/lang/StringBuilder") rfl own_pn43 (fun m => own_ef26 m ..) ?_
  intro p e s m below meth c s₁ hx hby hml hown hnm hlk hret X0 e0 hZ
  have N0 := Fr.nil n0
  have K0 := Keep.refl h0 [a1, b1]
  refine own_aloadN X0 hx (hb hby own_d26_0) (q := 1) rfl rfl rfl ?_
  refine own_iloadN X0 hx (hb hby own_d26_1) (q := 2) rfl rfl ?_
  refine own_callU X0 hx hZ hown (own_h hw 142 rfl) (own_same (own_h hw 143 rfl) (own_nf (own_h hw 70 rfl) rfl) (by decide)) (own_h hw 143 rfl) (own_h hw 79 rfl) (own_h hw 47 rfl) (own_h hw 145 rfl) E1p (by decide) (by decide) (rm27_L l Z a0 hw [] a1 p2 cs G b1 ct vs nn h0 n0 G0p E1p F2p F3p F4p F5p E6p V7p G_a1 G_b1 ne_b1_a1 kn0 kn1 kn2 hl_vs hi) own_pd18 rfl e0 (by rw [hml]; rfl) (argsL := [.int p2]) (st := []) rfl (W := 0) (Nat.le_of_eq rfl) (by decide) (by decide) (by decide) (by decide) (hb hby own_d26_2) (q := 5) rfl (fun v1758 T1759 L1760 X1761 hQ1762 => ?_)
  obtain ⟨rfl, N1763, K1764, E1766, F1767, F1768, F1769, F1770, E1771, A1772⟩ := hQ1762
  have G1773 := G0p.keep K1764 (allS (own_exaPlain E1p) (allS (own_exaPlain E6p) all0))
  have K1774 := K0.trans K1764 (allS (Or.inl (List.mem_of_getElem? (i := 0) rfl)) (allS (Or.inl (List.mem_of_getElem? (i := 1) rfl)) all0))
  have N1765 := Fr.app N0 N1763
  show own_Go _ _ _ _ (T1759.setTop (mkF m 5 #[.val (.ref a1), .val (.int p2)] [.ref a1]))
  refine own_pop X1761 hx (hb hby own_d26_5) (q := 6) rfl rfl ?_
  refine own_aloadN X1761 hx (hb hby own_d26_6) (q := 7) rfl rfl rfl ?_
  refine own_retA X1761 hx hlk rfl rfl rfl hret (hb hby own_d26_7) ?_ (by decide) (by decide)
  have r : own_f26_L a1 p2 cs G b1 ct vs nn = a1 := by rw [own_f26_L]
  show own_Q26_L Z a1 p2 cs G b1 ct vs nn h0 n0 _ T1759.heap _
  exact ⟨(by rw [r] <;> rfl), N1765, K1774, E1766, F1767, F1768, F1769, F1770, E1771, A1772⟩

def own_f26_U (a1 : Addr) (p2 : Int32) (cs : Int32) (G : Value) (b1 : Addr) (ct : Int32) (vs : List Value) (nn : Int32) : Addr := a1
def own_Q26_U (Z : State) (a1 : Addr) (p2 : Int32) (cs : Int32) (G : Value) (b1 : Addr) (ct : Int32) (vs : List Value) (nn : Int32) (h0 : Heap) (n0 : Nat) (v : Option Value) (h : Heap) (L : List Loc) : Prop := v = some (.ref (own_f26_U a1 p2 cs G b1 ct vs nn)) ∧ Fr n0 L ∧ Keep h0 h [a1, b1] ∧ Exa Z h a1 "java/lang/StringBuilder" ∧ Fld Z h a1 "java/lang/AbstractStringBuilder" "value" "[B" (.ref b1) ∧ Fld Z h a1 "java/lang/AbstractStringBuilder" "coder" "B" (.int (1 : Int32)) ∧ Fld Z h a1 "java/lang/AbstractStringBuilder" "count" "I" (.int (ct + (1 : Int32))) ∧ Fld Z h a1 "java/lang/AbstractStringBuilder" "maybeLatin1" "Z" (.int (0 : Int32)) ∧ Exa Z h b1 "[B" ∧ own_A Z h b1 .byte ((vs.set (ct <<< ((1 : Int32) &&& 31)).toNatClampNeg (.int ((p2 >>> ((0 : Int32) &&& 31)).toInt8.toInt32))).set ((ct <<< ((1 : Int32) &&& 31)) + (1 : Int32)).toNatClampNeg (.int ((p2 >>> ((8 : Int32) &&& 31)).toInt8.toInt32)))
set_option maxRecDepth 65536 in
set_option maxHeartbeats 40000000 in
theorem rm26_U (l : Launch) (Z : State) (a0 : Array Value) (hw : ∀ d ∈ tables_1, d.before a0 Z = true) (ws : List Jvm.Cond) (a1 : Addr) (p2 : Int32) (cs : Int32) (G : Value) (b1 : Addr) (ct : Int32) (vs : List Value) (nn : Int32) (h0 : Heap) (n0 : Nat) (G0p : own_G Z h0 cs G) (E1p : Exa Z h0 a1 "java/lang/StringBuilder") (F2p : Fld Z h0 a1 "java/lang/AbstractStringBuilder" "value" "[B" (.ref b1)) (F3p : Fld Z h0 a1 "java/lang/AbstractStringBuilder" "coder" "B" (.int (1 : Int32))) (F4p : Fld Z h0 a1 "java/lang/AbstractStringBuilder" "count" "I" (.int ct)) (F5p : Fld Z h0 a1 "java/lang/AbstractStringBuilder" "maybeLatin1" "Z" (.int (0 : Int32))) (E6p : Exa Z h0 b1 "[B") (V7p : own_A Z h0 b1 .byte vs) (G_a1 : n0 ≤ a1) (G_b1 : n0 ≤ b1) (ne_b1_a1 : b1 ≠ a1)  (kn0 : ¬ ((0 : Int32) < ((ct + (1 : Int32)) - (nn >>> ((1 : Int32) &&& 31))))) (kn1 : ¬ (ct < (0 : Int32))) (kn2 : ct < (own_f38 nn)) (hl_vs : vs.length.toInt32 = nn) (q0 : ¬ (ct <<< ((1 : Int32) &&& 31)) < 0) (q1 : ¬ ((ct <<< ((1 : Int32) &&& 31)) + (1 : Int32)) < 0) (i0 : (ct <<< ((1 : Int32) &&& 31)).toNatClampNeg < vs.length) (i1 : ((ct <<< ((1 : Int32) &&& 31)) + (1 : Int32)).toNatClampNeg < vs.length) :
    own_M l (⟨"java/lang/StringBuilder", "append", "(C)Ljava/lang/StringBuilder;"⟩ : MethodName) jdk_67_method_14_code 2 (some (.object "java/lang/StringBuilder")) ws ({ frames := 5, cells := 0, slots := 0, locals := 67 } : Room) #[.ref a1, .int p2] Z h0 (own_Q26_U Z a1 p2 cs G b1 ct vs nn h0 n0) := by
  refine own_prol (C := "java/lang/StringBuilder") rfl own_pn43 (fun m => own_ef26 m ..) ?_
  intro p e s m below meth c s₁ hx hby hml hown hnm hlk hret X0 e0 hZ
  have N0 := Fr.nil n0
  have K0 := Keep.refl h0 [a1, b1]
  refine own_aloadN X0 hx (hb hby own_d26_0) (q := 1) rfl rfl rfl ?_
  refine own_iloadN X0 hx (hb hby own_d26_1) (q := 2) rfl rfl ?_
  refine own_callU X0 hx hZ hown (own_h hw 142 rfl) (own_same (own_h hw 143 rfl) (own_nf (own_h hw 70 rfl) rfl) (by decide)) (own_h hw 143 rfl) (own_h hw 79 rfl) (own_h hw 47 rfl) (own_h hw 145 rfl) E1p (by decide) (by decide) (rm27_U l Z a0 hw [] a1 p2 cs G b1 ct vs nn h0 n0 G0p E1p F2p F3p F4p F5p E6p V7p G_a1 G_b1 ne_b1_a1 kn0 kn1 kn2 hl_vs q0 q1 i0 i1) own_pd18 rfl e0 (by rw [hml]; rfl) (argsL := [.int p2]) (st := []) rfl (W := 0) (Nat.le_of_eq rfl) (by decide) (by decide) (by decide) (by decide) (hb hby own_d26_2) (q := 5) rfl (fun v1778 T1779 L1780 X1781 hQ1782 => ?_)
  obtain ⟨rfl, N1783, K1784, E1786, F1787, F1788, F1789, F1790, E1791, A1792⟩ := hQ1782
  have G1793 := G0p.keep K1784 (allS (own_exaPlain E1p) (allS (own_exaPlain E6p) all0))
  have K1794 := K0.trans K1784 (allS (Or.inl (List.mem_of_getElem? (i := 0) rfl)) (allS (Or.inl (List.mem_of_getElem? (i := 1) rfl)) all0))
  have N1785 := Fr.app N0 N1783
  show own_Go _ _ _ _ (T1779.setTop (mkF m 5 #[.val (.ref a1), .val (.int p2)] [.ref a1]))
  refine own_pop X1781 hx (hb hby own_d26_5) (q := 6) rfl rfl ?_
  refine own_aloadN X1781 hx (hb hby own_d26_6) (q := 7) rfl rfl rfl ?_
  refine own_retA X1781 hx hlk rfl rfl rfl hret (hb hby own_d26_7) ?_ (by decide) (by decide)
  have r : own_f26_U a1 p2 cs G b1 ct vs nn = a1 := by rw [own_f26_U]
  show own_Q26_U Z a1 p2 cs G b1 ct vs nn h0 n0 _ T1779.heap _
  exact ⟨(by rw [r] <;> rfl), N1785, K1794, E1786, F1787, F1788, F1789, F1790, E1791, A1792⟩
theorem own_pd19 : parseMethodDescriptor "(II[B)V" = some ⟨[.int, .int, (.array .byte)], none⟩ := by decide +kernel
theorem own_ef41_k0_k0_k0 (m : MethodId) (a1 : Addr) (a3 : Addr) : entryFrame m #[.ref a1, .int (0 : Int32), .ref a3, .int (0 : Int32), .int (0 : Int32)] 6 = mkF m 0 #[.val (.ref a1), .val (.int (0 : Int32)), .val (.ref a3), .val (.int (0 : Int32)), .val (.int (0 : Int32)), .unset] [] := by first | (simp [entryFrame, mkF, argsToLocals, Value.category]; done) | rfl
theorem own_d41_0 : decode jdk_52_method_86_code 0 = .ok (.iload_n 3, 1) := by decide +kernel
theorem own_d41_1 : decode jdk_52_method_86_code 1 = .ok (.iload 4, 2) := by decide +kernel
theorem own_d41_3 : decode jdk_52_method_86_code 3 = .ok (.aload_n 2, 1) := by decide +kernel
theorem own_d41_4 : decode jdk_52_method_86_code 4 = .ok (.invokestatic 173, 3) := by decide +kernel
theorem own_d41_7 : decode jdk_52_method_86_code 7 = .ok (.iconst 0, 1) := by decide +kernel
theorem own_d41_8 : decode jdk_52_method_86_code 8 = .ok (.istore 5, 2) := by decide +kernel
theorem own_d41_10 : decode jdk_52_method_86_code 10 = .ok (.iload 5, 2) := by decide +kernel
theorem own_d41_12 : decode jdk_52_method_86_code 12 = .ok (.iload 4, 2) := by decide +kernel
theorem own_d41_14 : decode jdk_52_method_86_code 14 = .ok (.if_icmp .ge 27, 3) := by decide +kernel
theorem own_d41_41 : decode jdk_52_method_86_code 41 = .ok (.return_, 1) := by decide +kernel
def own_Q41_0 (Z : State) (a1 : Addr) (a3 : Addr) (cs : Int32) (G : Value) (vs : List Value) (zs : List Value) (nn2 : Int32) (h0 : Heap) (n0 : Nat) (v : Option Value) (h : Heap) (L : List Loc) : Prop := v = none ∧ Fr n0 L ∧ Keep h0 h [a3] ∧ own_A Z h a1 .byte vs ∧ own_A Z h a3 .byte zs
set_option maxRecDepth 65536 in
set_option maxHeartbeats 40000000 in
theorem rm41_0 (l : Launch) (Z : State) (a0 : Array Value) (hw : ∀ d ∈ tables_1, d.before a0 Z = true) (ws : List Jvm.Cond) (a1 : Addr) (a3 : Addr) (cs : Int32) (G : Value) (vs : List Value) (zs : List Value) (nn2 : Int32) (h0 : Heap) (n0 : Nat) (G0p : own_G Z h0 cs G) (V1p : own_A Z h0 a1 .byte vs) (V2p : own_A Z h0 a3 .byte zs) (G_a3 : n0 ≤ a3) (ne_a1_a3 : a1 ≠ a3)  (kn0 : ¬ ((((own_f38 nn2) ||| (0 : Int32)) ||| (0 : Int32)) < (0 : Int32))) (kn1 : ¬ (((own_f38 nn2) - (0 : Int32)) < (0 : Int32))) (hl_zs : zs.length.toInt32 = nn2) (hlw : 0 ≤ zs.length) :
    own_M l (⟨"java/lang/StringUTF16", "inflate", "([BI[BII)V"⟩ : MethodName) jdk_52_method_86_code 6 none ws ({ frames := 3, cells := 0, slots := 0, locals := 43 } : Room) #[.ref a1, .int (0 : Int32), .ref a3, .int (0 : Int32), .int (0 : Int32)] Z h0 (own_Q41_0 Z a1 a3 cs G vs zs nn2 h0 n0) := by
  refine own_prol (C := "java/lang/StringUTF16") rfl own_pn10 (fun m => own_ef41_k0_k0_k0 m ..) ?_
  intro p e s m below meth c s₁ hx hby hml hown hnm hlk hret X0 e0 hZ
  have N0 := Fr.nil n0
  have K0 := Keep.refl h0 [a3]
  refine own_iloadN X0 hx (hb hby own_d41_0) (q := 1) rfl rfl ?_
  refine own_iload X0 hx (hb hby own_d41_1) (q := 3) rfl rfl ?_
  refine own_aloadN X0 hx (hb hby own_d41_3) (q := 4) rfl rfl rfl ?_
  refine own_callSV X0 hx hZ hown (own_h hw 201 rfl) (own_h hw 202 rfl) (own_h hw 104 rfl) (own_h hw 203 rfl) (by decide) (rm42 l Z a0 hw [] (0 : Int32) (0 : Int32) a3 cs G zs nn2 h0 G0p V2p kn0 kn1 hl_zs) own_pd19 rfl e0 (by rw [hml]; rfl) (argsL := [.int (0 : Int32), .int (0 : Int32), .ref a3]) (st := []) rfl (W := 0) (Nat.le_of_eq rfl) (by decide) (by decide) (by decide) (by decide) (hb hby own_d41_4) (q := 7) rfl (fun T1798 X1799 e1800 => ?_)
  refine own_iconst X1799 hx (v := (0 : Int32)) (hb hby own_d41_7) (q := 8) rfl rfl ?_
  refine own_istore (L' := #[.val (.ref a1), .val (.int (0 : Int32)), .val (.ref a3), .val (.int (0 : Int32)), .val (.int (0 : Int32)), .val (.int (0 : Int32))]) X1799 hx (hb hby own_d41_8) (q := 10) rfl rfl ?_
  refine own_iload X1799 hx (hb hby own_d41_10) (q := 12) rfl rfl ?_
  refine own_iload X1799 hx (hb hby own_d41_12) (q := 14) rfl rfl ?_
  refine own_icmpM X1799 hx (hb hby own_d41_14) (cd := .ge) (x := (0 : Int32)) (y := (0 : Int32)) (pt := 41) (q := 17) (by decide) (by decide) rfl rfl (fun _ => ?_) (fun h => False.elim (((by decide) : ¬ ((0 : Int32) < (0 : Int32))) h))
  refine own_retV X1799 hx hlk (rest := []) hret (hb hby own_d41_41) ?_ (by decide) (by decide)
  show own_Q41_0 Z a1 a3 cs G vs zs nn2 h0 n0 _ T1798.heap _
  rw [e1800]
  exact ⟨rfl, N0, K0, V1p, V2p⟩
theorem own_pd20 : parseMethodDescriptor "([BI[BII)V" = some ⟨[(.array .byte), .int, (.array .byte), .int, .int], none⟩ := by decide +kernel
theorem own_ef40_k0_k0_k0 (m : MethodId) (a1 : Addr) (a3 : Addr) : entryFrame m #[.ref a1, .int (0 : Int32), .ref a3, .int (0 : Int32), .int (0 : Int32)] 5 = mkF m 0 #[.val (.ref a1), .val (.int (0 : Int32)), .val (.ref a3), .val (.int (0 : Int32)), .val (.int (0 : Int32))] [] := by first | (simp [entryFrame, mkF, argsToLocals, Value.category]; done) | rfl
theorem own_d40_0 : decode jdk_43_method_50_code 0 = .ok (.aload_n 0, 1) := by decide +kernel
theorem own_d40_1 : decode jdk_43_method_50_code 1 = .ok (.iload_n 1, 1) := by decide +kernel
theorem own_d40_2 : decode jdk_43_method_50_code 2 = .ok (.aload_n 2, 1) := by decide +kernel
theorem own_d40_3 : decode jdk_43_method_50_code 3 = .ok (.iload_n 3, 1) := by decide +kernel
theorem own_d40_4 : decode jdk_43_method_50_code 4 = .ok (.iload 4, 2) := by decide +kernel
theorem own_d40_6 : decode jdk_43_method_50_code 6 = .ok (.invokestatic 240, 3) := by decide +kernel
theorem own_d40_9 : decode jdk_43_method_50_code 9 = .ok (.return_, 1) := by decide +kernel
def own_Q40_0 (Z : State) (a1 : Addr) (a3 : Addr) (cs : Int32) (G : Value) (vs : List Value) (zs : List Value) (nn2 : Int32) (h0 : Heap) (n0 : Nat) (v : Option Value) (h : Heap) (L : List Loc) : Prop := v = none ∧ Fr n0 L ∧ Keep h0 h [a3] ∧ own_A Z h a1 .byte vs ∧ own_A Z h a3 .byte zs
set_option maxRecDepth 65536 in
set_option maxHeartbeats 40000000 in
theorem rm40_0 (l : Launch) (Z : State) (a0 : Array Value) (hw : ∀ d ∈ tables_1, d.before a0 Z = true) (ws : List Jvm.Cond) (a1 : Addr) (a3 : Addr) (cs : Int32) (G : Value) (vs : List Value) (zs : List Value) (nn2 : Int32) (h0 : Heap) (n0 : Nat) (G0p : own_G Z h0 cs G) (V1p : own_A Z h0 a1 .byte vs) (V2p : own_A Z h0 a3 .byte zs) (G_a3 : n0 ≤ a3) (ne_a1_a3 : a1 ≠ a3)  (kn0 : ¬ ((((own_f38 nn2) ||| (0 : Int32)) ||| (0 : Int32)) < (0 : Int32))) (kn1 : ¬ (((own_f38 nn2) - (0 : Int32)) < (0 : Int32))) (hl_zs : zs.length.toInt32 = nn2) (hlw : 0 ≤ zs.length) :
    own_M l (⟨"java/lang/StringLatin1", "inflate", "([BI[BII)V"⟩ : MethodName) jdk_43_method_50_code 5 none ws ({ frames := 4, cells := 0, slots := 0, locals := 60 } : Room) #[.ref a1, .int (0 : Int32), .ref a3, .int (0 : Int32), .int (0 : Int32)] Z h0 (own_Q40_0 Z a1 a3 cs G vs zs nn2 h0 n0) := by
  refine own_prol (C := "java/lang/StringLatin1") rfl own_pn0 (fun m => own_ef40_k0_k0_k0 m ..) ?_
  intro p e s m below meth c s₁ hx hby hml hown hnm hlk hret X0 e0 hZ
  have N0 := Fr.nil n0
  have K0 := Keep.refl h0 [a3]
  refine own_aloadN X0 hx (hb hby own_d40_0) (q := 1) rfl rfl rfl ?_
  refine own_iloadN X0 hx (hb hby own_d40_1) (q := 2) rfl rfl ?_
  refine own_aloadN X0 hx (hb hby own_d40_2) (q := 3) rfl rfl rfl ?_
  refine own_iloadN X0 hx (hb hby own_d40_3) (q := 4) rfl rfl ?_
  refine own_iload X0 hx (hb hby own_d40_4) (q := 6) rfl rfl ?_
  refine own_callS X0 hx hZ hown (own_h hw 198 rfl) (own_h hw 199 rfl) (own_h hw 104 rfl) (own_h hw 200 rfl) (by decide) (rm41_0 l Z a0 hw [] a1 a3 cs G vs zs nn2 h0 n0 G0p V1p V2p G_a3 ne_a1_a3 kn0 kn1 hl_zs hlw ) own_pd20 rfl e0 (by rw [hml]; rfl) (argsL := [.ref a1, .int (0 : Int32), .ref a3, .int (0 : Int32), .int (0 : Int32)]) (st := []) rfl (W := 0) (Nat.le_of_eq rfl) (by decide) (by decide) (by decide) (by decide) (hb hby own_d40_6) (q := 9) rfl (fun v1807 T1808 L1809 X1810 hQ1811 => ?_)
  obtain ⟨rfl, N1812, K1813, A1815, A1816⟩ := hQ1811
  have G1817 := G0p.keep K1813 (allS V2p.plain all0)
  have K1818 := K0.trans K1813 (allS (Or.inl (List.mem_of_getElem? (i := 0) rfl)) all0)
  have N1814 := Fr.app N0 N1812
  show own_Go _ _ _ _ (T1808.setTop (mkF m 9 #[.val (.ref a1), .val (.int (0 : Int32)), .val (.ref a3), .val (.int (0 : Int32)), .val (.int (0 : Int32))] []))
  refine own_retV X1810 hx hlk (rest := []) hret (hb hby own_d40_9) ?_ (by decide) (by decide)
  show own_Q40_0 Z a1 a3 cs G vs zs nn2 h0 n0 _ T1808.heap _
  exact ⟨rfl, N1814, K1818, A1815, A1816⟩
theorem own_ef39 (m : MethodId) (a1 : Addr) : entryFrame m #[.ref a1] 2 = mkF m 0 #[.val (.ref a1), .unset] [] := by first | (simp [entryFrame, mkF, argsToLocals, Value.category]; done) | rfl
theorem own_d39_0 : decode jdk_68_method_11_code 0 = .ok (.aload_n 0, 1) := by decide +kernel
theorem own_d39_1 : decode jdk_68_method_11_code 1 = .ok (.invokevirtual 83, 3) := by decide +kernel
theorem own_d39_4 : decode jdk_68_method_11_code 4 = .ok (.ifCond .ne 4, 3) := by decide +kernel
theorem own_d39_8 : decode jdk_68_method_11_code 8 = .ok (.aload_n 0, 1) := by decide +kernel
theorem own_d39_9 : decode jdk_68_method_11_code 9 = .ok (.getfield 15, 3) := by decide +kernel
theorem own_d39_12 : decode jdk_68_method_11_code 12 = .ok (.arraylength, 1) := by decide +kernel
theorem own_d39_13 : decode jdk_68_method_11_code 13 = .ok (.invokestatic 26, 3) := by decide +kernel
theorem own_d39_16 : decode jdk_68_method_11_code 16 = .ok (.astore_n 1, 1) := by decide +kernel
theorem own_d39_17 : decode jdk_68_method_11_code 17 = .ok (.aload_n 0, 1) := by decide +kernel
theorem own_d39_18 : decode jdk_68_method_11_code 18 = .ok (.getfield 15, 3) := by decide +kernel
theorem own_d39_21 : decode jdk_68_method_11_code 21 = .ok (.iconst 0, 1) := by decide +kernel
theorem own_d39_22 : decode jdk_68_method_11_code 22 = .ok (.aload_n 1, 1) := by decide +kernel
theorem own_d39_23 : decode jdk_68_method_11_code 23 = .ok (.iconst 0, 1) := by decide +kernel
theorem own_d39_24 : decode jdk_68_method_11_code 24 = .ok (.aload_n 0, 1) := by decide +kernel
theorem own_d39_25 : decode jdk_68_method_11_code 25 = .ok (.getfield 79, 3) := by decide +kernel
theorem own_d39_28 : decode jdk_68_method_11_code 28 = .ok (.invokestatic 125, 3) := by decide +kernel
theorem own_d39_31 : decode jdk_68_method_11_code 31 = .ok (.aload_n 0, 1) := by decide +kernel
theorem own_d39_32 : decode jdk_68_method_11_code 32 = .ok (.aload_n 1, 1) := by decide +kernel
theorem own_d39_33 : decode jdk_68_method_11_code 33 = .ok (.putfield 15, 3) := by decide +kernel
theorem own_d39_36 : decode jdk_68_method_11_code 36 = .ok (.aload_n 0, 1) := by decide +kernel
theorem own_d39_37 : decode jdk_68_method_11_code 37 = .ok (.iconst 1, 1) := by decide +kernel
theorem own_d39_38 : decode jdk_68_method_11_code 38 = .ok (.putfield 22, 3) := by decide +kernel
theorem own_d39_41 : decode jdk_68_method_11_code 41 = .ok (.return_, 1) := by decide +kernel
def own_Q39_0 (Z : State) (a1 : Addr) (cs : Int32) (G : Value) (b1 : Addr) (vs : List Value) (nn : Int32) (h0 : Heap) (n0 : Nat) (v : Option Value) (h : Heap) (L : List Loc) : Prop := ∃ ra0 : Addr, v = none ∧ Fr n0 L ∧ Keep h0 h [a1] ∧ h0.size ≤ ra0 ∧ Exa Z h ra0 "[B" ∧ own_A Z h ra0 .byte (List.replicate (own_f33 nn).toNatClampNeg (.int (0 : Int32))) ∧ Exa Z h a1 "java/lang/StringBuilder" ∧ Fld Z h a1 "java/lang/AbstractStringBuilder" "value" "[B" (.ref ra0) ∧ Fld Z h a1 "java/lang/AbstractStringBuilder" "coder" "B" (.int (1 : Int32)) ∧ Fld Z h a1 "java/lang/AbstractStringBuilder" "count" "I" (.int (0 : Int32)) ∧ Fld Z h a1 "java/lang/AbstractStringBuilder" "maybeLatin1" "Z" (.int (0 : Int32)) ∧ Exa Z h b1 "[B" ∧ own_A Z h b1 .byte vs
set_option maxRecDepth 65536 in
set_option maxHeartbeats 40000000 in
theorem rm39_0 (l : Launch) (Z : State) (a0 : Array Value) (hw : ∀ d ∈ tables_1, d.before a0 Z = true) (ws : List Jvm.Cond) (a1 : Addr) (cs : Int32) (G : Value) (b1 : Addr) (vs : List Value) (nn : Int32) (h0 : Heap) (n0 : Nat) (Z0 : n0 ≤ h0.size) (G0p : own_G Z h0 cs G) (E1p : Exa Z h0 a1 "java/lang/StringBuilder") (F2p : Fld Z h0 a1 "java/lang/AbstractStringBuilder" "value" "[B" (.ref b1)) (F3p : Fld Z h0 a1 "java/lang/AbstractStringBuilder" "coder" "B" (.int (0 : Int32))) (F4p : Fld Z h0 a1 "java/lang/AbstractStringBuilder" "count" "I" (.int (0 : Int32))) (F5p : Fld Z h0 a1 "java/lang/AbstractStringBuilder" "maybeLatin1" "Z" (.int (0 : Int32))) (E6p : Exa Z h0 b1 "[B") (V7p : own_A Z h0 b1 .byte vs) (G_a1 : n0 ≤ a1) (ne_b1_a1 : b1 ≠ a1)  (kn0 : ¬ (nn < (0 : Int32))) (kn1 : nn < (1073741823 : Int32)) (kn2 : ¬ ((own_f33 nn) < (0 : Int32))) (kn3 : ¬ ((((own_f38 (own_f33 nn)) ||| (0 : Int32)) ||| (0 : Int32)) < (0 : Int32))) (kn4 : ¬ (((own_f38 (own_f33 nn)) - (0 : Int32)) < (0 : Int32))) (hl_vs : vs.length.toInt32 = nn) (hcap : (own_f33 nn).toNatClampNeg ≤ 6) (hlw : 0 ≤ (List.replicate (own_f33 nn).toNatClampNeg (Value.int (0 : Int32))).length) :
    own_M l (⟨"java/lang/AbstractStringBuilder", "inflate", "()V"⟩ : MethodName) jdk_68_method_11_code 2 none ws ({ frames := 5, cells := 1, slots := 6, locals := 76 } : Room) #[.ref a1] Z h0 (own_Q39_0 Z a1 cs G b1 vs nn h0 n0) := by
  refine own_prol (C := "java/lang/AbstractStringBuilder") rfl own_pn41 (fun m => own_ef39 m ..) ?_
  intro p e s m below meth c s₁ hx hby hml hown hnm hlk hret X0 e0 hZ
  have N0 := Fr.nil n0
  have K0 := Keep.refl h0 [a1]
  refine own_aloadN X0 hx (hb hby own_d39_0) (q := 1) rfl rfl rfl ?_
  refine own_callV2P X0 hx hZ hown (own_h hw 151 rfl) (own_h hw 84 rfl) (own_h hw 70 rfl) rfl (own_h hw 86 rfl) (own_h hw 85 rfl) (own_h hw 47 rfl) (own_h hw 87 rfl) E1p (by decide) (rm15_0 l Z a0 hw [] a1 cs G h0 G0p F3p) own_pd15 rfl e0 (by rw [hml]; rfl) (argsL := []) (st := []) rfl (W := 0) (Nat.le_of_eq rfl) (by decide) (by decide) (by decide) (by decide) (hb hby own_d39_1) (q := 4) rfl (fun T1819 X1820 e1821 => ?_)
  rw [show (own_f15_0 cs : Int32) = (1 : Int32) from rfl]
  refine own_if0M X1820 hx (hb hby own_d39_4) (cd := .ne) (x := (1 : Int32)) (pt := 8) (q := 7) (by decide) (by decide) rfl rfl (fun _ => ?_) (fun h => False.elim (((by decide) : ¬ ((1 : Int32) = (0 : Int32))) h))
  refine own_aloadN X1820 hx (hb hby own_d39_8) (q := 9) rfl rfl rfl ?_
  refine own_getF X1820 hx hZ hown (host := "") (Or.inl (own_h hw 51 rfl)) Via.refl e1821 F2p (hb hby own_d39_9) (q := 12) rfl (fun T1822 X1823 e1824 => ?_)
  refine own_alen X1823 hx hZ (n := nn) e1824 V7p hl_vs (hb hby own_d39_12) (q := 13) rfl ?_
  refine own_callS X1823 hx hZ hown (own_h hw 194 rfl) (own_h hw 164 rfl) (own_h hw 104 rfl) (own_h hw 165 rfl) (by decide) (rm32 l Z a0 hw [] nn h0 n0 Z0  kn0 kn1 kn2 hcap) own_pd8 rfl e1824 (by rw [hml]; rfl) (argsL := [.int nn]) (st := []) rfl (W := 0) (Nat.le_of_eq rfl) (by decide) (by decide) (by decide) (by decide) (hb hby own_d39_13) (q := 16) rfl (fun v1831 T1832 L1833 X1834 hQ1835 => ?_)
  obtain ⟨a1839, rfl, N1836, K1837, O1840, E1841, A1842⟩ := hQ1835
  have G1843 := G0p.keep K1837 all0
  have E1844 := E1p.keep K1837
  have F1845 := F2p.keep K1837 nin0
  have F1846 := F3p.keep K1837 nin0
  have F1847 := F4p.keep K1837 nin0
  have F1848 := F5p.keep K1837 nin0
  have E1849 := E6p.keep K1837
  have V1850 := V7p.keep K1837 nin0
  have Z1851 : n0 ≤ T1832.heap.size := Nat.le_trans Z0 K1837.1
  have K1852 := K0.trans K1837 all0
  have N1838 := Fr.app N0 N1836
  have ne1853 : a1 ≠ a1839 := Nat.ne_of_lt (Nat.lt_of_lt_of_le E1p.lt O1840)
  have ne1854 : b1 ≠ a1839 := Nat.ne_of_lt (Nat.lt_of_lt_of_le V7p.lt O1840)
  have Z1855 : n0 ≤ a1839 := Nat.le_trans Z0 O1840
  have O1856 : h0.size ≤ a1839 := Nat.le_trans K0.1 O1840
  show own_Go _ _ _ _ (T1832.setTop (mkF m 16 #[.val (.ref a1), .unset] [.ref a1839]))
  refine own_astoreN (L' := #[.val (.ref a1), .val (.ref a1839)]) X1834 hx (hb hby own_d39_16) (q := 17) rfl rfl rfl ?_
  refine own_aloadN X1834 hx (hb hby own_d39_17) (q := 18) rfl rfl rfl ?_
  refine own_getF X1834 hx hZ hown (host := "") (Or.inl (own_h hw 51 rfl)) Via.refl rfl F1845 (hb hby own_d39_18) (q := 21) rfl (fun T1857 X1858 e1859 => ?_)
  refine own_iconst X1858 hx (v := (0 : Int32)) (hb hby own_d39_21) (q := 22) rfl rfl ?_
  refine own_aloadN X1858 hx (hb hby own_d39_22) (q := 23) rfl rfl rfl ?_
  refine own_iconst X1858 hx (v := (0 : Int32)) (hb hby own_d39_23) (q := 24) rfl rfl ?_
  refine own_aloadN X1858 hx (hb hby own_d39_24) (q := 25) rfl rfl rfl ?_
  refine own_getF X1858 hx hZ hown (host := "") (Or.inl (own_h hw 81 rfl)) Via.refl e1859 F1847 (hb hby own_d39_25) (q := 28) rfl (fun T1860 X1861 e1862 => ?_)
  refine own_callS X1861 hx hZ hown (own_h hw 195 rfl) (own_h hw 196 rfl) (own_h hw 124 rfl) (own_h hw 197 rfl) (by decide) (rm40_0 l Z a0 hw [] b1 a1839 cs G vs (List.replicate (own_f33 nn).toNatClampNeg (.int (0 : Int32))) (own_f33 nn) T1832.heap n0 G1843 V1850 A1842 Z1855 ne1854 kn3 kn4 (own_repl kn2) hlw ) own_pd20 rfl e1862 (by rw [hml]; rfl) (argsL := [.ref b1, .int (0 : Int32), .ref a1839, .int (0 : Int32), .int (0 : Int32)]) (st := []) rfl (W := 0) (Nat.le_of_eq rfl) (by decide) (by decide) (by decide) (by decide) (hb hby own_d39_28) (q := 31) rfl (fun v1869 T1870 L1871 X1872 hQ1873 => ?_)
  obtain ⟨rfl, N1874, K1875, A1877, A1878⟩ := hQ1873
  have G1879 := G1843.keep K1875 (allS (own_exaPlain E1841) all0)
  have E1880 := E1844.keep K1875
  have F1881 := F1845.keep K1875 (ninS ne1853 nin0)
  have F1882 := F1846.keep K1875 (ninS ne1853 nin0)
  have F1883 := F1847.keep K1875 (ninS ne1853 nin0)
  have F1884 := F1848.keep K1875 (ninS ne1853 nin0)
  have E1885 := E1849.keep K1875
  have E1886 := E1841.keep K1875
  have Z1887 : n0 ≤ T1870.heap.size := Nat.le_trans Z1851 K1875.1
  have K1888 := K1852.trans K1875 (allS (Or.inr O1856) all0)
  have N1876 := Fr.app N1838 N1874
  show own_Go _ _ _ _ (T1870.setTop (mkF m 31 #[.val (.ref a1), .val (.ref a1839)] []))
  refine own_aloadN X1872 hx (hb hby own_d39_31) (q := 32) rfl rfl rfl ?_
  refine own_aloadN X1872 hx (hb hby own_d39_32) (q := 33) rfl rfl rfl ?_
  refine own_putF X1872 hx hZ hown (host := "") (Or.inl (own_h hw 51 rfl)) Via.refl rfl F1881 E1880 (Or.inl (own_h hw 52 rfl)) (own_h hw 27 rfl) (ty := (.array .byte)) (by decide) rfl rfl (hb hby own_d39_33) (q := 36) rfl (fun T1889 h1892 X1890 e1891 W1893 => ?_)
  have G1894 := G1879.wr W1893
  have E1895 := Exa.wr W1893 E1880
  have F1896 := Fld.same W1893 F1881
  have F1897 := Fld.other W1893 F1882 (Or.inr (slot_ne (C := "java/lang/StringBuilder") (Or.inl (own_h hw 54 rfl)) (Or.inl (own_h hw 52 rfl)) (by decide) (t := .byte) (t' := (.array .byte)) (by decide) (by decide)))
  have F1898 := Fld.other W1893 F1883 (Or.inr (slot_ne (C := "java/lang/StringBuilder") (Or.inl (own_h hw 82 rfl)) (Or.inl (own_h hw 52 rfl)) (by decide) (t := .int) (t' := (.array .byte)) (by decide) (by decide)))
  have F1899 := Fld.other W1893 F1884 (Or.inr (slot_ne (C := "java/lang/StringBuilder") (Or.inl (own_h hw 214 rfl)) (Or.inl (own_h hw 52 rfl)) (by decide) (t := .boolean) (t' := (.array .byte)) (by decide) (by decide)))
  have E1900 := Exa.wr W1893 E1885
  have A1901 := A1877.other W1893 ne_b1_a1
  have E1902 := Exa.wr W1893 E1886
  have A1903 := A1878.other W1893 (Ne.symm ne1853)
  have K1904 := K1888.wr W1893 (Or.inl (List.mem_of_getElem? (i := 0) rfl))
  have Z1905 : n0 ≤ h1892.size := W1893.size ▸ Z1887
  have N1906 := Fr.snoc X1890 N1876 G_a1
  refine own_aloadN X1890 hx (hb hby own_d39_36) (q := 37) rfl rfl rfl ?_
  refine own_iconst X1890 hx (v := (1 : Int32)) (hb hby own_d39_37) (q := 38) rfl rfl ?_
  refine own_putF X1890 hx hZ hown (host := "") (Or.inl (own_h hw 53 rfl)) Via.refl e1891 F1897 E1895 (Or.inl (own_h hw 54 rfl)) (own_h hw 27 rfl) (ty := .byte) (by decide) rfl rfl (hb hby own_d39_38) (q := 41) rfl (fun T1907 h1910 X1908 e1909 W1911 => ?_)
  have G1912 := G1894.wr W1911
  have E1913 := Exa.wr W1911 E1895
  have F1914 := Fld.other W1911 F1896 (Or.inr (slot_ne (C := "java/lang/StringBuilder") (Or.inl (own_h hw 52 rfl)) (Or.inl (own_h hw 54 rfl)) (by decide) (t := (.array .byte)) (t' := .byte) (by decide) (by decide)))
  have F1915 := Fld.same W1911 F1897
  have F1916 := Fld.other W1911 F1898 (Or.inr (slot_ne (C := "java/lang/StringBuilder") (Or.inl (own_h hw 82 rfl)) (Or.inl (own_h hw 54 rfl)) (by decide) (t := .int) (t' := .byte) (by decide) (by decide)))
  have F1917 := Fld.other W1911 F1899 (Or.inr (slot_ne (C := "java/lang/StringBuilder") (Or.inl (own_h hw 214 rfl)) (Or.inl (own_h hw 54 rfl)) (by decide) (t := .boolean) (t' := .byte) (by decide) (by decide)))
  have E1918 := Exa.wr W1911 E1900
  have A1919 := A1901.other W1911 ne_b1_a1
  have E1920 := Exa.wr W1911 E1902
  have A1921 := A1903.other W1911 (Ne.symm ne1853)
  have K1922 := K1904.wr W1911 (Or.inl (List.mem_of_getElem? (i := 0) rfl))
  have Z1923 : n0 ≤ h1910.size := W1911.size ▸ Z1905
  have N1924 := Fr.snoc X1908 N1906 G_a1
  refine own_retV X1908 hx hlk (rest := []) hret (hb hby own_d39_41) ?_ (by decide) (by decide)
  show own_Q39_0 Z a1 cs G b1 vs nn h0 n0 _ T1907.heap _
  rw [e1909]
  exact ⟨a1839, rfl, N1924, K1922, O1856, E1920, A1921, E1913, F1914, F1915, F1916, F1917, E1918, A1919⟩
theorem own_pd21 : parseMethodDescriptor "()V" = some ⟨[], none⟩ := by decide +kernel
theorem own_d27_52 : decode jdk_68_method_31_code 52 = .ok (.aload_n 0, 1) := by decide +kernel
theorem own_d27_53 : decode jdk_68_method_31_code 53 = .ok (.invokevirtual 195, 3) := by decide +kernel
def own_Q27_H0 (Z : State) (a1 : Addr) (p2 : Int32) (cs : Int32) (G : Value) (b1 : Addr) (vs : List Value) (nn : Int32) (h0 : Heap) (n0 : Nat) (v : Option Value) (h : Heap) (L : List Loc) : Prop := ∃ ra0 : Addr, v = some (.ref a1) ∧ Fr n0 L ∧ Keep h0 h [a1] ∧ h0.size ≤ ra0 ∧ Exa Z h ra0 "[B" ∧ own_A Z h ra0 .byte (((List.replicate (own_f33 nn).toNatClampNeg (.int (0 : Int32))).set 0 (.int ((p2 >>> ((0 : Int32) &&& 31)).toInt8.toInt32))).set 1 (.int ((p2 >>> ((8 : Int32) &&& 31)).toInt8.toInt32))) ∧ Exa Z h a1 "java/lang/StringBuilder" ∧ Fld Z h a1 "java/lang/AbstractStringBuilder" "value" "[B" (.ref ra0) ∧ Fld Z h a1 "java/lang/AbstractStringBuilder" "coder" "B" (.int (1 : Int32)) ∧ Fld Z h a1 "java/lang/AbstractStringBuilder" "count" "I" (.int (1 : Int32)) ∧ Fld Z h a1 "java/lang/AbstractStringBuilder" "maybeLatin1" "Z" (.int (0 : Int32)) ∧ Exa Z h b1 "[B" ∧ own_A Z h b1 .byte vs
set_option maxRecDepth 65536 in
set_option maxHeartbeats 40000000 in
theorem rm27_H0 (l : Launch) (Z : State) (a0 : Array Value) (hw : ∀ d ∈ tables_1, d.before a0 Z = true) (ws : List Jvm.Cond) (a1 : Addr) (p2 : Int32) (cs : Int32) (G : Value) (b1 : Addr) (vs : List Value) (nn : Int32) (h0 : Heap) (n0 : Nat) (Z0 : n0 ≤ h0.size) (G0p : own_G Z h0 cs G) (E1p : Exa Z h0 a1 "java/lang/StringBuilder") (F2p : Fld Z h0 a1 "java/lang/AbstractStringBuilder" "value" "[B" (.ref b1)) (F3p : Fld Z h0 a1 "java/lang/AbstractStringBuilder" "coder" "B" (.int (0 : Int32))) (F4p : Fld Z h0 a1 "java/lang/AbstractStringBuilder" "count" "I" (.int (0 : Int32))) (F5p : Fld Z h0 a1 "java/lang/AbstractStringBuilder" "maybeLatin1" "Z" (.int (0 : Int32))) (E6p : Exa Z h0 b1 "[B") (V7p : own_A Z h0 b1 .byte vs) (G_a1 : n0 ≤ a1) (ne_b1_a1 : b1 ≠ a1)  (kn0 : ¬ (nn < (0 : Int32))) (kn1 : nn < (1073741823 : Int32)) (kn2 : ¬ ((own_f33 nn) < (0 : Int32))) (kn3 : ¬ ((((own_f38 (own_f33 nn)) ||| (0 : Int32)) ||| (0 : Int32)) < (0 : Int32))) (kn4 : ¬ (((own_f38 (own_f33 nn)) - (0 : Int32)) < (0 : Int32))) (kn5 : (255 : Int32) < p2) (kn6 : ¬ ((0 : Int32) < ((1 : Int32) - (nn >>> ((0 : Int32) &&& 31))))) (kn7 : (0 : Int32) < (own_f38 (own_f33 nn))) (hl_vs : vs.length.toInt32 = nn) (hcap : (own_f33 nn).toNatClampNeg ≤ 6) (hlw : 0 ≤ (List.replicate (own_f33 nn).toNatClampNeg (Value.int (0 : Int32))).length) (i0 : ((0 : Int32) <<< ((1 : Int32) &&& 31)).toNatClampNeg < (List.replicate (own_f33 nn).toNatClampNeg (Value.int (0 : Int32))).length) (i1 : (((0 : Int32) <<< ((1 : Int32) &&& 31)) + (1 : Int32)).toNatClampNeg < (List.replicate (own_f33 nn).toNatClampNeg (Value.int (0 : Int32))).length) :
    own_M l (⟨"java/lang/AbstractStringBuilder", "append", "(C)Ljava/lang/AbstractStringBuilder;"⟩ : MethodName) jdk_68_method_31_code 2 (some (.object "java/lang/AbstractStringBuilder")) ws ({ frames := 6, cells := 1, slots := 6, locals := 89 } : Room) #[.ref a1, .int p2] Z h0 (own_Q27_H0 Z a1 p2 cs G b1 vs nn h0 n0) := by
  refine own_prol (C := "java/lang/AbstractStringBuilder") rfl own_pn41 (fun m => own_ef27 m ..) ?_
  intro p e s m below meth c s₁ hx hby hml hown hnm hlk hret X0 e0 hZ
  have N0 := Fr.nil n0
  have K0 := Keep.refl h0 [a1]
  refine own_aloadN X0 hx (hb hby own_d27_0) (q := 1) rfl rfl rfl ?_
  refine own_aloadN X0 hx (hb hby own_d27_1) (q := 2) rfl rfl rfl ?_
  refine own_getF X0 hx hZ hown (host := "") (Or.inl (own_h hw 81 rfl)) Via.refl e0 F4p (hb hby own_d27_2) (q := 5) rfl (fun T1925 X1926 e1927 => ?_)
  refine own_iconst X1926 hx (v := (1 : Int32)) (hb hby own_d27_5) (q := 6) rfl rfl ?_
  refine own_iadd X1926 hx (hb hby own_d27_6) (q := 7) rfl ?_
  rw [show ((0 : Int32) + (1 : Int32) : Int32) = (1 : Int32) from by decide]
  refine own_callQ2V X1926 hx hZ hown (own_h hw 146 rfl) (own_h hw 147 rfl) (own_h hw 149 rfl) (own_h hw 148 rfl) (own_h hw 47 rfl) (own_h hw 150 rfl) E1p (by decide) (rm28_0 l Z a0 hw [] a1 (1 : Int32) b1 vs nn h0 F2p F3p V7p kn6 hl_vs) own_pd16 rfl e1927 (by rw [hml]; rfl) (argsL := [.int (1 : Int32)]) (st := []) rfl (W := 0) (Nat.le_of_eq rfl) (by decide) (by decide) (by decide) (by decide) (hb hby own_d27_7) (q := 10) rfl (fun T1928 X1929 e1930 => ?_)
  refine own_aloadN X1929 hx (hb hby own_d27_10) (q := 11) rfl rfl rfl ?_
  refine own_callV2P X1929 hx hZ hown (own_h hw 151 rfl) (own_h hw 84 rfl) (own_h hw 70 rfl) rfl (own_h hw 86 rfl) (own_h hw 85 rfl) (own_h hw 47 rfl) (own_h hw 87 rfl) E1p (by decide) (rm15_0 l Z a0 hw [] a1 cs G h0 G0p F3p) own_pd15 rfl e1930 (by rw [hml]; rfl) (argsL := []) (st := []) rfl (W := 0) (Nat.le_of_eq rfl) (by decide) (by decide) (by decide) (by decide) (hb hby own_d27_11) (q := 14) rfl (fun T1931 X1932 e1933 => ?_)
  rw [show (own_f15_0 cs : Int32) = (1 : Int32) from rfl]
  refine own_if0P X1932 hx (hb hby own_d27_14) (cd := .eq) (x := (1 : Int32)) (pt := 45) (q := 17) (by decide) (by decide) rfl rfl (fun h => False.elim (((by decide) : ¬ ((1 : Int32) = (0 : Int32))) h)) (fun _ => ?_)
  refine own_iloadN X1932 hx (hb hby own_d27_17) (q := 18) rfl rfl ?_
  refine own_callSP X1932 hx hZ hown (own_h hw 152 rfl) (own_h hw 153 rfl) (own_h hw 124 rfl) (own_h hw 154 rfl) (by decide) (rm29_H l Z a0 hw [] p2 h0  kn5) own_pd17 rfl e1933 (by rw [hml]; rfl) (argsL := [.int p2]) (st := []) rfl (W := 0) (Nat.le_of_eq rfl) (by decide) (by decide) (by decide) (by decide) (hb hby own_d27_18) (q := 21) rfl (fun T1934 X1935 e1936 => ?_)
  rw [show (own_f29_H p2 : Int32) = (0 : Int32) from rfl]
  refine own_if0P X1935 hx (hb hby own_d27_21) (cd := .eq) (x := (0 : Int32)) (pt := 45) (q := 24) (by decide) (by decide) rfl rfl (fun _ => ?_) (fun h => False.elim (h ((by decide) : (0 : Int32) = (0 : Int32))))
  refine own_aloadN X1935 hx (hb hby own_d27_45) (q := 46) rfl rfl rfl ?_
  refine own_callV2P X1935 hx hZ hown (own_h hw 151 rfl) (own_h hw 84 rfl) (own_h hw 70 rfl) rfl (own_h hw 86 rfl) (own_h hw 85 rfl) (own_h hw 47 rfl) (own_h hw 87 rfl) E1p (by decide) (rm15_0 l Z a0 hw [] a1 cs G h0 G0p F3p) own_pd15 rfl e1936 (by rw [hml]; rfl) (argsL := []) (st := []) rfl (W := 0) (Nat.le_of_eq rfl) (by decide) (by decide) (by decide) (by decide) (hb hby own_d27_46) (q := 49) rfl (fun T1937 X1938 e1939 => ?_)
  rw [show (own_f15_0 cs : Int32) = (1 : Int32) from rfl]
  refine own_if0P X1938 hx (hb hby own_d27_49) (cd := .eq) (x := (1 : Int32)) (pt := 56) (q := 52) (by decide) (by decide) rfl rfl (fun h => False.elim (((by decide) : ¬ ((1 : Int32) = (0 : Int32))) h)) (fun _ => ?_)
  refine own_aloadN X1938 hx (hb hby own_d27_52) (q := 53) rfl rfl rfl ?_
  refine own_callQ2 X1938 hx hZ hown (own_h hw 189 rfl) (own_h hw 190 rfl) (own_h hw 192 rfl) (own_h hw 191 rfl) (own_h hw 47 rfl) (own_h hw 193 rfl) E1p (by decide) (rm39_0 l Z a0 hw [] a1 cs G b1 vs nn h0 n0 Z0 G0p E1p F2p F3p F4p F5p E6p V7p G_a1 ne_b1_a1 kn0 kn1 kn2 kn3 kn4 hl_vs hcap hlw ) own_pd21 rfl e1939 (by rw [hml]; rfl) (argsL := []) (st := []) rfl (W := 0) (Nat.le_of_eq rfl) (by decide) (by decide) (by decide) (by decide) (hb hby own_d27_53) (q := 56) rfl (fun v1943 T1944 L1945 X1946 hQ1947 => ?_)
  obtain ⟨a1951, rfl, N1948, K1949, O1952, E1953, A1954, E1955, F1956, F1957, F1958, F1959, E1960, A1961⟩ := hQ1947
  have G1962 := G0p.keep K1949 (allS (own_exaPlain E1p) all0)
  have Z1963 : n0 ≤ T1944.heap.size := Nat.le_trans Z0 K1949.1
  have K1964 := K0.trans K1949 (allS (Or.inl (List.mem_of_getElem? (i := 0) rfl)) all0)
  have N1950 := Fr.app N0 N1948
  have ne1965 : a1 ≠ a1951 := Nat.ne_of_lt (Nat.lt_of_lt_of_le E1p.lt O1952)
  have ne1966 : b1 ≠ a1951 := Nat.ne_of_lt (Nat.lt_of_lt_of_le V7p.lt O1952)
  have Z1967 : n0 ≤ a1951 := Nat.le_trans Z0 O1952
  have O1968 : h0.size ≤ a1951 := Nat.le_trans K0.1 O1952
  show own_Go _ _ _ _ (T1944.setTop (mkF m 56 #[.val (.ref a1), .val (.int p2)] []))
  refine own_aloadN X1946 hx (hb hby own_d27_56) (q := 57) rfl rfl rfl ?_
  refine own_getF X1946 hx hZ hown (host := "") (Or.inl (own_h hw 51 rfl)) Via.refl rfl F1956 (hb hby own_d27_57) (q := 60) rfl (fun T1969 X1970 e1971 => ?_)
  refine own_aloadN X1970 hx (hb hby own_d27_60) (q := 61) rfl rfl rfl ?_
  refine own_dup X1970 hx (hb hby own_d27_61) (q := 62) rfl rfl ?_
  refine own_getF X1970 hx hZ hown (host := "") (Or.inl (own_h hw 81 rfl)) Via.refl e1971 F1958 (hb hby own_d27_62) (q := 65) rfl (fun T1972 X1973 e1974 => ?_)
  refine own_dupX1 X1973 hx (hb hby own_d27_65) (q := 66) rfl rfl rfl ?_
  refine own_iconst X1973 hx (v := (1 : Int32)) (hb hby own_d27_66) (q := 67) rfl rfl ?_
  refine own_iadd X1973 hx (hb hby own_d27_67) (q := 68) rfl ?_
  rw [show ((0 : Int32) + (1 : Int32) : Int32) = (1 : Int32) from by decide]
  refine own_putF X1973 hx hZ hown (host := "") (Or.inl (own_h hw 81 rfl)) Via.refl e1974 F1958 E1955 (Or.inl (own_h hw 82 rfl)) (own_h hw 27 rfl) (ty := .int) (by decide) rfl rfl (hb hby own_d27_68) (q := 71) rfl (fun T1975 h1978 X1976 e1977 W1979 => ?_)
  have G1980 := G1962.wr W1979
  have E1981 := Exa.wr W1979 E1955
  have F1982 := Fld.other W1979 F1956 (Or.inr (slot_ne (C := "java/lang/StringBuilder") (Or.inl (own_h hw 52 rfl)) (Or.inl (own_h hw 82 rfl)) (by decide) (t := (.array .byte)) (t' := .int) (by decide) (by decide)))
  have F1983 := Fld.other W1979 F1957 (Or.inr (slot_ne (C := "java/lang/StringBuilder") (Or.inl (own_h hw 54 rfl)) (Or.inl (own_h hw 82 rfl)) (by decide) (t := .byte) (t' := .int) (by decide) (by decide)))
  have F1984 := Fld.same W1979 F1958
  have F1985 := Fld.other W1979 F1959 (Or.inr (slot_ne (C := "java/lang/StringBuilder") (Or.inl (own_h hw 214 rfl)) (Or.inl (own_h hw 82 rfl)) (by decide) (t := .boolean) (t' := .int) (by decide) (by decide)))
  have E1986 := Exa.wr W1979 E1960
  have A1987 := A1961.other W1979 ne_b1_a1
  have E1988 := Exa.wr W1979 E1953
  have A1989 := A1954.other W1979 (Ne.symm ne1965)
  have K1990 := K1964.wr W1979 (Or.inl (List.mem_of_getElem? (i := 0) rfl))
  have Z1991 : n0 ≤ h1978.size := W1979.size ▸ Z1963
  have N1992 := Fr.snoc X1976 N1950 G_a1
  refine own_iloadN X1976 hx (hb hby own_d27_71) (q := 72) rfl rfl ?_
  refine own_callS X1976 hx hZ hown (own_h hw 210 rfl) (own_h hw 211 rfl) (own_h hw 104 rfl) (own_h hw 212 rfl) (by decide) (rm45 l Z a0 hw [] a1951 (0 : Int32) p2 cs G (List.replicate (own_f33 nn).toNatClampNeg (.int (0 : Int32))) (own_f33 nn) h1978 n0 G1980 A1989 Z1967 (by decide) kn7 (by first | exact own_repl kn2 | (simp only [List.length_set]; exact own_repl kn2)) (by decide) (by decide) (by first | exact i0 | (simp only [List.length_set]; exact i0)) (by first | exact i1 | (simp only [List.length_set]; exact i1))) own_pd6 rfl e1977 (by rw [hml]; rfl) (argsL := [.ref a1951, .int (0 : Int32), .int p2]) (st := []) rfl (W := 0) (Nat.le_of_eq rfl) (by decide) (by decide) (by decide) (by decide) (hb hby own_d27_72) (q := 75) rfl (fun v1999 T2000 L2001 X2002 hQ2003 => ?_)
  obtain ⟨rfl, N2004, K2005, A2007⟩ := hQ2003
  have G2008 := G1980.keep K2005 (allS (own_exaPlain E1988) all0)
  have E2009 := E1981.keep K2005
  have F2010 := F1982.keep K2005 (ninS ne1965 nin0)
  have F2011 := F1983.keep K2005 (ninS ne1965 nin0)
  have F2012 := F1984.keep K2005 (ninS ne1965 nin0)
  have F2013 := F1985.keep K2005 (ninS ne1965 nin0)
  have E2014 := E1986.keep K2005
  have A2015 := A1987.keep K2005 (ninS ne1966 nin0)
  have E2016 := E1988.keep K2005
  have Z2017 : n0 ≤ T2000.heap.size := Nat.le_trans Z1991 K2005.1
  have K2018 := K1990.trans K2005 (allS (Or.inr O1968) all0)
  have N2006 := Fr.app N1992 N2004
  show own_Go _ _ _ _ (T2000.setTop (mkF m 75 #[.val (.ref a1), .val (.int p2)] []))
  rw [show ((0 : Int32) <<< ((1 : Int32) &&& 31)).toNatClampNeg = 0 from by decide, show (((0 : Int32) <<< ((1 : Int32) &&& 31)) + (1 : Int32)).toNatClampNeg = 1 from by decide] at A2007
  replace A2007 : own_A Z T2000.heap a1951 .byte (((List.replicate (own_f33 nn).toNatClampNeg (.int (0 : Int32))).set 0 (.int ((p2 >>> ((0 : Int32) &&& 31)).toInt8.toInt32))).set 1 (.int ((p2 >>> ((8 : Int32) &&& 31)).toInt8.toInt32))) := A2007
  refine own_aloadN X2002 hx (hb hby own_d27_75) (q := 76) rfl rfl rfl ?_
  refine own_retA X2002 hx hlk rfl rfl rfl hret (hb hby own_d27_76) ?_ (by decide) (by decide)
  show own_Q27_H0 Z a1 p2 cs G b1 vs nn h0 n0 _ T2000.heap _
  exact ⟨a1951, rfl, N2006, K2018, O1968, E2016, A2007, E2009, F2010, F2011, F2012, F2013, E2014, A2015⟩

def own_Q26_H0 (Z : State) (a1 : Addr) (p2 : Int32) (cs : Int32) (G : Value) (b1 : Addr) (vs : List Value) (nn : Int32) (h0 : Heap) (n0 : Nat) (v : Option Value) (h : Heap) (L : List Loc) : Prop := ∃ ra0 : Addr, v = some (.ref a1) ∧ Fr n0 L ∧ Keep h0 h [a1] ∧ h0.size ≤ ra0 ∧ Exa Z h ra0 "[B" ∧ own_A Z h ra0 .byte (((List.replicate (own_f33 nn).toNatClampNeg (.int (0 : Int32))).set 0 (.int ((p2 >>> ((0 : Int32) &&& 31)).toInt8.toInt32))).set 1 (.int ((p2 >>> ((8 : Int32) &&& 31)).toInt8.toInt32))) ∧ Exa Z h a1 "java/lang/StringBuilder" ∧ Fld Z h a1 "java/lang/AbstractStringBuilder" "value" "[B" (.ref ra0) ∧ Fld Z h a1 "java/lang/AbstractStringBuilder" "coder" "B" (.int (1 : Int32)) ∧ Fld Z h a1 "java/lang/AbstractStringBuilder" "count" "I" (.int (1 : Int32)) ∧ Fld Z h a1 "java/lang/AbstractStringBuilder" "maybeLatin1" "Z" (.int (0 : Int32)) ∧ Exa Z h b1 "[B" ∧ own_A Z h b1 .byte vs
set_option maxRecDepth 65536 in
set_option maxHeartbeats 40000000 in
theorem rm26_H0 (l : Launch) (Z : State) (a0 : Array Value) (hw : ∀ d ∈ tables_1, d.before a0 Z = true) (ws : List Jvm.Cond) (a1 : Addr) (p2 : Int32) (cs : Int32) (G : Value) (b1 : Addr) (vs : List Value) (nn : Int32) (h0 : Heap) (n0 : Nat) (Z0 : n0 ≤ h0.size) (G0p : own_G Z h0 cs G) (E1p : Exa Z h0 a1 "java/lang/StringBuilder") (F2p : Fld Z h0 a1 "java/lang/AbstractStringBuilder" "value" "[B" (.ref b1)) (F3p : Fld Z h0 a1 "java/lang/AbstractStringBuilder" "coder" "B" (.int (0 : Int32))) (F4p : Fld Z h0 a1 "java/lang/AbstractStringBuilder" "count" "I" (.int (0 : Int32))) (F5p : Fld Z h0 a1 "java/lang/AbstractStringBuilder" "maybeLatin1" "Z" (.int (0 : Int32))) (E6p : Exa Z h0 b1 "[B") (V7p : own_A Z h0 b1 .byte vs) (G_a1 : n0 ≤ a1) (ne_b1_a1 : b1 ≠ a1)  (kn0 : ¬ (nn < (0 : Int32))) (kn1 : nn < (1073741823 : Int32)) (kn2 : ¬ ((own_f33 nn) < (0 : Int32))) (kn3 : ¬ ((((own_f38 (own_f33 nn)) ||| (0 : Int32)) ||| (0 : Int32)) < (0 : Int32))) (kn4 : ¬ (((own_f38 (own_f33 nn)) - (0 : Int32)) < (0 : Int32))) (kn5 : (255 : Int32) < p2) (kn6 : ¬ ((0 : Int32) < ((1 : Int32) - (nn >>> ((0 : Int32) &&& 31))))) (kn7 : (0 : Int32) < (own_f38 (own_f33 nn))) (hl_vs : vs.length.toInt32 = nn) (hcap : (own_f33 nn).toNatClampNeg ≤ 6) (hlw : 0 ≤ (List.replicate (own_f33 nn).toNatClampNeg (Value.int (0 : Int32))).length) (i0 : ((0 : Int32) <<< ((1 : Int32) &&& 31)).toNatClampNeg < (List.replicate (own_f33 nn).toNatClampNeg (Value.int (0 : Int32))).length) (i1 : (((0 : Int32) <<< ((1 : Int32) &&& 31)) + (1 : Int32)).toNatClampNeg < (List.replicate (own_f33 nn).toNatClampNeg (Value.int (0 : Int32))).length) :
    own_M l (⟨"java/lang/StringBuilder", "append", "(C)Ljava/lang/StringBuilder;"⟩ : MethodName) jdk_67_method_14_code 2 (some (.object "java/lang/StringBuilder")) ws ({ frames := 7, cells := 1, slots := 6, locals := 102 } : Room) #[.ref a1, .int p2] Z h0 (own_Q26_H0 Z a1 p2 cs G b1 vs nn h0 n0) := by
  refine own_prol (C := "java/lang/StringBuilder") rfl own_pn43 (fun m => own_ef26 m ..) ?_
  intro p e s m below meth c s₁ hx hby hml hown hnm hlk hret X0 e0 hZ
  have N0 := Fr.nil n0
  have K0 := Keep.refl h0 [a1]
  refine own_aloadN X0 hx (hb hby own_d26_0) (q := 1) rfl rfl rfl ?_
  refine own_iloadN X0 hx (hb hby own_d26_1) (q := 2) rfl rfl ?_
  refine own_callU X0 hx hZ hown (own_h hw 142 rfl) (own_same (own_h hw 143 rfl) (own_nf (own_h hw 70 rfl) rfl) (by decide)) (own_h hw 143 rfl) (own_h hw 79 rfl) (own_h hw 47 rfl) (own_h hw 145 rfl) E1p (by decide) (by decide) (rm27_H0 l Z a0 hw [] a1 p2 cs G b1 vs nn h0 n0 Z0 G0p E1p F2p F3p F4p F5p E6p V7p G_a1 ne_b1_a1 kn0 kn1 kn2 kn3 kn4 kn5 kn6 kn7 hl_vs hcap hlw  i0 i1) own_pd18 rfl e0 (by rw [hml]; rfl) (argsL := [.int p2]) (st := []) rfl (W := 0) (Nat.le_of_eq rfl) (by decide) (by decide) (by decide) (by decide) (hb hby own_d26_2) (q := 5) rfl (fun v2022 T2023 L2024 X2025 hQ2026 => ?_)
  obtain ⟨a2030, rfl, N2027, K2028, O2031, E2032, A2033, E2034, F2035, F2036, F2037, F2038, E2039, A2040⟩ := hQ2026
  have G2041 := G0p.keep K2028 (allS (own_exaPlain E1p) all0)
  have Z2042 : n0 ≤ T2023.heap.size := Nat.le_trans Z0 K2028.1
  have K2043 := K0.trans K2028 (allS (Or.inl (List.mem_of_getElem? (i := 0) rfl)) all0)
  have N2029 := Fr.app N0 N2027
  have ne2044 : a1 ≠ a2030 := Nat.ne_of_lt (Nat.lt_of_lt_of_le E1p.lt O2031)
  have ne2045 : b1 ≠ a2030 := Nat.ne_of_lt (Nat.lt_of_lt_of_le V7p.lt O2031)
  have Z2046 : n0 ≤ a2030 := Nat.le_trans Z0 O2031
  have O2047 : h0.size ≤ a2030 := Nat.le_trans K0.1 O2031
  show own_Go _ _ _ _ (T2023.setTop (mkF m 5 #[.val (.ref a1), .val (.int p2)] [.ref a1]))
  refine own_pop X2025 hx (hb hby own_d26_5) (q := 6) rfl rfl ?_
  refine own_aloadN X2025 hx (hb hby own_d26_6) (q := 7) rfl rfl rfl ?_
  refine own_retA X2025 hx hlk rfl rfl rfl hret (hb hby own_d26_7) ?_ (by decide) (by decide)
  show own_Q26_H0 Z a1 p2 cs G b1 vs nn h0 n0 _ T2023.heap _
  exact ⟨a2030, rfl, N2029, K2043, O2047, E2032, A2033, E2034, F2035, F2036, F2037, F2038, E2039, A2040⟩
theorem own_ef41_k0_k0_k1 (m : MethodId) (a1 : Addr) (a3 : Addr) : entryFrame m #[.ref a1, .int (0 : Int32), .ref a3, .int (0 : Int32), .int (1 : Int32)] 6 = mkF m 0 #[.val (.ref a1), .val (.int (0 : Int32)), .val (.ref a3), .val (.int (0 : Int32)), .val (.int (1 : Int32)), .unset] [] := by first | (simp [entryFrame, mkF, argsToLocals, Value.category]; done) | rfl
theorem own_d41_17 : decode jdk_52_method_86_code 17 = .ok (.aload_n 2, 1) := by decide +kernel
theorem own_d41_18 : decode jdk_52_method_86_code 18 = .ok (.iload_n 3, 1) := by decide +kernel
theorem own_d41_19 : decode jdk_52_method_86_code 19 = .ok (.iinc 3 1, 3) := by decide +kernel
theorem own_d41_22 : decode jdk_52_method_86_code 22 = .ok (.aload_n 0, 1) := by decide +kernel
theorem own_d41_23 : decode jdk_52_method_86_code 23 = .ok (.iload_n 1, 1) := by decide +kernel
theorem own_d41_24 : decode jdk_52_method_86_code 24 = .ok (.iinc 1 1, 3) := by decide +kernel
theorem own_d41_27 : decode jdk_52_method_86_code 27 = .ok (.baload, 1) := by decide +kernel
theorem own_d41_28 : decode jdk_52_method_86_code 28 = .ok (.sipush 255, 3) := by decide +kernel
theorem own_d41_31 : decode jdk_52_method_86_code 31 = .ok (.iand, 1) := by decide +kernel
theorem own_d41_32 : decode jdk_52_method_86_code 32 = .ok (.invokestatic 111, 3) := by decide +kernel
theorem own_d41_35 : decode jdk_52_method_86_code 35 = .ok (.iinc 5 1, 3) := by decide +kernel
theorem own_d41_38 : decode jdk_52_method_86_code 38 = .ok (.goto (-28), 3) := by decide +kernel
def own_Q41_1 (Z : State) (a1 : Addr) (a3 : Addr) (cs : Int32) (G : Value) (vs : List Value) (y0 : Int32) (zs : List Value) (nn2 : Int32) (h0 : Heap) (n0 : Nat) (v : Option Value) (h : Heap) (L : List Loc) : Prop := v = none ∧ Fr n0 L ∧ Keep h0 h [a3] ∧ own_A Z h a1 .byte vs ∧ own_A Z h a3 .byte ((zs.set 0 (.int (((y0 &&& (255 : Int32)) >>> ((0 : Int32) &&& 31)).toInt8.toInt32))).set 1 (.int (((y0 &&& (255 : Int32)) >>> ((8 : Int32) &&& 31)).toInt8.toInt32)))
set_option maxRecDepth 65536 in
set_option maxHeartbeats 40000000 in
theorem rm41_1 (l : Launch) (Z : State) (a0 : Array Value) (hw : ∀ d ∈ tables_1, d.before a0 Z = true) (ws : List Jvm.Cond) (a1 : Addr) (a3 : Addr) (cs : Int32) (G : Value) (vs : List Value) (y0 : Int32) (zs : List Value) (nn2 : Int32) (h0 : Heap) (n0 : Nat) (G0p : own_G Z h0 cs G) (V1p : own_A Z h0 a1 .byte vs) (V2p : own_A Z h0 a3 .byte zs) (G_a3 : n0 ≤ a3) (ne_a1_a3 : a1 ≠ a3)  (kn0 : ¬ ((((own_f38 nn2) ||| (0 : Int32)) ||| (1 : Int32)) < (0 : Int32))) (kn1 : ¬ (((own_f38 nn2) - (0 : Int32)) < (1 : Int32))) (hl_zs : zs.length.toInt32 = nn2) (hlw : 2 ≤ zs.length) (r0 : vs[0]? = some (.int y0)) :
    own_M l (⟨"java/lang/StringUTF16", "inflate", "([BI[BII)V"⟩ : MethodName) jdk_52_method_86_code 6 none ws ({ frames := 3, cells := 0, slots := 0, locals := 43 } : Room) #[.ref a1, .int (0 : Int32), .ref a3, .int (0 : Int32), .int (1 : Int32)] Z h0 (own_Q41_1 Z a1 a3 cs G vs y0 zs nn2 h0 n0) := by
  refine own_prol (C := "java/lang/StringUTF16") rfl own_pn10 (fun m => own_ef41_k0_k0_k1 m ..) ?_
  intro p e s m below meth c s₁ hx hby hml hown hnm hlk hret X0 e0 hZ
  have N0 := Fr.nil n0
  have K0 := Keep.refl h0 [a3]
  refine own_iloadN X0 hx (hb hby own_d41_0) (q := 1) rfl rfl ?_
  refine own_iload X0 hx (hb hby own_d41_1) (q := 3) rfl rfl ?_
  refine own_aloadN X0 hx (hb hby own_d41_3) (q := 4) rfl rfl rfl ?_
  refine own_callSV X0 hx hZ hown (own_h hw 201 rfl) (own_h hw 202 rfl) (own_h hw 104 rfl) (own_h hw 203 rfl) (by decide) (rm42 l Z a0 hw [] (0 : Int32) (1 : Int32) a3 cs G zs nn2 h0 G0p V2p kn0 kn1 hl_zs) own_pd19 rfl e0 (by rw [hml]; rfl) (argsL := [.int (0 : Int32), .int (1 : Int32), .ref a3]) (st := []) rfl (W := 0) (Nat.le_of_eq rfl) (by decide) (by decide) (by decide) (by decide) (hb hby own_d41_4) (q := 7) rfl (fun T2051 X2052 e2053 => ?_)
  refine own_iconst X2052 hx (v := (0 : Int32)) (hb hby own_d41_7) (q := 8) rfl rfl ?_
  refine own_istore (L' := #[.val (.ref a1), .val (.int (0 : Int32)), .val (.ref a3), .val (.int (0 : Int32)), .val (.int (1 : Int32)), .val (.int (0 : Int32))]) X2052 hx (hb hby own_d41_8) (q := 10) rfl rfl ?_
  refine own_iload X2052 hx (hb hby own_d41_10) (q := 12) rfl rfl ?_
  refine own_iload X2052 hx (hb hby own_d41_12) (q := 14) rfl rfl ?_
  refine own_icmpM X2052 hx (hb hby own_d41_14) (cd := .ge) (x := (0 : Int32)) (y := (1 : Int32)) (pt := 41) (q := 17) (by decide) (by decide) rfl rfl (fun h => False.elim (h ((by decide) : (0 : Int32) < (1 : Int32)))) (fun _ => ?_)
  refine own_aloadN X2052 hx (hb hby own_d41_17) (q := 18) rfl rfl rfl ?_
  refine own_iloadN X2052 hx (hb hby own_d41_18) (q := 19) rfl rfl ?_
  refine own_iinc (L' := #[.val (.ref a1), .val (.int (0 : Int32)), .val (.ref a3), .val (.int ((0 : Int32) + (1 : Int32))), .val (.int (1 : Int32)), .val (.int (0 : Int32))]) X2052 hx (v := (1 : Int32)) (hb hby own_d41_19) (q := 22) rfl rfl rfl rfl ?_
  rw [show ((0 : Int32) + (1 : Int32) : Int32) = (1 : Int32) from by decide]
  refine own_aloadN X2052 hx (hb hby own_d41_22) (q := 23) rfl rfl rfl ?_
  refine own_iloadN X2052 hx (hb hby own_d41_23) (q := 24) rfl rfl ?_
  refine own_iinc (L' := #[.val (.ref a1), .val (.int ((0 : Int32) + (1 : Int32))), .val (.ref a3), .val (.int (1 : Int32)), .val (.int (1 : Int32)), .val (.int (0 : Int32))]) X2052 hx (v := (1 : Int32)) (hb hby own_d41_24) (q := 27) rfl rfl rfl rfl ?_
  rw [show ((0 : Int32) + (1 : Int32) : Int32) = (1 : Int32) from by decide]
  refine own_baload X2052 hx hZ (i := 0) (v := .int y0) e2053 V1p (by decide) (by decide) r0 (hb hby own_d41_27) (q := 28) rfl ?_
  refine own_sipush X2052 hx (v := (255 : Int32)) (hb hby own_d41_28) (q := 31) rfl rfl ?_
  refine own_iand X2052 hx (hb hby own_d41_31) (q := 32) rfl ?_
  refine own_callS X2052 hx hZ hown (own_h hw 170 rfl) (own_h hw 171 rfl) (own_h hw 104 rfl) (own_h hw 172 rfl) (by decide) (rm34 l Z a0 hw [] a3 (0 : Int32) (y0 &&& (255 : Int32)) cs G zs h0 n0 G0p V2p G_a3 (by decide) (by decide) (by first | exact Nat.lt_of_lt_of_le (by decide) hlw | (simp only [List.length_set]; exact Nat.lt_of_lt_of_le (by decide) hlw)) (by first | exact Nat.lt_of_lt_of_le (by decide) hlw | (simp only [List.length_set]; exact Nat.lt_of_lt_of_le (by decide) hlw))) own_pd6 rfl e2053 (by rw [hml]; rfl) (argsL := [.ref a3, .int (0 : Int32), .int (y0 &&& (255 : Int32))]) (st := []) rfl (W := 0) (Nat.le_of_eq rfl) (by decide) (by decide) (by decide) (by decide) (hb hby own_d41_32) (q := 35) rfl (fun v2060 T2061 L2062 X2063 hQ2064 => ?_)
  obtain ⟨rfl, N2065, K2066, A2068⟩ := hQ2064
  have G2069 := G0p.keep K2066 (allS V2p.plain all0)
  have V2070 := V1p.keep K2066 (ninS ne_a1_a3 nin0)
  have K2071 := K0.trans K2066 (allS (Or.inl (List.mem_of_getElem? (i := 0) rfl)) all0)
  have N2067 := Fr.app N0 N2065
  show own_Go _ _ _ _ (T2061.setTop (mkF m 35 #[.val (.ref a1), .val (.int (1 : Int32)), .val (.ref a3), .val (.int (1 : Int32)), .val (.int (1 : Int32)), .val (.int (0 : Int32))] []))
  rw [show ((0 : Int32) <<< ((1 : Int32) &&& 31)).toNatClampNeg = 0 from by decide, show (((0 : Int32) <<< ((1 : Int32) &&& 31)) + (1 : Int32)).toNatClampNeg = 1 from by decide] at A2068
  replace A2068 : own_A Z T2061.heap a3 .byte ((zs.set 0 (.int (((y0 &&& (255 : Int32)) >>> ((0 : Int32) &&& 31)).toInt8.toInt32))).set 1 (.int (((y0 &&& (255 : Int32)) >>> ((8 : Int32) &&& 31)).toInt8.toInt32))) := A2068
  refine own_iinc (L' := #[.val (.ref a1), .val (.int (1 : Int32)), .val (.ref a3), .val (.int (1 : Int32)), .val (.int (1 : Int32)), .val (.int ((0 : Int32) + (1 : Int32)))]) X2063 hx (v := (1 : Int32)) (hb hby own_d41_35) (q := 38) rfl rfl rfl rfl ?_
  rw [show ((0 : Int32) + (1 : Int32) : Int32) = (1 : Int32) from by decide]
  refine own_goto X2063 hx (hb hby own_d41_38) (q := 10) (by decide) (by decide) ?_
  refine own_iload X2063 hx (hb hby own_d41_10) (q := 12) rfl rfl ?_
  refine own_iload X2063 hx (hb hby own_d41_12) (q := 14) rfl rfl ?_
  refine own_icmpM X2063 hx (hb hby own_d41_14) (cd := .ge) (x := (1 : Int32)) (y := (1 : Int32)) (pt := 41) (q := 17) (by decide) (by decide) rfl rfl (fun _ => ?_) (fun h => False.elim (((by decide) : ¬ ((1 : Int32) < (1 : Int32))) h))
  refine own_retV X2063 hx hlk (rest := []) hret (hb hby own_d41_41) ?_ (by decide) (by decide)
  show own_Q41_1 Z a1 a3 cs G vs y0 zs nn2 h0 n0 _ T2061.heap _
  exact ⟨rfl, N2067, K2071, V2070, A2068⟩
theorem own_ef40_k0_k0_k1 (m : MethodId) (a1 : Addr) (a3 : Addr) : entryFrame m #[.ref a1, .int (0 : Int32), .ref a3, .int (0 : Int32), .int (1 : Int32)] 5 = mkF m 0 #[.val (.ref a1), .val (.int (0 : Int32)), .val (.ref a3), .val (.int (0 : Int32)), .val (.int (1 : Int32))] [] := by first | (simp [entryFrame, mkF, argsToLocals, Value.category]; done) | rfl

def own_Q40_1 (Z : State) (a1 : Addr) (a3 : Addr) (cs : Int32) (G : Value) (vs : List Value) (y0 : Int32) (zs : List Value) (nn2 : Int32) (h0 : Heap) (n0 : Nat) (v : Option Value) (h : Heap) (L : List Loc) : Prop := v = none ∧ Fr n0 L ∧ Keep h0 h [a3] ∧ own_A Z h a1 .byte vs ∧ own_A Z h a3 .byte ((zs.set 0 (.int (((y0 &&& (255 : Int32)) >>> ((0 : Int32) &&& 31)).toInt8.toInt32))).set 1 (.int (((y0 &&& (255 : Int32)) >>> ((8 : Int32) &&& 31)).toInt8.toInt32)))
set_option maxRecDepth 65536 in
set_option maxHeartbeats 40000000 in
theorem rm40_1 (l : Launch) (Z : State) (a0 : Array Value) (hw : ∀ d ∈ tables_1, d.before a0 Z = true) (ws : List Jvm.Cond) (a1 : Addr) (a3 : Addr) (cs : Int32) (G : Value) (vs : List Value) (y0 : Int32) (zs : List Value) (nn2 : Int32) (h0 : Heap) (n0 : Nat) (G0p : own_G Z h0 cs G) (V1p : own_A Z h0 a1 .byte vs) (V2p : own_A Z h0 a3 .byte zs) (G_a3 : n0 ≤ a3) (ne_a1_a3 : a1 ≠ a3)  (kn0 : ¬ ((((own_f38 nn2) ||| (0 : Int32)) ||| (1 : Int32)) < (0 : Int32))) (kn1 : ¬ (((own_f38 nn2) - (0 : Int32)) < (1 : Int32))) (hl_zs : zs.length.toInt32 = nn2) (hlw : 2 ≤ zs.length) (r0 : vs[0]? = some (.int y0)) :
    own_M l (⟨"java/lang/StringLatin1", "inflate", "([BI[BII)V"⟩ : MethodName) jdk_43_method_50_code 5 none ws ({ frames := 4, cells := 0, slots := 0, locals := 60 } : Room) #[.ref a1, .int (0 : Int32), .ref a3, .int (0 : Int32), .int (1 : Int32)] Z h0 (own_Q40_1 Z a1 a3 cs G vs y0 zs nn2 h0 n0) := by
  refine own_prol (C := "java/lang/StringLatin1") rfl own_pn0 (fun m => own_ef40_k0_k0_k1 m ..) ?_
  intro p e s m below meth c s₁ hx hby hml hown hnm hlk hret X0 e0 hZ
  have N0 := Fr.nil n0
  have K0 := Keep.refl h0 [a3]
  refine own_aloadN X0 hx (hb hby own_d40_0) (q := 1) rfl rfl rfl ?_
  refine own_iloadN X0 hx (hb hby own_d40_1) (q := 2) rfl rfl ?_
  refine own_aloadN X0 hx (hb hby own_d40_2) (q := 3) rfl rfl rfl ?_
  refine own_iloadN X0 hx (hb hby own_d40_3) (q := 4) rfl rfl ?_
  refine own_iload X0 hx (hb hby own_d40_4) (q := 6) rfl rfl ?_
  refine own_callS X0 hx hZ hown (own_h hw 198 rfl) (own_h hw 199 rfl) (own_h hw 104 rfl) (own_h hw 200 rfl) (by decide) (rm41_1 l Z a0 hw [] a1 a3 cs G vs y0 zs nn2 h0 n0 G0p V1p V2p G_a3 ne_a1_a3 kn0 kn1 hl_zs hlw r0) own_pd20 rfl e0 (by rw [hml]; rfl) (argsL := [.ref a1, .int (0 : Int32), .ref a3, .int (0 : Int32), .int (1 : Int32)]) (st := []) rfl (W := 0) (Nat.le_of_eq rfl) (by decide) (by decide) (by decide) (by decide) (hb hby own_d40_6) (q := 9) rfl (fun v2078 T2079 L2080 X2081 hQ2082 => ?_)
  obtain ⟨rfl, N2083, K2084, A2086, A2087⟩ := hQ2082
  have G2088 := G0p.keep K2084 (allS V2p.plain all0)
  have K2089 := K0.trans K2084 (allS (Or.inl (List.mem_of_getElem? (i := 0) rfl)) all0)
  have N2085 := Fr.app N0 N2083
  show own_Go _ _ _ _ (T2079.setTop (mkF m 9 #[.val (.ref a1), .val (.int (0 : Int32)), .val (.ref a3), .val (.int (0 : Int32)), .val (.int (1 : Int32))] []))
  refine own_retV X2081 hx hlk (rest := []) hret (hb hby own_d40_9) ?_ (by decide) (by decide)
  show own_Q40_1 Z a1 a3 cs G vs y0 zs nn2 h0 n0 _ T2079.heap _
  exact ⟨rfl, N2085, K2089, A2086, A2087⟩

def own_Q39_1 (Z : State) (a1 : Addr) (cs : Int32) (G : Value) (b1 : Addr) (vs : List Value) (nn : Int32) (y0 : Int32) (h0 : Heap) (n0 : Nat) (v : Option Value) (h : Heap) (L : List Loc) : Prop := ∃ ra0 : Addr, v = none ∧ Fr n0 L ∧ Keep h0 h [a1] ∧ h0.size ≤ ra0 ∧ Exa Z h ra0 "[B" ∧ own_A Z h ra0 .byte (((List.replicate (own_f33 nn).toNatClampNeg (.int (0 : Int32))).set 0 (.int (((y0 &&& (255 : Int32)) >>> ((0 : Int32) &&& 31)).toInt8.toInt32))).set 1 (.int (((y0 &&& (255 : Int32)) >>> ((8 : Int32) &&& 31)).toInt8.toInt32))) ∧ Exa Z h a1 "java/lang/StringBuilder" ∧ Fld Z h a1 "java/lang/AbstractStringBuilder" "value" "[B" (.ref ra0) ∧ Fld Z h a1 "java/lang/AbstractStringBuilder" "coder" "B" (.int (1 : Int32)) ∧ Fld Z h a1 "java/lang/AbstractStringBuilder" "count" "I" (.int (1 : Int32)) ∧ Fld Z h a1 "java/lang/AbstractStringBuilder" "maybeLatin1" "Z" (.int (0 : Int32)) ∧ Exa Z h b1 "[B" ∧ own_A Z h b1 .byte vs
set_option maxRecDepth 65536 in
set_option maxHeartbeats 40000000 in
theorem rm39_1 (l : Launch) (Z : State) (a0 : Array Value) (hw : ∀ d ∈ tables_1, d.before a0 Z = true) (ws : List Jvm.Cond) (a1 : Addr) (cs : Int32) (G : Value) (b1 : Addr) (vs : List Value) (nn : Int32) (y0 : Int32) (h0 : Heap) (n0 : Nat) (Z0 : n0 ≤ h0.size) (G0p : own_G Z h0 cs G) (E1p : Exa Z h0 a1 "java/lang/StringBuilder") (F2p : Fld Z h0 a1 "java/lang/AbstractStringBuilder" "value" "[B" (.ref b1)) (F3p : Fld Z h0 a1 "java/lang/AbstractStringBuilder" "coder" "B" (.int (0 : Int32))) (F4p : Fld Z h0 a1 "java/lang/AbstractStringBuilder" "count" "I" (.int (1 : Int32))) (F5p : Fld Z h0 a1 "java/lang/AbstractStringBuilder" "maybeLatin1" "Z" (.int (0 : Int32))) (E6p : Exa Z h0 b1 "[B") (V7p : own_A Z h0 b1 .byte vs) (G_a1 : n0 ≤ a1) (ne_b1_a1 : b1 ≠ a1)  (kn0 : ¬ (nn < (0 : Int32))) (kn1 : nn < (1073741823 : Int32)) (kn2 : ¬ ((own_f33 nn) < (0 : Int32))) (kn3 : ¬ ((((own_f38 (own_f33 nn)) ||| (0 : Int32)) ||| (1 : Int32)) < (0 : Int32))) (kn4 : ¬ (((own_f38 (own_f33 nn)) - (0 : Int32)) < (1 : Int32))) (hl_vs : vs.length.toInt32 = nn) (hcap : (own_f33 nn).toNatClampNeg ≤ 6) (hlw : 2 ≤ (List.replicate (own_f33 nn).toNatClampNeg (Value.int (0 : Int32))).length) (r0 : vs[0]? = some (.int y0)) :
    own_M l (⟨"java/lang/AbstractStringBuilder", "inflate", "()V"⟩ : MethodName) jdk_68_method_11_code 2 none ws ({ frames := 5, cells := 1, slots := 6, locals := 76 } : Room) #[.ref a1] Z h0 (own_Q39_1 Z a1 cs G b1 vs nn y0 h0 n0) := by
  refine own_prol (C := "java/lang/AbstractStringBuilder") rfl own_pn41 (fun m => own_ef39 m ..) ?_
  intro p e s m below meth c s₁ hx hby hml hown hnm hlk hret X0 e0 hZ
  have N0 := Fr.nil n0
  have K0 := Keep.refl h0 [a1]
  refine own_aloadN X0 hx (hb hby own_d39_0) (q := 1) rfl rfl rfl ?_
  refine own_callV2P X0 hx hZ hown (own_h hw 151 rfl) (own_h hw 84 rfl) (own_h hw 70 rfl) rfl (own_h hw 86 rfl) (own_h hw 85 rfl) (own_h hw 47 rfl) (own_h hw 87 rfl) E1p (by decide) (rm15_0 l Z a0 hw [] a1 cs G h0 G0p F3p) own_pd15 rfl e0 (by rw [hml]; rfl) (argsL := []) (st := []) rfl (W := 0) (Nat.le_of_eq rfl) (by decide) (by decide) (by decide) (by decide) (hb hby own_d39_1) (q := 4) rfl (fun T2090 X2091 e2092 => ?_)
  rw [show (own_f15_0 cs : Int32) = (1 : Int32) from rfl]
  refine own_if0M X2091 hx (hb hby own_d39_4) (cd := .ne) (x := (1 : Int32)) (pt := 8) (q := 7) (by decide) (by decide) rfl rfl (fun _ => ?_) (fun h => False.elim (((by decide) : ¬ ((1 : Int32) = (0 : Int32))) h))
  refine own_aloadN X2091 hx (hb hby own_d39_8) (q := 9) rfl rfl rfl ?_
  refine own_getF X2091 hx hZ hown (host := "") (Or.inl (own_h hw 51 rfl)) Via.refl e2092 F2p (hb hby own_d39_9) (q := 12) rfl (fun T2093 X2094 e2095 => ?_)
  refine own_alen X2094 hx hZ (n := nn) e2095 V7p hl_vs (hb hby own_d39_12) (q := 13) rfl ?_
  refine own_callS X2094 hx hZ hown (own_h hw 194 rfl) (own_h hw 164 rfl) (own_h hw 104 rfl) (own_h hw 165 rfl) (by decide) (rm32 l Z a0 hw [] nn h0 n0 Z0  kn0 kn1 kn2 hcap) own_pd8 rfl e2095 (by rw [hml]; rfl) (argsL := [.int nn]) (st := []) rfl (W := 0) (Nat.le_of_eq rfl) (by decide) (by decide) (by decide) (by decide) (hb hby own_d39_13) (q := 16) rfl (fun v2102 T2103 L2104 X2105 hQ2106 => ?_)
  obtain ⟨a2110, rfl, N2107, K2108, O2111, E2112, A2113⟩ := hQ2106
  have G2114 := G0p.keep K2108 all0
  have E2115 := E1p.keep K2108
  have F2116 := F2p.keep K2108 nin0
  have F2117 := F3p.keep K2108 nin0
  have F2118 := F4p.keep K2108 nin0
  have F2119 := F5p.keep K2108 nin0
  have E2120 := E6p.keep K2108
  have V2121 := V7p.keep K2108 nin0
  have Z2122 : n0 ≤ T2103.heap.size := Nat.le_trans Z0 K2108.1
  have K2123 := K0.trans K2108 all0
  have N2109 := Fr.app N0 N2107
  have ne2124 : a1 ≠ a2110 := Nat.ne_of_lt (Nat.lt_of_lt_of_le E1p.lt O2111)
  have ne2125 : b1 ≠ a2110 := Nat.ne_of_lt (Nat.lt_of_lt_of_le V7p.lt O2111)
  have Z2126 : n0 ≤ a2110 := Nat.le_trans Z0 O2111
  have O2127 : h0.size ≤ a2110 := Nat.le_trans K0.1 O2111
  show own_Go _ _ _ _ (T2103.setTop (mkF m 16 #[.val (.ref a1), .unset] [.ref a2110]))
  refine own_astoreN (L' := #[.val (.ref a1), .val (.ref a2110)]) X2105 hx (hb hby own_d39_16) (q := 17) rfl rfl rfl ?_
  refine own_aloadN X2105 hx (hb hby own_d39_17) (q := 18) rfl rfl rfl ?_
  refine own_getF X2105 hx hZ hown (host := "") (Or.inl (own_h hw 51 rfl)) Via.refl rfl F2116 (hb hby own_d39_18) (q := 21) rfl (fun T2128 X2129 e2130 => ?_)
  refine own_iconst X2129 hx (v := (0 : Int32)) (hb hby own_d39_21) (q := 22) rfl rfl ?_
  refine own_aloadN X2129 hx (hb hby own_d39_22) (q := 23) rfl rfl rfl ?_
  refine own_iconst X2129 hx (v := (0 : Int32)) (hb hby own_d39_23) (q := 24) rfl rfl ?_
  refine own_aloadN X2129 hx (hb hby own_d39_24) (q := 25) rfl rfl rfl ?_
  refine own_getF X2129 hx hZ hown (host := "") (Or.inl (own_h hw 81 rfl)) Via.refl e2130 F2118 (hb hby own_d39_25) (q := 28) rfl (fun T2131 X2132 e2133 => ?_)
  refine own_callS X2132 hx hZ hown (own_h hw 195 rfl) (own_h hw 196 rfl) (own_h hw 124 rfl) (own_h hw 197 rfl) (by decide) (rm40_1 l Z a0 hw [] b1 a2110 cs G vs y0 (List.replicate (own_f33 nn).toNatClampNeg (.int (0 : Int32))) (own_f33 nn) T2103.heap n0 G2114 V2121 A2113 Z2126 ne2125 kn3 kn4 (own_repl kn2) hlw r0) own_pd20 rfl e2133 (by rw [hml]; rfl) (argsL := [.ref b1, .int (0 : Int32), .ref a2110, .int (0 : Int32), .int (1 : Int32)]) (st := []) rfl (W := 0) (Nat.le_of_eq rfl) (by decide) (by decide) (by decide) (by decide) (hb hby own_d39_28) (q := 31) rfl (fun v2140 T2141 L2142 X2143 hQ2144 => ?_)
  obtain ⟨rfl, N2145, K2146, A2148, A2149⟩ := hQ2144
  have G2150 := G2114.keep K2146 (allS (own_exaPlain E2112) all0)
  have E2151 := E2115.keep K2146
  have F2152 := F2116.keep K2146 (ninS ne2124 nin0)
  have F2153 := F2117.keep K2146 (ninS ne2124 nin0)
  have F2154 := F2118.keep K2146 (ninS ne2124 nin0)
  have F2155 := F2119.keep K2146 (ninS ne2124 nin0)
  have E2156 := E2120.keep K2146
  have E2157 := E2112.keep K2146
  have Z2158 : n0 ≤ T2141.heap.size := Nat.le_trans Z2122 K2146.1
  have K2159 := K2123.trans K2146 (allS (Or.inr O2127) all0)
  have N2147 := Fr.app N2109 N2145
  show own_Go _ _ _ _ (T2141.setTop (mkF m 31 #[.val (.ref a1), .val (.ref a2110)] []))
  refine own_aloadN X2143 hx (hb hby own_d39_31) (q := 32) rfl rfl rfl ?_
  refine own_aloadN X2143 hx (hb hby own_d39_32) (q := 33) rfl rfl rfl ?_
  refine own_putF X2143 hx hZ hown (host := "") (Or.inl (own_h hw 51 rfl)) Via.refl rfl F2152 E2151 (Or.inl (own_h hw 52 rfl)) (own_h hw 27 rfl) (ty := (.array .byte)) (by decide) rfl rfl (hb hby own_d39_33) (q := 36) rfl (fun T2160 h2163 X2161 e2162 W2164 => ?_)
  have G2165 := G2150.wr W2164
  have E2166 := Exa.wr W2164 E2151
  have F2167 := Fld.same W2164 F2152
  have F2168 := Fld.other W2164 F2153 (Or.inr (slot_ne (C := "java/lang/StringBuilder") (Or.inl (own_h hw 54 rfl)) (Or.inl (own_h hw 52 rfl)) (by decide) (t := .byte) (t' := (.array .byte)) (by decide) (by decide)))
  have F2169 := Fld.other W2164 F2154 (Or.inr (slot_ne (C := "java/lang/StringBuilder") (Or.inl (own_h hw 82 rfl)) (Or.inl (own_h hw 52 rfl)) (by decide) (t := .int) (t' := (.array .byte)) (by decide) (by decide)))
  have F2170 := Fld.other W2164 F2155 (Or.inr (slot_ne (C := "java/lang/StringBuilder") (Or.inl (own_h hw 214 rfl)) (Or.inl (own_h hw 52 rfl)) (by decide) (t := .boolean) (t' := (.array .byte)) (by decide) (by decide)))
  have E2171 := Exa.wr W2164 E2156
  have A2172 := A2148.other W2164 ne_b1_a1
  have E2173 := Exa.wr W2164 E2157
  have A2174 := A2149.other W2164 (Ne.symm ne2124)
  have K2175 := K2159.wr W2164 (Or.inl (List.mem_of_getElem? (i := 0) rfl))
  have Z2176 : n0 ≤ h2163.size := W2164.size ▸ Z2158
  have N2177 := Fr.snoc X2161 N2147 G_a1
  refine own_aloadN X2161 hx (hb hby own_d39_36) (q := 37) rfl rfl rfl ?_
  refine own_iconst X2161 hx (v := (1 : Int32)) (hb hby own_d39_37) (q := 38) rfl rfl ?_
  refine own_putF X2161 hx hZ hown (host := "") (Or.inl (own_h hw 53 rfl)) Via.refl e2162 F2168 E2166 (Or.inl (own_h hw 54 rfl)) (own_h hw 27 rfl) (ty := .byte) (by decide) rfl rfl (hb hby own_d39_38) (q := 41) rfl (fun T2178 h2181 X2179 e2180 W2182 => ?_)
  have G2183 := G2165.wr W2182
  have E2184 := Exa.wr W2182 E2166
  have F2185 := Fld.other W2182 F2167 (Or.inr (slot_ne (C := "java/lang/StringBuilder") (Or.inl (own_h hw 52 rfl)) (Or.inl (own_h hw 54 rfl)) (by decide) (t := (.array .byte)) (t' := .byte) (by decide) (by decide)))
  have F2186 := Fld.same W2182 F2168
  have F2187 := Fld.other W2182 F2169 (Or.inr (slot_ne (C := "java/lang/StringBuilder") (Or.inl (own_h hw 82 rfl)) (Or.inl (own_h hw 54 rfl)) (by decide) (t := .int) (t' := .byte) (by decide) (by decide)))
  have F2188 := Fld.other W2182 F2170 (Or.inr (slot_ne (C := "java/lang/StringBuilder") (Or.inl (own_h hw 214 rfl)) (Or.inl (own_h hw 54 rfl)) (by decide) (t := .boolean) (t' := .byte) (by decide) (by decide)))
  have E2189 := Exa.wr W2182 E2171
  have A2190 := A2172.other W2182 ne_b1_a1
  have E2191 := Exa.wr W2182 E2173
  have A2192 := A2174.other W2182 (Ne.symm ne2124)
  have K2193 := K2175.wr W2182 (Or.inl (List.mem_of_getElem? (i := 0) rfl))
  have Z2194 : n0 ≤ h2181.size := W2182.size ▸ Z2176
  have N2195 := Fr.snoc X2179 N2177 G_a1
  refine own_retV X2179 hx hlk (rest := []) hret (hb hby own_d39_41) ?_ (by decide) (by decide)
  show own_Q39_1 Z a1 cs G b1 vs nn y0 h0 n0 _ T2178.heap _
  rw [e2180]
  exact ⟨a2110, rfl, N2195, K2193, O2127, E2191, A2192, E2184, F2185, F2186, F2187, F2188, E2189, A2190⟩

def own_Q27_H1 (Z : State) (a1 : Addr) (p2 : Int32) (cs : Int32) (G : Value) (b1 : Addr) (vs : List Value) (nn : Int32) (y0 : Int32) (h0 : Heap) (n0 : Nat) (v : Option Value) (h : Heap) (L : List Loc) : Prop := ∃ ra0 : Addr, v = some (.ref a1) ∧ Fr n0 L ∧ Keep h0 h [a1] ∧ h0.size ≤ ra0 ∧ Exa Z h ra0 "[B" ∧ own_A Z h ra0 .byte (((((List.replicate (own_f33 nn).toNatClampNeg (.int (0 : Int32))).set 0 (.int (((y0 &&& (255 : Int32)) >>> ((0 : Int32) &&& 31)).toInt8.toInt32))).set 1 (.int (((y0 &&& (255 : Int32)) >>> ((8 : Int32) &&& 31)).toInt8.toInt32))).set 2 (.int ((p2 >>> ((0 : Int32) &&& 31)).toInt8.toInt32))).set 3 (.int ((p2 >>> ((8 : Int32) &&& 31)).toInt8.toInt32))) ∧ Exa Z h a1 "java/lang/StringBuilder" ∧ Fld Z h a1 "java/lang/AbstractStringBuilder" "value" "[B" (.ref ra0) ∧ Fld Z h a1 "java/lang/AbstractStringBuilder" "coder" "B" (.int (1 : Int32)) ∧ Fld Z h a1 "java/lang/AbstractStringBuilder" "count" "I" (.int (2 : Int32)) ∧ Fld Z h a1 "java/lang/AbstractStringBuilder" "maybeLatin1" "Z" (.int (0 : Int32)) ∧ Exa Z h b1 "[B" ∧ own_A Z h b1 .byte vs
set_option maxRecDepth 65536 in
set_option maxHeartbeats 40000000 in
theorem rm27_H1 (l : Launch) (Z : State) (a0 : Array Value) (hw : ∀ d ∈ tables_1, d.before a0 Z = true) (ws : List Jvm.Cond) (a1 : Addr) (p2 : Int32) (cs : Int32) (G : Value) (b1 : Addr) (vs : List Value) (nn : Int32) (y0 : Int32) (h0 : Heap) (n0 : Nat) (Z0 : n0 ≤ h0.size) (G0p : own_G Z h0 cs G) (E1p : Exa Z h0 a1 "java/lang/StringBuilder") (F2p : Fld Z h0 a1 "java/lang/AbstractStringBuilder" "value" "[B" (.ref b1)) (F3p : Fld Z h0 a1 "java/lang/AbstractStringBuilder" "coder" "B" (.int (0 : Int32))) (F4p : Fld Z h0 a1 "java/lang/AbstractStringBuilder" "count" "I" (.int (1 : Int32))) (F5p : Fld Z h0 a1 "java/lang/AbstractStringBuilder" "maybeLatin1" "Z" (.int (0 : Int32))) (E6p : Exa Z h0 b1 "[B") (V7p : own_A Z h0 b1 .byte vs) (G_a1 : n0 ≤ a1) (ne_b1_a1 : b1 ≠ a1)  (kn0 : ¬ (nn < (0 : Int32))) (kn1 : nn < (1073741823 : Int32)) (kn2 : ¬ ((own_f33 nn) < (0 : Int32))) (kn3 : ¬ ((((own_f38 (own_f33 nn)) ||| (0 : Int32)) ||| (1 : Int32)) < (0 : Int32))) (kn4 : ¬ (((own_f38 (own_f33 nn)) - (0 : Int32)) < (1 : Int32))) (kn5 : (255 : Int32) < p2) (kn6 : ¬ ((0 : Int32) < ((2 : Int32) - (nn >>> ((0 : Int32) &&& 31))))) (kn7 : (1 : Int32) < (own_f38 (own_f33 nn))) (hl_vs : vs.length.toInt32 = nn) (hcap : (own_f33 nn).toNatClampNeg ≤ 6) (hlw : 2 ≤ (List.replicate (own_f33 nn).toNatClampNeg (Value.int (0 : Int32))).length) (r0 : vs[0]? = some (.int y0)) (i0 : ((1 : Int32) <<< ((1 : Int32) &&& 31)).toNatClampNeg < (List.replicate (own_f33 nn).toNatClampNeg (Value.int (0 : Int32))).length) (i1 : (((1 : Int32) <<< ((1 : Int32) &&& 31)) + (1 : Int32)).toNatClampNeg < (List.replicate (own_f33 nn).toNatClampNeg (Value.int (0 : Int32))).length) :
    own_M l (⟨"java/lang/AbstractStringBuilder", "append", "(C)Ljava/lang/AbstractStringBuilder;"⟩ : MethodName) jdk_68_method_31_code 2 (some (.object "java/lang/AbstractStringBuilder")) ws ({ frames := 6, cells := 1, slots := 6, locals := 89 } : Room) #[.ref a1, .int p2] Z h0 (own_Q27_H1 Z a1 p2 cs G b1 vs nn y0 h0 n0) := by
  refine own_prol (C := "java/lang/AbstractStringBuilder") rfl own_pn41 (fun m => own_ef27 m ..) ?_
  intro p e s m below meth c s₁ hx hby hml hown hnm hlk hret X0 e0 hZ
  have N0 := Fr.nil n0
  have K0 := Keep.refl h0 [a1]
  refine own_aloadN X0 hx (hb hby own_d27_0) (q := 1) rfl rfl rfl ?_
  refine own_aloadN X0 hx (hb hby own_d27_1) (q := 2) rfl rfl rfl ?_
  refine own_getF X0 hx hZ hown (host := "") (Or.inl (own_h hw 81 rfl)) Via.refl e0 F4p (hb hby own_d27_2) (q := 5) rfl (fun T2196 X2197 e2198 => ?_)
  refine own_iconst X2197 hx (v := (1 : Int32)) (hb hby own_d27_5) (q := 6) rfl rfl ?_
  refine own_iadd X2197 hx (hb hby own_d27_6) (q := 7) rfl ?_
  rw [show ((1 : Int32) + (1 : Int32) : Int32) = (2 : Int32) from by decide]
  refine own_callQ2V X2197 hx hZ hown (own_h hw 146 rfl) (own_h hw 147 rfl) (own_h hw 149 rfl) (own_h hw 148 rfl) (own_h hw 47 rfl) (own_h hw 150 rfl) E1p (by decide) (rm28_0 l Z a0 hw [] a1 (2 : Int32) b1 vs nn h0 F2p F3p V7p kn6 hl_vs) own_pd16 rfl e2198 (by rw [hml]; rfl) (argsL := [.int (2 : Int32)]) (st := []) rfl (W := 0) (Nat.le_of_eq rfl) (by decide) (by decide) (by decide) (by decide) (hb hby own_d27_7) (q := 10) rfl (fun T2199 X2200 e2201 => ?_)
  refine own_aloadN X2200 hx (hb hby own_d27_10) (q := 11) rfl rfl rfl ?_
  refine own_callV2P X2200 hx hZ hown (own_h hw 151 rfl) (own_h hw 84 rfl) (own_h hw 70 rfl) rfl (own_h hw 86 rfl) (own_h hw 85 rfl) (own_h hw 47 rfl) (own_h hw 87 rfl) E1p (by decide) (rm15_0 l Z a0 hw [] a1 cs G h0 G0p F3p) own_pd15 rfl e2201 (by rw [hml]; rfl) (argsL := []) (st := []) rfl (W := 0) (Nat.le_of_eq rfl) (by decide) (by decide) (by decide) (by decide) (hb hby own_d27_11) (q := 14) rfl (fun T2202 X2203 e2204 => ?_)
  rw [show (own_f15_0 cs : Int32) = (1 : Int32) from rfl]
  refine own_if0P X2203 hx (hb hby own_d27_14) (cd := .eq) (x := (1 : Int32)) (pt := 45) (q := 17) (by decide) (by decide) rfl rfl (fun h => False.elim (((by decide) : ¬ ((1 : Int32) = (0 : Int32))) h)) (fun _ => ?_)
  refine own_iloadN X2203 hx (hb hby own_d27_17) (q := 18) rfl rfl ?_
  refine own_callSP X2203 hx hZ hown (own_h hw 152 rfl) (own_h hw 153 rfl) (own_h hw 124 rfl) (own_h hw 154 rfl) (by decide) (rm29_H l Z a0 hw [] p2 h0  kn5) own_pd17 rfl e2204 (by rw [hml]; rfl) (argsL := [.int p2]) (st := []) rfl (W := 0) (Nat.le_of_eq rfl) (by decide) (by decide) (by decide) (by decide) (hb hby own_d27_18) (q := 21) rfl (fun T2205 X2206 e2207 => ?_)
  rw [show (own_f29_H p2 : Int32) = (0 : Int32) from rfl]
  refine own_if0P X2206 hx (hb hby own_d27_21) (cd := .eq) (x := (0 : Int32)) (pt := 45) (q := 24) (by decide) (by decide) rfl rfl (fun _ => ?_) (fun h => False.elim (h ((by decide) : (0 : Int32) = (0 : Int32))))
  refine own_aloadN X2206 hx (hb hby own_d27_45) (q := 46) rfl rfl rfl ?_
  refine own_callV2P X2206 hx hZ hown (own_h hw 151 rfl) (own_h hw 84 rfl) (own_h hw 70 rfl) rfl (own_h hw 86 rfl) (own_h hw 85 rfl) (own_h hw 47 rfl) (own_h hw 87 rfl) E1p (by decide) (rm15_0 l Z a0 hw [] a1 cs G h0 G0p F3p) own_pd15 rfl e2207 (by rw [hml]; rfl) (argsL := []) (st := []) rfl (W := 0) (Nat.le_of_eq rfl) (by decide) (by decide) (by decide) (by decide) (hb hby own_d27_46) (q := 49) rfl (fun T2208 X2209 e2210 => ?_)
  rw [show (own_f15_0 cs : Int32) = (1 : Int32) from rfl]
  refine own_if0P X2209 hx (hb hby own_d27_49) (cd := .eq) (x := (1 : Int32)) (pt := 56) (q := 52) (by decide) (by decide) rfl rfl (fun h => False.elim (((by decide) : ¬ ((1 : Int32) = (0 : Int32))) h)) (fun _ => ?_)
  refine own_aloadN X2209 hx (hb hby own_d27_52) (q := 53) rfl rfl rfl ?_
  refine own_callQ2 X2209 hx hZ hown (own_h hw 189 rfl) (own_h hw 190 rfl) (own_h hw 192 rfl) (own_h hw 191 rfl) (own_h hw 47 rfl) (own_h hw 193 rfl) E1p (by decide) (rm39_1 l Z a0 hw [] a1 cs G b1 vs nn y0 h0 n0 Z0 G0p E1p F2p F3p F4p F5p E6p V7p G_a1 ne_b1_a1 kn0 kn1 kn2 kn3 kn4 hl_vs hcap hlw r0) own_pd21 rfl e2210 (by rw [hml]; rfl) (argsL := []) (st := []) rfl (W := 0) (Nat.le_of_eq rfl) (by decide) (by decide) (by decide) (by decide) (hb hby own_d27_53) (q := 56) rfl (fun v2214 T2215 L2216 X2217 hQ2218 => ?_)
  obtain ⟨a2222, rfl, N2219, K2220, O2223, E2224, A2225, E2226, F2227, F2228, F2229, F2230, E2231, A2232⟩ := hQ2218
  have G2233 := G0p.keep K2220 (allS (own_exaPlain E1p) all0)
  have Z2234 : n0 ≤ T2215.heap.size := Nat.le_trans Z0 K2220.1
  have K2235 := K0.trans K2220 (allS (Or.inl (List.mem_of_getElem? (i := 0) rfl)) all0)
  have N2221 := Fr.app N0 N2219
  have ne2236 : a1 ≠ a2222 := Nat.ne_of_lt (Nat.lt_of_lt_of_le E1p.lt O2223)
  have ne2237 : b1 ≠ a2222 := Nat.ne_of_lt (Nat.lt_of_lt_of_le V7p.lt O2223)
  have Z2238 : n0 ≤ a2222 := Nat.le_trans Z0 O2223
  have O2239 : h0.size ≤ a2222 := Nat.le_trans K0.1 O2223
  show own_Go _ _ _ _ (T2215.setTop (mkF m 56 #[.val (.ref a1), .val (.int p2)] []))
  refine own_aloadN X2217 hx (hb hby own_d27_56) (q := 57) rfl rfl rfl ?_
  refine own_getF X2217 hx hZ hown (host := "") (Or.inl (own_h hw 51 rfl)) Via.refl rfl F2227 (hb hby own_d27_57) (q := 60) rfl (fun T2240 X2241 e2242 => ?_)
  refine own_aloadN X2241 hx (hb hby own_d27_60) (q := 61) rfl rfl rfl ?_
  refine own_dup X2241 hx (hb hby own_d27_61) (q := 62) rfl rfl ?_
  refine own_getF X2241 hx hZ hown (host := "") (Or.inl (own_h hw 81 rfl)) Via.refl e2242 F2229 (hb hby own_d27_62) (q := 65) rfl (fun T2243 X2244 e2245 => ?_)
  refine own_dupX1 X2244 hx (hb hby own_d27_65) (q := 66) rfl rfl rfl ?_
  refine own_iconst X2244 hx (v := (1 : Int32)) (hb hby own_d27_66) (q := 67) rfl rfl ?_
  refine own_iadd X2244 hx (hb hby own_d27_67) (q := 68) rfl ?_
  rw [show ((1 : Int32) + (1 : Int32) : Int32) = (2 : Int32) from by decide]
  refine own_putF X2244 hx hZ hown (host := "") (Or.inl (own_h hw 81 rfl)) Via.refl e2245 F2229 E2226 (Or.inl (own_h hw 82 rfl)) (own_h hw 27 rfl) (ty := .int) (by decide) rfl rfl (hb hby own_d27_68) (q := 71) rfl (fun T2246 h2249 X2247 e2248 W2250 => ?_)
  have G2251 := G2233.wr W2250
  have E2252 := Exa.wr W2250 E2226
  have F2253 := Fld.other W2250 F2227 (Or.inr (slot_ne (C := "java/lang/StringBuilder") (Or.inl (own_h hw 52 rfl)) (Or.inl (own_h hw 82 rfl)) (by decide) (t := (.array .byte)) (t' := .int) (by decide) (by decide)))
  have F2254 := Fld.other W2250 F2228 (Or.inr (slot_ne (C := "java/lang/StringBuilder") (Or.inl (own_h hw 54 rfl)) (Or.inl (own_h hw 82 rfl)) (by decide) (t := .byte) (t' := .int) (by decide) (by decide)))
  have F2255 := Fld.same W2250 F2229
  have F2256 := Fld.other W2250 F2230 (Or.inr (slot_ne (C := "java/lang/StringBuilder") (Or.inl (own_h hw 214 rfl)) (Or.inl (own_h hw 82 rfl)) (by decide) (t := .boolean) (t' := .int) (by decide) (by decide)))
  have E2257 := Exa.wr W2250 E2231
  have A2258 := A2232.other W2250 ne_b1_a1
  have E2259 := Exa.wr W2250 E2224
  have A2260 := A2225.other W2250 (Ne.symm ne2236)
  have K2261 := K2235.wr W2250 (Or.inl (List.mem_of_getElem? (i := 0) rfl))
  have Z2262 : n0 ≤ h2249.size := W2250.size ▸ Z2234
  have N2263 := Fr.snoc X2247 N2221 G_a1
  refine own_iloadN X2247 hx (hb hby own_d27_71) (q := 72) rfl rfl ?_
  refine own_callS X2247 hx hZ hown (own_h hw 210 rfl) (own_h hw 211 rfl) (own_h hw 104 rfl) (own_h hw 212 rfl) (by decide) (rm45 l Z a0 hw [] a2222 (1 : Int32) p2 cs G (((List.replicate (own_f33 nn).toNatClampNeg (.int (0 : Int32))).set 0 (.int (((y0 &&& (255 : Int32)) >>> ((0 : Int32) &&& 31)).toInt8.toInt32))).set 1 (.int (((y0 &&& (255 : Int32)) >>> ((8 : Int32) &&& 31)).toInt8.toInt32))) (own_f33 nn) h2249 n0 G2251 A2260 Z2238 (by decide) kn7 (by first | exact own_repl kn2 | (simp only [List.length_set]; exact own_repl kn2)) (by decide) (by decide) (by first | exact i0 | (simp only [List.length_set]; exact i0)) (by first | exact i1 | (simp only [List.length_set]; exact i1))) own_pd6 rfl e2248 (by rw [hml]; rfl) (argsL := [.ref a2222, .int (1 : Int32), .int p2]) (st := []) rfl (W := 0) (Nat.le_of_eq rfl) (by decide) (by decide) (by decide) (by decide) (hb hby own_d27_72) (q := 75) rfl (fun v2270 T2271 L2272 X2273 hQ2274 => ?_)
  obtain ⟨rfl, N2275, K2276, A2278⟩ := hQ2274
  have G2279 := G2251.keep K2276 (allS (own_exaPlain E2259) all0)
  have E2280 := E2252.keep K2276
  have F2281 := F2253.keep K2276 (ninS ne2236 nin0)
  have F2282 := F2254.keep K2276 (ninS ne2236 nin0)
  have F2283 := F2255.keep K2276 (ninS ne2236 nin0)
  have F2284 := F2256.keep K2276 (ninS ne2236 nin0)
  have E2285 := E2257.keep K2276
  have A2286 := A2258.keep K2276 (ninS ne2237 nin0)
  have E2287 := E2259.keep K2276
  have Z2288 : n0 ≤ T2271.heap.size := Nat.le_trans Z2262 K2276.1
  have K2289 := K2261.trans K2276 (allS (Or.inr O2239) all0)
  have N2277 := Fr.app N2263 N2275
  show own_Go _ _ _ _ (T2271.setTop (mkF m 75 #[.val (.ref a1), .val (.int p2)] []))
  rw [show ((1 : Int32) <<< ((1 : Int32) &&& 31)).toNatClampNeg = 2 from by decide, show (((1 : Int32) <<< ((1 : Int32) &&& 31)) + (1 : Int32)).toNatClampNeg = 3 from by decide] at A2278
  replace A2278 : own_A Z T2271.heap a2222 .byte (((((List.replicate (own_f33 nn).toNatClampNeg (.int (0 : Int32))).set 0 (.int (((y0 &&& (255 : Int32)) >>> ((0 : Int32) &&& 31)).toInt8.toInt32))).set 1 (.int (((y0 &&& (255 : Int32)) >>> ((8 : Int32) &&& 31)).toInt8.toInt32))).set 2 (.int ((p2 >>> ((0 : Int32) &&& 31)).toInt8.toInt32))).set 3 (.int ((p2 >>> ((8 : Int32) &&& 31)).toInt8.toInt32))) := A2278
  refine own_aloadN X2273 hx (hb hby own_d27_75) (q := 76) rfl rfl rfl ?_
  refine own_retA X2273 hx hlk rfl rfl rfl hret (hb hby own_d27_76) ?_ (by decide) (by decide)
  show own_Q27_H1 Z a1 p2 cs G b1 vs nn y0 h0 n0 _ T2271.heap _
  exact ⟨a2222, rfl, N2277, K2289, O2239, E2287, A2278, E2280, F2281, F2282, F2283, F2284, E2285, A2286⟩

def own_Q26_H1 (Z : State) (a1 : Addr) (p2 : Int32) (cs : Int32) (G : Value) (b1 : Addr) (vs : List Value) (nn : Int32) (y0 : Int32) (h0 : Heap) (n0 : Nat) (v : Option Value) (h : Heap) (L : List Loc) : Prop := ∃ ra0 : Addr, v = some (.ref a1) ∧ Fr n0 L ∧ Keep h0 h [a1] ∧ h0.size ≤ ra0 ∧ Exa Z h ra0 "[B" ∧ own_A Z h ra0 .byte (((((List.replicate (own_f33 nn).toNatClampNeg (.int (0 : Int32))).set 0 (.int (((y0 &&& (255 : Int32)) >>> ((0 : Int32) &&& 31)).toInt8.toInt32))).set 1 (.int (((y0 &&& (255 : Int32)) >>> ((8 : Int32) &&& 31)).toInt8.toInt32))).set 2 (.int ((p2 >>> ((0 : Int32) &&& 31)).toInt8.toInt32))).set 3 (.int ((p2 >>> ((8 : Int32) &&& 31)).toInt8.toInt32))) ∧ Exa Z h a1 "java/lang/StringBuilder" ∧ Fld Z h a1 "java/lang/AbstractStringBuilder" "value" "[B" (.ref ra0) ∧ Fld Z h a1 "java/lang/AbstractStringBuilder" "coder" "B" (.int (1 : Int32)) ∧ Fld Z h a1 "java/lang/AbstractStringBuilder" "count" "I" (.int (2 : Int32)) ∧ Fld Z h a1 "java/lang/AbstractStringBuilder" "maybeLatin1" "Z" (.int (0 : Int32)) ∧ Exa Z h b1 "[B" ∧ own_A Z h b1 .byte vs
set_option maxRecDepth 65536 in
set_option maxHeartbeats 40000000 in
theorem rm26_H1 (l : Launch) (Z : State) (a0 : Array Value) (hw : ∀ d ∈ tables_1, d.before a0 Z = true) (ws : List Jvm.Cond) (a1 : Addr) (p2 : Int32) (cs : Int32) (G : Value) (b1 : Addr) (vs : List Value) (nn : Int32) (y0 : Int32) (h0 : Heap) (n0 : Nat) (Z0 : n0 ≤ h0.size) (G0p : own_G Z h0 cs G) (E1p : Exa Z h0 a1 "java/lang/StringBuilder") (F2p : Fld Z h0 a1 "java/lang/AbstractStringBuilder" "value" "[B" (.ref b1)) (F3p : Fld Z h0 a1 "java/lang/AbstractStringBuilder" "coder" "B" (.int (0 : Int32))) (F4p : Fld Z h0 a1 "java/lang/AbstractStringBuilder" "count" "I" (.int (1 : Int32))) (F5p : Fld Z h0 a1 "java/lang/AbstractStringBuilder" "maybeLatin1" "Z" (.int (0 : Int32))) (E6p : Exa Z h0 b1 "[B") (V7p : own_A Z h0 b1 .byte vs) (G_a1 : n0 ≤ a1) (ne_b1_a1 : b1 ≠ a1)  (kn0 : ¬ (nn < (0 : Int32))) (kn1 : nn < (1073741823 : Int32)) (kn2 : ¬ ((own_f33 nn) < (0 : Int32))) (kn3 : ¬ ((((own_f38 (own_f33 nn)) ||| (0 : Int32)) ||| (1 : Int32)) < (0 : Int32))) (kn4 : ¬ (((own_f38 (own_f33 nn)) - (0 : Int32)) < (1 : Int32))) (kn5 : (255 : Int32) < p2) (kn6 : ¬ ((0 : Int32) < ((2 : Int32) - (nn >>> ((0 : Int32) &&& 31))))) (kn7 : (1 : Int32) < (own_f38 (own_f33 nn))) (hl_vs : vs.length.toInt32 = nn) (hcap : (own_f33 nn).toNatClampNeg ≤ 6) (hlw : 2 ≤ (List.replicate (own_f33 nn).toNatClampNeg (Value.int (0 : Int32))).length) (r0 : vs[0]? = some (.int y0)) (i0 : ((1 : Int32) <<< ((1 : Int32) &&& 31)).toNatClampNeg < (List.replicate (own_f33 nn).toNatClampNeg (Value.int (0 : Int32))).length) (i1 : (((1 : Int32) <<< ((1 : Int32) &&& 31)) + (1 : Int32)).toNatClampNeg < (List.replicate (own_f33 nn).toNatClampNeg (Value.int (0 : Int32))).length) :
    own_M l (⟨"java/lang/StringBuilder", "append", "(C)Ljava/lang/StringBuilder;"⟩ : MethodName) jdk_67_method_14_code 2 (some (.object "java/lang/StringBuilder")) ws ({ frames := 7, cells := 1, slots := 6, locals := 102 } : Room) #[.ref a1, .int p2] Z h0 (own_Q26_H1 Z a1 p2 cs G b1 vs nn y0 h0 n0) := by
  refine own_prol (C := "java/lang/StringBuilder") rfl own_pn43 (fun m => own_ef26 m ..) ?_
  intro p e s m below meth c s₁ hx hby hml hown hnm hlk hret X0 e0 hZ
  have N0 := Fr.nil n0
  have K0 := Keep.refl h0 [a1]
  refine own_aloadN X0 hx (hb hby own_d26_0) (q := 1) rfl rfl rfl ?_
  refine own_iloadN X0 hx (hb hby own_d26_1) (q := 2) rfl rfl ?_
  refine own_callU X0 hx hZ hown (own_h hw 142 rfl) (own_same (own_h hw 143 rfl) (own_nf (own_h hw 70 rfl) rfl) (by decide)) (own_h hw 143 rfl) (own_h hw 79 rfl) (own_h hw 47 rfl) (own_h hw 145 rfl) E1p (by decide) (by decide) (rm27_H1 l Z a0 hw [] a1 p2 cs G b1 vs nn y0 h0 n0 Z0 G0p E1p F2p F3p F4p F5p E6p V7p G_a1 ne_b1_a1 kn0 kn1 kn2 kn3 kn4 kn5 kn6 kn7 hl_vs hcap hlw r0 i0 i1) own_pd18 rfl e0 (by rw [hml]; rfl) (argsL := [.int p2]) (st := []) rfl (W := 0) (Nat.le_of_eq rfl) (by decide) (by decide) (by decide) (by decide) (hb hby own_d26_2) (q := 5) rfl (fun v2293 T2294 L2295 X2296 hQ2297 => ?_)
  obtain ⟨a2301, rfl, N2298, K2299, O2302, E2303, A2304, E2305, F2306, F2307, F2308, F2309, E2310, A2311⟩ := hQ2297
  have G2312 := G0p.keep K2299 (allS (own_exaPlain E1p) all0)
  have Z2313 : n0 ≤ T2294.heap.size := Nat.le_trans Z0 K2299.1
  have K2314 := K0.trans K2299 (allS (Or.inl (List.mem_of_getElem? (i := 0) rfl)) all0)
  have N2300 := Fr.app N0 N2298
  have ne2315 : a1 ≠ a2301 := Nat.ne_of_lt (Nat.lt_of_lt_of_le E1p.lt O2302)
  have ne2316 : b1 ≠ a2301 := Nat.ne_of_lt (Nat.lt_of_lt_of_le V7p.lt O2302)
  have Z2317 : n0 ≤ a2301 := Nat.le_trans Z0 O2302
  have O2318 : h0.size ≤ a2301 := Nat.le_trans K0.1 O2302
  show own_Go _ _ _ _ (T2294.setTop (mkF m 5 #[.val (.ref a1), .val (.int p2)] [.ref a1]))
  refine own_pop X2296 hx (hb hby own_d26_5) (q := 6) rfl rfl ?_
  refine own_aloadN X2296 hx (hb hby own_d26_6) (q := 7) rfl rfl rfl ?_
  refine own_retA X2296 hx hlk rfl rfl rfl hret (hb hby own_d26_7) ?_ (by decide) (by decide)
  show own_Q26_H1 Z a1 p2 cs G b1 vs nn y0 h0 n0 _ T2294.heap _
  exact ⟨a2301, rfl, N2300, K2314, O2318, E2303, A2304, E2305, F2306, F2307, F2308, F2309, E2310, A2311⟩
theorem own_ef41_k0_k0_k2 (m : MethodId) (a1 : Addr) (a3 : Addr) : entryFrame m #[.ref a1, .int (0 : Int32), .ref a3, .int (0 : Int32), .int (2 : Int32)] 6 = mkF m 0 #[.val (.ref a1), .val (.int (0 : Int32)), .val (.ref a3), .val (.int (0 : Int32)), .val (.int (2 : Int32)), .unset] [] := by first | (simp [entryFrame, mkF, argsToLocals, Value.category]; done) | rfl

def own_Q41_2 (Z : State) (a1 : Addr) (a3 : Addr) (cs : Int32) (G : Value) (vs : List Value) (y0 : Int32) (y1 : Int32) (zs : List Value) (nn2 : Int32) (h0 : Heap) (n0 : Nat) (v : Option Value) (h : Heap) (L : List Loc) : Prop := v = none ∧ Fr n0 L ∧ Keep h0 h [a3] ∧ own_A Z h a1 .byte vs ∧ own_A Z h a3 .byte ((((zs.set 0 (.int (((y0 &&& (255 : Int32)) >>> ((0 : Int32) &&& 31)).toInt8.toInt32))).set 1 (.int (((y0 &&& (255 : Int32)) >>> ((8 : Int32) &&& 31)).toInt8.toInt32))).set 2 (.int (((y1 &&& (255 : Int32)) >>> ((0 : Int32) &&& 31)).toInt8.toInt32))).set 3 (.int (((y1 &&& (255 : Int32)) >>> ((8 : Int32) &&& 31)).toInt8.toInt32)))
set_option maxRecDepth 65536 in
set_option maxHeartbeats 40000000 in
theorem rm41_2 (l : Launch) (Z : State) (a0 : Array Value) (hw : ∀ d ∈ tables_1, d.before a0 Z = true) (ws : List Jvm.Cond) (a1 : Addr) (a3 : Addr) (cs : Int32) (G : Value) (vs : List Value) (y0 : Int32) (y1 : Int32) (zs : List Value) (nn2 : Int32) (h0 : Heap) (n0 : Nat) (G0p : own_G Z h0 cs G) (V1p : own_A Z h0 a1 .byte vs) (V2p : own_A Z h0 a3 .byte zs) (G_a3 : n0 ≤ a3) (ne_a1_a3 : a1 ≠ a3)  (kn0 : ¬ ((((own_f38 nn2) ||| (0 : Int32)) ||| (2 : Int32)) < (0 : Int32))) (kn1 : ¬ (((own_f38 nn2) - (0 : Int32)) < (2 : Int32))) (hl_zs : zs.length.toInt32 = nn2) (hlw : 4 ≤ zs.length) (r0 : vs[0]? = some (.int y0)) (r1 : vs[1]? = some (.int y1)) :
    own_M l (⟨"java/lang/StringUTF16", "inflate", "([BI[BII)V"⟩ : MethodName) jdk_52_method_86_code 6 none ws ({ frames := 3, cells := 0, slots := 0, locals := 43 } : Room) #[.ref a1, .int (0 : Int32), .ref a3, .int (0 : Int32), .int (2 : Int32)] Z h0 (own_Q41_2 Z a1 a3 cs G vs y0 y1 zs nn2 h0 n0) := by
  refine own_prol (C := "java/lang/StringUTF16") rfl own_pn10 (fun m => own_ef41_k0_k0_k2 m ..) ?_
  intro p e s m below meth c s₁ hx hby hml hown hnm hlk hret X0 e0 hZ
  have N0 := Fr.nil n0
  have K0 := Keep.refl h0 [a3]
  refine own_iloadN X0 hx (hb hby own_d41_0) (q := 1) rfl rfl ?_
  refine own_iload X0 hx (hb hby own_d41_1) (q := 3) rfl rfl ?_
  refine own_aloadN X0 hx (hb hby own_d41_3) (q := 4) rfl rfl rfl ?_
  refine own_callSV X0 hx hZ hown (own_h hw 201 rfl) (own_h hw 202 rfl) (own_h hw 104 rfl) (own_h hw 203 rfl) (by decide) (rm42 l Z a0 hw [] (0 : Int32) (2 : Int32) a3 cs G zs nn2 h0 G0p V2p kn0 kn1 hl_zs) own_pd19 rfl e0 (by rw [hml]; rfl) (argsL := [.int (0 : Int32), .int (2 : Int32), .ref a3]) (st := []) rfl (W := 0) (Nat.le_of_eq rfl) (by decide) (by decide) (by decide) (by decide) (hb hby own_d41_4) (q := 7) rfl (fun T2322 X2323 e2324 => ?_)
  refine own_iconst X2323 hx (v := (0 : Int32)) (hb hby own_d41_7) (q := 8) rfl rfl ?_
  refine own_istore (L' := #[.val (.ref a1), .val (.int (0 : Int32)), .val (.ref a3), .val (.int (0 : Int32)), .val (.int (2 : Int32)), .val (.int (0 : Int32))]) X2323 hx (hb hby own_d41_8) (q := 10) rfl rfl ?_
  refine own_iload X2323 hx (hb hby own_d41_10) (q := 12) rfl rfl ?_
  refine own_iload X2323 hx (hb hby own_d41_12) (q := 14) rfl rfl ?_
  refine own_icmpM X2323 hx (hb hby own_d41_14) (cd := .ge) (x := (0 : Int32)) (y := (2 : Int32)) (pt := 41) (q := 17) (by decide) (by decide) rfl rfl (fun h => False.elim (h ((by decide) : (0 : Int32) < (2 : Int32)))) (fun _ => ?_)
  refine own_aloadN X2323 hx (hb hby own_d41_17) (q := 18) rfl rfl rfl ?_
  refine own_iloadN X2323 hx (hb hby own_d41_18) (q := 19) rfl rfl ?_
  refine own_iinc (L' := #[.val (.ref a1), .val (.int (0 : Int32)), .val (.ref a3), .val (.int ((0 : Int32) + (1 : Int32))), .val (.int (2 : Int32)), .val (.int (0 : Int32))]) X2323 hx (v := (1 : Int32)) (hb hby own_d41_19) (q := 22) rfl rfl rfl rfl ?_
  rw [show ((0 : Int32) + (1 : Int32) : Int32) = (1 : Int32) from by decide]
  refine own_aloadN X2323 hx (hb hby own_d41_22) (q := 23) rfl rfl rfl ?_
  refine own_iloadN X2323 hx (hb hby own_d41_23) (q := 24) rfl rfl ?_
  refine own_iinc (L' := #[.val (.ref a1), .val (.int ((0 : Int32) + (1 : Int32))), .val (.ref a3), .val (.int (1 : Int32)), .val (.int (2 : Int32)), .val (.int (0 : Int32))]) X2323 hx (v := (1 : Int32)) (hb hby own_d41_24) (q := 27) rfl rfl rfl rfl ?_
  rw [show ((0 : Int32) + (1 : Int32) : Int32) = (1 : Int32) from by decide]
  refine own_baload X2323 hx hZ (i := 0) (v := .int y0) e2324 V1p (by decide) (by decide) r0 (hb hby own_d41_27) (q := 28) rfl ?_
  refine own_sipush X2323 hx (v := (255 : Int32)) (hb hby own_d41_28) (q := 31) rfl rfl ?_
  refine own_iand X2323 hx (hb hby own_d41_31) (q := 32) rfl ?_
  refine own_callS X2323 hx hZ hown (own_h hw 170 rfl) (own_h hw 171 rfl) (own_h hw 104 rfl) (own_h hw 172 rfl) (by decide) (rm34 l Z a0 hw [] a3 (0 : Int32) (y0 &&& (255 : Int32)) cs G zs h0 n0 G0p V2p G_a3 (by decide) (by decide) (by first | exact Nat.lt_of_lt_of_le (by decide) hlw | (simp only [List.length_set]; exact Nat.lt_of_lt_of_le (by decide) hlw)) (by first | exact Nat.lt_of_lt_of_le (by decide) hlw | (simp only [List.length_set]; exact Nat.lt_of_lt_of_le (by decide) hlw))) own_pd6 rfl e2324 (by rw [hml]; rfl) (argsL := [.ref a3, .int (0 : Int32), .int (y0 &&& (255 : Int32))]) (st := []) rfl (W := 0) (Nat.le_of_eq rfl) (by decide) (by decide) (by decide) (by decide) (hb hby own_d41_32) (q := 35) rfl (fun v2331 T2332 L2333 X2334 hQ2335 => ?_)
  obtain ⟨rfl, N2336, K2337, A2339⟩ := hQ2335
  have G2340 := G0p.keep K2337 (allS V2p.plain all0)
  have V2341 := V1p.keep K2337 (ninS ne_a1_a3 nin0)
  have K2342 := K0.trans K2337 (allS (Or.inl (List.mem_of_getElem? (i := 0) rfl)) all0)
  have N2338 := Fr.app N0 N2336
  show own_Go _ _ _ _ (T2332.setTop (mkF m 35 #[.val (.ref a1), .val (.int (1 : Int32)), .val (.ref a3), .val (.int (1 : Int32)), .val (.int (2 : Int32)), .val (.int (0 : Int32))] []))
  rw [show ((0 : Int32) <<< ((1 : Int32) &&& 31)).toNatClampNeg = 0 from by decide, show (((0 : Int32) <<< ((1 : Int32) &&& 31)) + (1 : Int32)).toNatClampNeg = 1 from by decide] at A2339
  replace A2339 : own_A Z T2332.heap a3 .byte ((zs.set 0 (.int (((y0 &&& (255 : Int32)) >>> ((0 : Int32) &&& 31)).toInt8.toInt32))).set 1 (.int (((y0 &&& (255 : Int32)) >>> ((8 : Int32) &&& 31)).toInt8.toInt32))) := A2339
  refine own_iinc (L' := #[.val (.ref a1), .val (.int (1 : Int32)), .val (.ref a3), .val (.int (1 : Int32)), .val (.int (2 : Int32)), .val (.int ((0 : Int32) + (1 : Int32)))]) X2334 hx (v := (1 : Int32)) (hb hby own_d41_35) (q := 38) rfl rfl rfl rfl ?_
  rw [show ((0 : Int32) + (1 : Int32) : Int32) = (1 : Int32) from by decide]
  refine own_goto X2334 hx (hb hby own_d41_38) (q := 10) (by decide) (by decide) ?_
  refine own_iload X2334 hx (hb hby own_d41_10) (q := 12) rfl rfl ?_
  refine own_iload X2334 hx (hb hby own_d41_12) (q := 14) rfl rfl ?_
  refine own_icmpM X2334 hx (hb hby own_d41_14) (cd := .ge) (x := (1 : Int32)) (y := (2 : Int32)) (pt := 41) (q := 17) (by decide) (by decide) rfl rfl (fun h => False.elim (h ((by decide) : (1 : Int32) < (2 : Int32)))) (fun _ => ?_)
  refine own_aloadN X2334 hx (hb hby own_d41_17) (q := 18) rfl rfl rfl ?_
  refine own_iloadN X2334 hx (hb hby own_d41_18) (q := 19) rfl rfl ?_
  refine own_iinc (L' := #[.val (.ref a1), .val (.int (1 : Int32)), .val (.ref a3), .val (.int ((1 : Int32) + (1 : Int32))), .val (.int (2 : Int32)), .val (.int (1 : Int32))]) X2334 hx (v := (1 : Int32)) (hb hby own_d41_19) (q := 22) rfl rfl rfl rfl ?_
  rw [show ((1 : Int32) + (1 : Int32) : Int32) = (2 : Int32) from by decide]
  refine own_aloadN X2334 hx (hb hby own_d41_22) (q := 23) rfl rfl rfl ?_
  refine own_iloadN X2334 hx (hb hby own_d41_23) (q := 24) rfl rfl ?_
  refine own_iinc (L' := #[.val (.ref a1), .val (.int ((1 : Int32) + (1 : Int32))), .val (.ref a3), .val (.int (2 : Int32)), .val (.int (2 : Int32)), .val (.int (1 : Int32))]) X2334 hx (v := (1 : Int32)) (hb hby own_d41_24) (q := 27) rfl rfl rfl rfl ?_
  rw [show ((1 : Int32) + (1 : Int32) : Int32) = (2 : Int32) from by decide]
  refine own_baload X2334 hx hZ (i := 1) (v := .int y1) rfl V2341 (by decide) (by decide) r1 (hb hby own_d41_27) (q := 28) rfl ?_
  refine own_sipush X2334 hx (v := (255 : Int32)) (hb hby own_d41_28) (q := 31) rfl rfl ?_
  refine own_iand X2334 hx (hb hby own_d41_31) (q := 32) rfl ?_
  refine own_callS X2334 hx hZ hown (own_h hw 170 rfl) (own_h hw 171 rfl) (own_h hw 104 rfl) (own_h hw 172 rfl) (by decide) (rm34 l Z a0 hw [] a3 (1 : Int32) (y1 &&& (255 : Int32)) cs G ((zs.set 0 (.int (((y0 &&& (255 : Int32)) >>> ((0 : Int32) &&& 31)).toInt8.toInt32))).set 1 (.int (((y0 &&& (255 : Int32)) >>> ((8 : Int32) &&& 31)).toInt8.toInt32))) T2332.heap n0 G2340 A2339 G_a3 (by decide) (by decide) (by first | exact Nat.lt_of_lt_of_le (by decide) hlw | (simp only [List.length_set]; exact Nat.lt_of_lt_of_le (by decide) hlw)) (by first | exact Nat.lt_of_lt_of_le (by decide) hlw | (simp only [List.length_set]; exact Nat.lt_of_lt_of_le (by decide) hlw))) own_pd6 rfl rfl (by rw [hml]; rfl) (argsL := [.ref a3, .int (1 : Int32), .int (y1 &&& (255 : Int32))]) (st := []) rfl (W := 0) (Nat.le_of_eq rfl) (by decide) (by decide) (by decide) (by decide) (hb hby own_d41_32) (q := 35) rfl (fun v2349 T2350 L2351 X2352 hQ2353 => ?_)
  obtain ⟨rfl, N2354, K2355, A2357⟩ := hQ2353
  have G2358 := G2340.keep K2355 (allS A2339.plain all0)
  have V2359 := V2341.keep K2355 (ninS ne_a1_a3 nin0)
  have K2360 := K2342.trans K2355 (allS (Or.inl (List.mem_of_getElem? (i := 0) rfl)) all0)
  have N2356 := Fr.app N2338 N2354
  show own_Go _ _ _ _ (T2350.setTop (mkF m 35 #[.val (.ref a1), .val (.int (2 : Int32)), .val (.ref a3), .val (.int (2 : Int32)), .val (.int (2 : Int32)), .val (.int (1 : Int32))] []))
  rw [show ((1 : Int32) <<< ((1 : Int32) &&& 31)).toNatClampNeg = 2 from by decide, show (((1 : Int32) <<< ((1 : Int32) &&& 31)) + (1 : Int32)).toNatClampNeg = 3 from by decide] at A2357
  replace A2357 : own_A Z T2350.heap a3 .byte ((((zs.set 0 (.int (((y0 &&& (255 : Int32)) >>> ((0 : Int32) &&& 31)).toInt8.toInt32))).set 1 (.int (((y0 &&& (255 : Int32)) >>> ((8 : Int32) &&& 31)).toInt8.toInt32))).set 2 (.int (((y1 &&& (255 : Int32)) >>> ((0 : Int32) &&& 31)).toInt8.toInt32))).set 3 (.int (((y1 &&& (255 : Int32)) >>> ((8 : Int32) &&& 31)).toInt8.toInt32))) := A2357
  refine own_iinc (L' := #[.val (.ref a1), .val (.int (2 : Int32)), .val (.ref a3), .val (.int (2 : Int32)), .val (.int (2 : Int32)), .val (.int ((1 : Int32) + (1 : Int32)))]) X2352 hx (v := (1 : Int32)) (hb hby own_d41_35) (q := 38) rfl rfl rfl rfl ?_
  rw [show ((1 : Int32) + (1 : Int32) : Int32) = (2 : Int32) from by decide]
  refine own_goto X2352 hx (hb hby own_d41_38) (q := 10) (by decide) (by decide) ?_
  refine own_iload X2352 hx (hb hby own_d41_10) (q := 12) rfl rfl ?_
  refine own_iload X2352 hx (hb hby own_d41_12) (q := 14) rfl rfl ?_
  refine own_icmpM X2352 hx (hb hby own_d41_14) (cd := .ge) (x := (2 : Int32)) (y := (2 : Int32)) (pt := 41) (q := 17) (by decide) (by decide) rfl rfl (fun _ => ?_) (fun h => False.elim (((by decide) : ¬ ((2 : Int32) < (2 : Int32))) h))
  refine own_retV X2352 hx hlk (rest := []) hret (hb hby own_d41_41) ?_ (by decide) (by decide)
  show own_Q41_2 Z a1 a3 cs G vs y0 y1 zs nn2 h0 n0 _ T2350.heap _
  exact ⟨rfl, N2356, K2360, V2359, A2357⟩
theorem own_ef40_k0_k0_k2 (m : MethodId) (a1 : Addr) (a3 : Addr) : entryFrame m #[.ref a1, .int (0 : Int32), .ref a3, .int (0 : Int32), .int (2 : Int32)] 5 = mkF m 0 #[.val (.ref a1), .val (.int (0 : Int32)), .val (.ref a3), .val (.int (0 : Int32)), .val (.int (2 : Int32))] [] := by first | (simp [entryFrame, mkF, argsToLocals, Value.category]; done) | rfl

def own_Q40_2 (Z : State) (a1 : Addr) (a3 : Addr) (cs : Int32) (G : Value) (vs : List Value) (y0 : Int32) (y1 : Int32) (zs : List Value) (nn2 : Int32) (h0 : Heap) (n0 : Nat) (v : Option Value) (h : Heap) (L : List Loc) : Prop := v = none ∧ Fr n0 L ∧ Keep h0 h [a3] ∧ own_A Z h a1 .byte vs ∧ own_A Z h a3 .byte ((((zs.set 0 (.int (((y0 &&& (255 : Int32)) >>> ((0 : Int32) &&& 31)).toInt8.toInt32))).set 1 (.int (((y0 &&& (255 : Int32)) >>> ((8 : Int32) &&& 31)).toInt8.toInt32))).set 2 (.int (((y1 &&& (255 : Int32)) >>> ((0 : Int32) &&& 31)).toInt8.toInt32))).set 3 (.int (((y1 &&& (255 : Int32)) >>> ((8 : Int32) &&& 31)).toInt8.toInt32)))
set_option maxRecDepth 65536 in
set_option maxHeartbeats 40000000 in
theorem rm40_2 (l : Launch) (Z : State) (a0 : Array Value) (hw : ∀ d ∈ tables_1, d.before a0 Z = true) (ws : List Jvm.Cond) (a1 : Addr) (a3 : Addr) (cs : Int32) (G : Value) (vs : List Value) (y0 : Int32) (y1 : Int32) (zs : List Value) (nn2 : Int32) (h0 : Heap) (n0 : Nat) (G0p : own_G Z h0 cs G) (V1p : own_A Z h0 a1 .byte vs) (V2p : own_A Z h0 a3 .byte zs) (G_a3 : n0 ≤ a3) (ne_a1_a3 : a1 ≠ a3)  (kn0 : ¬ ((((own_f38 nn2) ||| (0 : Int32)) ||| (2 : Int32)) < (0 : Int32))) (kn1 : ¬ (((own_f38 nn2) - (0 : Int32)) < (2 : Int32))) (hl_zs : zs.length.toInt32 = nn2) (hlw : 4 ≤ zs.length) (r0 : vs[0]? = some (.int y0)) (r1 : vs[1]? = some (.int y1)) :
    own_M l (⟨"java/lang/StringLatin1", "inflate", "([BI[BII)V"⟩ : MethodName) jdk_43_method_50_code 5 none ws ({ frames := 4, cells := 0, slots := 0, locals := 60 } : Room) #[.ref a1, .int (0 : Int32), .ref a3, .int (0 : Int32), .int (2 : Int32)] Z h0 (own_Q40_2 Z a1 a3 cs G vs y0 y1 zs nn2 h0 n0) := by
  refine own_prol (C := "java/lang/StringLatin1") rfl own_pn0 (fun m => own_ef40_k0_k0_k2 m ..) ?_
  intro p e s m below meth c s₁ hx hby hml hown hnm hlk hret X0 e0 hZ
  have N0 := Fr.nil n0
  have K0 := Keep.refl h0 [a3]
  refine own_aloadN X0 hx (hb hby own_d40_0) (q := 1) rfl rfl rfl ?_
  refine own_iloadN X0 hx (hb hby own_d40_1) (q := 2) rfl rfl ?_
  refine own_aloadN X0 hx (hb hby own_d40_2) (q := 3) rfl rfl rfl ?_
  refine own_iloadN X0 hx (hb hby own_d40_3) (q := 4) rfl rfl ?_
  refine own_iload X0 hx (hb hby own_d40_4) (q := 6) rfl rfl ?_
  refine own_callS X0 hx hZ hown (own_h hw 198 rfl) (own_h hw 199 rfl) (own_h hw 104 rfl) (own_h hw 200 rfl) (by decide) (rm41_2 l Z a0 hw [] a1 a3 cs G vs y0 y1 zs nn2 h0 n0 G0p V1p V2p G_a3 ne_a1_a3 kn0 kn1 hl_zs hlw r0 r1) own_pd20 rfl e0 (by rw [hml]; rfl) (argsL := [.ref a1, .int (0 : Int32), .ref a3, .int (0 : Int32), .int (2 : Int32)]) (st := []) rfl (W := 0) (Nat.le_of_eq rfl) (by decide) (by decide) (by decide) (by decide) (hb hby own_d40_6) (q := 9) rfl (fun v2367 T2368 L2369 X2370 hQ2371 => ?_)
  obtain ⟨rfl, N2372, K2373, A2375, A2376⟩ := hQ2371
  have G2377 := G0p.keep K2373 (allS V2p.plain all0)
  have K2378 := K0.trans K2373 (allS (Or.inl (List.mem_of_getElem? (i := 0) rfl)) all0)
  have N2374 := Fr.app N0 N2372
  show own_Go _ _ _ _ (T2368.setTop (mkF m 9 #[.val (.ref a1), .val (.int (0 : Int32)), .val (.ref a3), .val (.int (0 : Int32)), .val (.int (2 : Int32))] []))
  refine own_retV X2370 hx hlk (rest := []) hret (hb hby own_d40_9) ?_ (by decide) (by decide)
  show own_Q40_2 Z a1 a3 cs G vs y0 y1 zs nn2 h0 n0 _ T2368.heap _
  exact ⟨rfl, N2374, K2378, A2375, A2376⟩

def own_Q39_2 (Z : State) (a1 : Addr) (cs : Int32) (G : Value) (b1 : Addr) (vs : List Value) (nn : Int32) (y0 : Int32) (y1 : Int32) (h0 : Heap) (n0 : Nat) (v : Option Value) (h : Heap) (L : List Loc) : Prop := ∃ ra0 : Addr, v = none ∧ Fr n0 L ∧ Keep h0 h [a1] ∧ h0.size ≤ ra0 ∧ Exa Z h ra0 "[B" ∧ own_A Z h ra0 .byte (((((List.replicate (own_f33 nn).toNatClampNeg (.int (0 : Int32))).set 0 (.int (((y0 &&& (255 : Int32)) >>> ((0 : Int32) &&& 31)).toInt8.toInt32))).set 1 (.int (((y0 &&& (255 : Int32)) >>> ((8 : Int32) &&& 31)).toInt8.toInt32))).set 2 (.int (((y1 &&& (255 : Int32)) >>> ((0 : Int32) &&& 31)).toInt8.toInt32))).set 3 (.int (((y1 &&& (255 : Int32)) >>> ((8 : Int32) &&& 31)).toInt8.toInt32))) ∧ Exa Z h a1 "java/lang/StringBuilder" ∧ Fld Z h a1 "java/lang/AbstractStringBuilder" "value" "[B" (.ref ra0) ∧ Fld Z h a1 "java/lang/AbstractStringBuilder" "coder" "B" (.int (1 : Int32)) ∧ Fld Z h a1 "java/lang/AbstractStringBuilder" "count" "I" (.int (2 : Int32)) ∧ Fld Z h a1 "java/lang/AbstractStringBuilder" "maybeLatin1" "Z" (.int (0 : Int32)) ∧ Exa Z h b1 "[B" ∧ own_A Z h b1 .byte vs
set_option maxRecDepth 65536 in
set_option maxHeartbeats 40000000 in
theorem rm39_2 (l : Launch) (Z : State) (a0 : Array Value) (hw : ∀ d ∈ tables_1, d.before a0 Z = true) (ws : List Jvm.Cond) (a1 : Addr) (cs : Int32) (G : Value) (b1 : Addr) (vs : List Value) (nn : Int32) (y0 : Int32) (y1 : Int32) (h0 : Heap) (n0 : Nat) (Z0 : n0 ≤ h0.size) (G0p : own_G Z h0 cs G) (E1p : Exa Z h0 a1 "java/lang/StringBuilder") (F2p : Fld Z h0 a1 "java/lang/AbstractStringBuilder" "value" "[B" (.ref b1)) (F3p : Fld Z h0 a1 "java/lang/AbstractStringBuilder" "coder" "B" (.int (0 : Int32))) (F4p : Fld Z h0 a1 "java/lang/AbstractStringBuilder" "count" "I" (.int (2 : Int32))) (F5p : Fld Z h0 a1 "java/lang/AbstractStringBuilder" "maybeLatin1" "Z" (.int (0 : Int32))) (E6p : Exa Z h0 b1 "[B") (V7p : own_A Z h0 b1 .byte vs) (G_a1 : n0 ≤ a1) (ne_b1_a1 : b1 ≠ a1)  (kn0 : ¬ (nn < (0 : Int32))) (kn1 : nn < (1073741823 : Int32)) (kn2 : ¬ ((own_f33 nn) < (0 : Int32))) (kn3 : ¬ ((((own_f38 (own_f33 nn)) ||| (0 : Int32)) ||| (2 : Int32)) < (0 : Int32))) (kn4 : ¬ (((own_f38 (own_f33 nn)) - (0 : Int32)) < (2 : Int32))) (hl_vs : vs.length.toInt32 = nn) (hcap : (own_f33 nn).toNatClampNeg ≤ 6) (hlw : 4 ≤ (List.replicate (own_f33 nn).toNatClampNeg (Value.int (0 : Int32))).length) (r0 : vs[0]? = some (.int y0)) (r1 : vs[1]? = some (.int y1)) :
    own_M l (⟨"java/lang/AbstractStringBuilder", "inflate", "()V"⟩ : MethodName) jdk_68_method_11_code 2 none ws ({ frames := 5, cells := 1, slots := 6, locals := 76 } : Room) #[.ref a1] Z h0 (own_Q39_2 Z a1 cs G b1 vs nn y0 y1 h0 n0) := by
  refine own_prol (C := "java/lang/AbstractStringBuilder") rfl own_pn41 (fun m => own_ef39 m ..) ?_
  intro p e s m below meth c s₁ hx hby hml hown hnm hlk hret X0 e0 hZ
  have N0 := Fr.nil n0
  have K0 := Keep.refl h0 [a1]
  refine own_aloadN X0 hx (hb hby own_d39_0) (q := 1) rfl rfl rfl ?_
  refine own_callV2P X0 hx hZ hown (own_h hw 151 rfl) (own_h hw 84 rfl) (own_h hw 70 rfl) rfl (own_h hw 86 rfl) (own_h hw 85 rfl) (own_h hw 47 rfl) (own_h hw 87 rfl) E1p (by decide) (rm15_0 l Z a0 hw [] a1 cs G h0 G0p F3p) own_pd15 rfl e0 (by rw [hml]; rfl) (argsL := []) (st := []) rfl (W := 0) (Nat.le_of_eq rfl) (by decide) (by decide) (by decide) (by decide) (hb hby own_d39_1) (q := 4) rfl (fun T2379 X2380 e2381 => ?_)
  rw [show (own_f15_0 cs : Int32) = (1 : Int32) from rfl]
  refine own_if0M X2380 hx (hb hby own_d39_4) (cd := .ne) (x := (1 : Int32)) (pt := 8) (q := 7) (by decide) (by decide) rfl rfl (fun _ => ?_) (fun h => False.elim (((by decide) : ¬ ((1 : Int32) = (0 : Int32))) h))
  refine own_aloadN X2380 hx (hb hby own_d39_8) (q := 9) rfl rfl rfl ?_
  refine own_getF X2380 hx hZ hown (host := "") (Or.inl (own_h hw 51 rfl)) Via.refl e2381 F2p (hb hby own_d39_9) (q := 12) rfl (fun T2382 X2383 e2384 => ?_)
  refine own_alen X2383 hx hZ (n := nn) e2384 V7p hl_vs (hb hby own_d39_12) (q := 13) rfl ?_
  refine own_callS X2383 hx hZ hown (own_h hw 194 rfl) (own_h hw 164 rfl) (own_h hw 104 rfl) (own_h hw 165 rfl) (by decide) (rm32 l Z a0 hw [] nn h0 n0 Z0  kn0 kn1 kn2 hcap) own_pd8 rfl e2384 (by rw [hml]; rfl) (argsL := [.int nn]) (st := []) rfl (W := 0) (Nat.le_of_eq rfl) (by decide) (by decide) (by decide) (by decide) (hb hby own_d39_13) (q := 16) rfl (fun v2391 T2392 L2393 X2394 hQ2395 => ?_)
  obtain ⟨a2399, rfl, N2396, K2397, O2400, E2401, A2402⟩ := hQ2395
  have G2403 := G0p.keep K2397 all0
  have E2404 := E1p.keep K2397
  have F2405 := F2p.keep K2397 nin0
  have F2406 := F3p.keep K2397 nin0
  have F2407 := F4p.keep K2397 nin0
  have F2408 := F5p.keep K2397 nin0
  have E2409 := E6p.keep K2397
  have V2410 := V7p.keep K2397 nin0
  have Z2411 : n0 ≤ T2392.heap.size := Nat.le_trans Z0 K2397.1
  have K2412 := K0.trans K2397 all0
  have N2398 := Fr.app N0 N2396
  have ne2413 : a1 ≠ a2399 := Nat.ne_of_lt (Nat.lt_of_lt_of_le E1p.lt O2400)
  have ne2414 : b1 ≠ a2399 := Nat.ne_of_lt (Nat.lt_of_lt_of_le V7p.lt O2400)
  have Z2415 : n0 ≤ a2399 := Nat.le_trans Z0 O2400
  have O2416 : h0.size ≤ a2399 := Nat.le_trans K0.1 O2400
  show own_Go _ _ _ _ (T2392.setTop (mkF m 16 #[.val (.ref a1), .unset] [.ref a2399]))
  refine own_astoreN (L' := #[.val (.ref a1), .val (.ref a2399)]) X2394 hx (hb hby own_d39_16) (q := 17) rfl rfl rfl ?_
  refine own_aloadN X2394 hx (hb hby own_d39_17) (q := 18) rfl rfl rfl ?_
  refine own_getF X2394 hx hZ hown (host := "") (Or.inl (own_h hw 51 rfl)) Via.refl rfl F2405 (hb hby own_d39_18) (q := 21) rfl (fun T2417 X2418 e2419 => ?_)
  refine own_iconst X2418 hx (v := (0 : Int32)) (hb hby own_d39_21) (q := 22) rfl rfl ?_
  refine own_aloadN X2418 hx (hb hby own_d39_22) (q := 23) rfl rfl rfl ?_
  refine own_iconst X2418 hx (v := (0 : Int32)) (hb hby own_d39_23) (q := 24) rfl rfl ?_
  refine own_aloadN X2418 hx (hb hby own_d39_24) (q := 25) rfl rfl rfl ?_
  refine own_getF X2418 hx hZ hown (host := "") (Or.inl (own_h hw 81 rfl)) Via.refl e2419 F2407 (hb hby own_d39_25) (q := 28) rfl (fun T2420 X2421 e2422 => ?_)
  refine own_callS X2421 hx hZ hown (own_h hw 195 rfl) (own_h hw 196 rfl) (own_h hw 124 rfl) (own_h hw 197 rfl) (by decide) (rm40_2 l Z a0 hw [] b1 a2399 cs G vs y0 y1 (List.replicate (own_f33 nn).toNatClampNeg (.int (0 : Int32))) (own_f33 nn) T2392.heap n0 G2403 V2410 A2402 Z2415 ne2414 kn3 kn4 (own_repl kn2) hlw r0 r1) own_pd20 rfl e2422 (by rw [hml]; rfl) (argsL := [.ref b1, .int (0 : Int32), .ref a2399, .int (0 : Int32), .int (2 : Int32)]) (st := []) rfl (W := 0) (Nat.le_of_eq rfl) (by decide) (by decide) (by decide) (by decide) (hb hby own_d39_28) (q := 31) rfl (fun v2429 T2430 L2431 X2432 hQ2433 => ?_)
  obtain ⟨rfl, N2434, K2435, A2437, A2438⟩ := hQ2433
  have G2439 := G2403.keep K2435 (allS (own_exaPlain E2401) all0)
  have E2440 := E2404.keep K2435
  have F2441 := F2405.keep K2435 (ninS ne2413 nin0)
  have F2442 := F2406.keep K2435 (ninS ne2413 nin0)
  have F2443 := F2407.keep K2435 (ninS ne2413 nin0)
  have F2444 := F2408.keep K2435 (ninS ne2413 nin0)
  have E2445 := E2409.keep K2435
  have E2446 := E2401.keep K2435
  have Z2447 : n0 ≤ T2430.heap.size := Nat.le_trans Z2411 K2435.1
  have K2448 := K2412.trans K2435 (allS (Or.inr O2416) all0)
  have N2436 := Fr.app N2398 N2434
  show own_Go _ _ _ _ (T2430.setTop (mkF m 31 #[.val (.ref a1), .val (.ref a2399)] []))
  refine own_aloadN X2432 hx (hb hby own_d39_31) (q := 32) rfl rfl rfl ?_
  refine own_aloadN X2432 hx (hb hby own_d39_32) (q := 33) rfl rfl rfl ?_
  refine own_putF X2432 hx hZ hown (host := "") (Or.inl (own_h hw 51 rfl)) Via.refl rfl F2441 E2440 (Or.inl (own_h hw 52 rfl)) (own_h hw 27 rfl) (ty := (.array .byte)) (by decide) rfl rfl (hb hby own_d39_33) (q := 36) rfl (fun T2449 h2452 X2450 e2451 W2453 => ?_)
  have G2454 := G2439.wr W2453
  have E2455 := Exa.wr W2453 E2440
  have F2456 := Fld.same W2453 F2441
  have F2457 := Fld.other W2453 F2442 (Or.inr (slot_ne (C := "java/lang/StringBuilder") (Or.inl (own_h hw 54 rfl)) (Or.inl (own_h hw 52 rfl)) (by decide) (t := .byte) (t' := (.array .byte)) (by decide) (by decide)))
  have F2458 := Fld.other W2453 F2443 (Or.inr (slot_ne (C := "java/lang/StringBuilder") (Or.inl (own_h hw 82 rfl)) (Or.inl (own_h hw 52 rfl)) (by decide) (t := .int) (t' := (.array .byte)) (by decide) (by decide)))
  have F2459 := Fld.other W2453 F2444 (Or.inr (slot_ne (C := "java/lang/StringBuilder") (Or.inl (own_h hw 214 rfl)) (Or.inl (own_h hw 52 rfl)) (by decide) (t := .boolean) (t' := (.array .byte)) (by decide) (by decide)))
  have E2460 := Exa.wr W2453 E2445
  have A2461 := A2437.other W2453 ne_b1_a1
  have E2462 := Exa.wr W2453 E2446
  have A2463 := A2438.other W2453 (Ne.symm ne2413)
  have K2464 := K2448.wr W2453 (Or.inl (List.mem_of_getElem? (i := 0) rfl))
  have Z2465 : n0 ≤ h2452.size := W2453.size ▸ Z2447
  have N2466 := Fr.snoc X2450 N2436 G_a1
  refine own_aloadN X2450 hx (hb hby own_d39_36) (q := 37) rfl rfl rfl ?_
  refine own_iconst X2450 hx (v := (1 : Int32)) (hb hby own_d39_37) (q := 38) rfl rfl ?_
  refine own_putF X2450 hx hZ hown (host := "") (Or.inl (own_h hw 53 rfl)) Via.refl e2451 F2457 E2455 (Or.inl (own_h hw 54 rfl)) (own_h hw 27 rfl) (ty := .byte) (by decide) rfl rfl (hb hby own_d39_38) (q := 41) rfl (fun T2467 h2470 X2468 e2469 W2471 => ?_)
  have G2472 := G2454.wr W2471
  have E2473 := Exa.wr W2471 E2455
  have F2474 := Fld.other W2471 F2456 (Or.inr (slot_ne (C := "java/lang/StringBuilder") (Or.inl (own_h hw 52 rfl)) (Or.inl (own_h hw 54 rfl)) (by decide) (t := (.array .byte)) (t' := .byte) (by decide) (by decide)))
  have F2475 := Fld.same W2471 F2457
  have F2476 := Fld.other W2471 F2458 (Or.inr (slot_ne (C := "java/lang/StringBuilder") (Or.inl (own_h hw 82 rfl)) (Or.inl (own_h hw 54 rfl)) (by decide) (t := .int) (t' := .byte) (by decide) (by decide)))
  have F2477 := Fld.other W2471 F2459 (Or.inr (slot_ne (C := "java/lang/StringBuilder") (Or.inl (own_h hw 214 rfl)) (Or.inl (own_h hw 54 rfl)) (by decide) (t := .boolean) (t' := .byte) (by decide) (by decide)))
  have E2478 := Exa.wr W2471 E2460
  have A2479 := A2461.other W2471 ne_b1_a1
  have E2480 := Exa.wr W2471 E2462
  have A2481 := A2463.other W2471 (Ne.symm ne2413)
  have K2482 := K2464.wr W2471 (Or.inl (List.mem_of_getElem? (i := 0) rfl))
  have Z2483 : n0 ≤ h2470.size := W2471.size ▸ Z2465
  have N2484 := Fr.snoc X2468 N2466 G_a1
  refine own_retV X2468 hx hlk (rest := []) hret (hb hby own_d39_41) ?_ (by decide) (by decide)
  show own_Q39_2 Z a1 cs G b1 vs nn y0 y1 h0 n0 _ T2467.heap _
  rw [e2469]
  exact ⟨a2399, rfl, N2484, K2482, O2416, E2480, A2481, E2473, F2474, F2475, F2476, F2477, E2478, A2479⟩

def own_Q27_H2 (Z : State) (a1 : Addr) (p2 : Int32) (cs : Int32) (G : Value) (b1 : Addr) (vs : List Value) (nn : Int32) (y0 : Int32) (y1 : Int32) (h0 : Heap) (n0 : Nat) (v : Option Value) (h : Heap) (L : List Loc) : Prop := ∃ ra0 : Addr, v = some (.ref a1) ∧ Fr n0 L ∧ Keep h0 h [a1] ∧ h0.size ≤ ra0 ∧ Exa Z h ra0 "[B" ∧ own_A Z h ra0 .byte (((((((List.replicate (own_f33 nn).toNatClampNeg (.int (0 : Int32))).set 0 (.int (((y0 &&& (255 : Int32)) >>> ((0 : Int32) &&& 31)).toInt8.toInt32))).set 1 (.int (((y0 &&& (255 : Int32)) >>> ((8 : Int32) &&& 31)).toInt8.toInt32))).set 2 (.int (((y1 &&& (255 : Int32)) >>> ((0 : Int32) &&& 31)).toInt8.toInt32))).set 3 (.int (((y1 &&& (255 : Int32)) >>> ((8 : Int32) &&& 31)).toInt8.toInt32))).set 4 (.int ((p2 >>> ((0 : Int32) &&& 31)).toInt8.toInt32))).set 5 (.int ((p2 >>> ((8 : Int32) &&& 31)).toInt8.toInt32))) ∧ Exa Z h a1 "java/lang/StringBuilder" ∧ Fld Z h a1 "java/lang/AbstractStringBuilder" "value" "[B" (.ref ra0) ∧ Fld Z h a1 "java/lang/AbstractStringBuilder" "coder" "B" (.int (1 : Int32)) ∧ Fld Z h a1 "java/lang/AbstractStringBuilder" "count" "I" (.int (3 : Int32)) ∧ Fld Z h a1 "java/lang/AbstractStringBuilder" "maybeLatin1" "Z" (.int (0 : Int32)) ∧ Exa Z h b1 "[B" ∧ own_A Z h b1 .byte vs
set_option maxRecDepth 65536 in
set_option maxHeartbeats 40000000 in
theorem rm27_H2 (l : Launch) (Z : State) (a0 : Array Value) (hw : ∀ d ∈ tables_1, d.before a0 Z = true) (ws : List Jvm.Cond) (a1 : Addr) (p2 : Int32) (cs : Int32) (G : Value) (b1 : Addr) (vs : List Value) (nn : Int32) (y0 : Int32) (y1 : Int32) (h0 : Heap) (n0 : Nat) (Z0 : n0 ≤ h0.size) (G0p : own_G Z h0 cs G) (E1p : Exa Z h0 a1 "java/lang/StringBuilder") (F2p : Fld Z h0 a1 "java/lang/AbstractStringBuilder" "value" "[B" (.ref b1)) (F3p : Fld Z h0 a1 "java/lang/AbstractStringBuilder" "coder" "B" (.int (0 : Int32))) (F4p : Fld Z h0 a1 "java/lang/AbstractStringBuilder" "count" "I" (.int (2 : Int32))) (F5p : Fld Z h0 a1 "java/lang/AbstractStringBuilder" "maybeLatin1" "Z" (.int (0 : Int32))) (E6p : Exa Z h0 b1 "[B") (V7p : own_A Z h0 b1 .byte vs) (G_a1 : n0 ≤ a1) (ne_b1_a1 : b1 ≠ a1)  (kn0 : ¬ (nn < (0 : Int32))) (kn1 : nn < (1073741823 : Int32)) (kn2 : ¬ ((own_f33 nn) < (0 : Int32))) (kn3 : ¬ ((((own_f38 (own_f33 nn)) ||| (0 : Int32)) ||| (2 : Int32)) < (0 : Int32))) (kn4 : ¬ (((own_f38 (own_f33 nn)) - (0 : Int32)) < (2 : Int32))) (kn5 : (255 : Int32) < p2) (kn6 : ¬ ((0 : Int32) < ((3 : Int32) - (nn >>> ((0 : Int32) &&& 31))))) (kn7 : (2 : Int32) < (own_f38 (own_f33 nn))) (hl_vs : vs.length.toInt32 = nn) (hcap : (own_f33 nn).toNatClampNeg ≤ 6) (hlw : 4 ≤ (List.replicate (own_f33 nn).toNatClampNeg (Value.int (0 : Int32))).length) (r0 : vs[0]? = some (.int y0)) (r1 : vs[1]? = some (.int y1)) (i0 : ((2 : Int32) <<< ((1 : Int32) &&& 31)).toNatClampNeg < (List.replicate (own_f33 nn).toNatClampNeg (Value.int (0 : Int32))).length) (i1 : (((2 : Int32) <<< ((1 : Int32) &&& 31)) + (1 : Int32)).toNatClampNeg < (List.replicate (own_f33 nn).toNatClampNeg (Value.int (0 : Int32))).length) :
    own_M l (⟨"java/lang/AbstractStringBuilder", "append", "(C)Ljava/lang/AbstractStringBuilder;"⟩ : MethodName) jdk_68_method_31_code 2 (some (.object "java/lang/AbstractStringBuilder")) ws ({ frames := 6, cells := 1, slots := 6, locals := 89 } : Room) #[.ref a1, .int p2] Z h0 (own_Q27_H2 Z a1 p2 cs G b1 vs nn y0 y1 h0 n0) := by
  refine own_prol (C := "java/lang/AbstractStringBuilder") rfl own_pn41 (fun m => own_ef27 m ..) ?_
  intro p e s m below meth c s₁ hx hby hml hown hnm hlk hret X0 e0 hZ
  have N0 := Fr.nil n0
  have K0 := Keep.refl h0 [a1]
  refine own_aloadN X0 hx (hb hby own_d27_0) (q := 1) rfl rfl rfl ?_
  refine own_aloadN X0 hx (hb hby own_d27_1) (q := 2) rfl rfl rfl ?_
  refine own_getF X0 hx hZ hown (host := "") (Or.inl (own_h hw 81 rfl)) Via.refl e0 F4p (hb hby own_d27_2) (q := 5) rfl (fun T2485 X2486 e2487 => ?_)
  refine own_iconst X2486 hx (v := (1 : Int32)) (hb hby own_d27_5) (q := 6) rfl rfl ?_
  refine own_iadd X2486 hx (hb hby own_d27_6) (q := 7) rfl ?_
  rw [show ((2 : Int32) + (1 : Int32) : Int32) = (3 : Int32) from by decide]
  refine own_callQ2V X2486 hx hZ hown (own_h hw 146 rfl) (own_h hw 147 rfl) (own_h hw 149 rfl) (own_h hw 148 rfl) (own_h hw 47 rfl) (own_h hw 150 rfl) E1p (by decide) (rm28_0 l Z a0 hw [] a1 (3 : Int32) b1 vs nn h0 F2p F3p V7p kn6 hl_vs) own_pd16 rfl e2487 (by rw [hml]; rfl) (argsL := [.int (3 : Int32)]) (st := []) rfl (W := 0) (Nat.le_of_eq rfl) (by decide) (by decide) (by decide) (by decide) (hb hby own_d27_7) (q := 10) rfl (fun T2488 X2489 e2490 => ?_)
  refine own_aloadN X2489 hx (hb hby own_d27_10) (q := 11) rfl rfl rfl ?_
  refine own_callV2P X2489 hx hZ hown (own_h hw 151 rfl) (own_h hw 84 rfl) (own_h hw 70 rfl) rfl (own_h hw 86 rfl) (own_h hw 85 rfl) (own_h hw 47 rfl) (own_h hw 87 rfl) E1p (by decide) (rm15_0 l Z a0 hw [] a1 cs G h0 G0p F3p) own_pd15 rfl e2490 (by rw [hml]; rfl) (argsL := []) (st := []) rfl (W := 0) (Nat.le_of_eq rfl) (by decide) (by decide) (by decide) (by decide) (hb hby own_d27_11) (q := 14) rfl (fun T2491 X2492 e2493 => ?_)
  rw [show (own_f15_0 cs : Int32) = (1 : Int32) from rfl]
  refine own_if0P X2492 hx (hb hby own_d27_14) (cd := .eq) (x := (1 : Int32)) (pt := 45) (q := 17) (by decide) (by decide) rfl rfl (fun h => False.elim (((by decide) : ¬ ((1 : Int32) = (0 : Int32))) h)) (fun _ => ?_)
  refine own_iloadN X2492 hx (hb hby own_d27_17) (q := 18) rfl rfl ?_
  refine own_callSP X2492 hx hZ hown (own_h hw 152 rfl) (own_h hw 153 rfl) (own_h hw 124 rfl) (own_h hw 154 rfl) (by decide) (rm29_H l Z a0 hw [] p2 h0  kn5) own_pd17 rfl e2493 (by rw [hml]; rfl) (argsL := [.int p2]) (st := []) rfl (W := 0) (Nat.le_of_eq rfl) (by decide) (by decide) (by decide) (by decide) (hb hby own_d27_18) (q := 21) rfl (fun T2494 X2495 e2496 => ?_)
  rw [show (own_f29_H p2 : Int32) = (0 : Int32) from rfl]
  refine own_if0P X2495 hx (hb hby own_d27_21) (cd := .eq) (x := (0 : Int32)) (pt := 45) (q := 24) (by decide) (by decide) rfl rfl (fun _ => ?_) (fun h => False.elim (h ((by decide) : (0 : Int32) = (0 : Int32))))
  refine own_aloadN X2495 hx (hb hby own_d27_45) (q := 46) rfl rfl rfl ?_
  refine own_callV2P X2495 hx hZ hown (own_h hw 151 rfl) (own_h hw 84 rfl) (own_h hw 70 rfl) rfl (own_h hw 86 rfl) (own_h hw 85 rfl) (own_h hw 47 rfl) (own_h hw 87 rfl) E1p (by decide) (rm15_0 l Z a0 hw [] a1 cs G h0 G0p F3p) own_pd15 rfl e2496 (by rw [hml]; rfl) (argsL := []) (st := []) rfl (W := 0) (Nat.le_of_eq rfl) (by decide) (by decide) (by decide) (by decide) (hb hby own_d27_46) (q := 49) rfl (fun T2497 X2498 e2499 => ?_)
  rw [show (own_f15_0 cs : Int32) = (1 : Int32) from rfl]
  refine own_if0P X2498 hx (hb hby own_d27_49) (cd := .eq) (x := (1 : Int32)) (pt := 56) (q := 52) (by decide) (by decide) rfl rfl (fun h => False.elim (((by decide) : ¬ ((1 : Int32) = (0 : Int32))) h)) (fun _ => ?_)
  refine own_aloadN X2498 hx (hb hby own_d27_52) (q := 53) rfl rfl rfl ?_
  refine own_callQ2 X2498 hx hZ hown (own_h hw 189 rfl) (own_h hw 190 rfl) (own_h hw 192 rfl) (own_h hw 191 rfl) (own_h hw 47 rfl) (own_h hw 193 rfl) E1p (by decide) (rm39_2 l Z a0 hw [] a1 cs G b1 vs nn y0 y1 h0 n0 Z0 G0p E1p F2p F3p F4p F5p E6p V7p G_a1 ne_b1_a1 kn0 kn1 kn2 kn3 kn4 hl_vs hcap hlw r0 r1) own_pd21 rfl e2499 (by rw [hml]; rfl) (argsL := []) (st := []) rfl (W := 0) (Nat.le_of_eq rfl) (by decide) (by decide) (by decide) (by decide) (hb hby own_d27_53) (q := 56) rfl (fun v2503 T2504 L2505 X2506 hQ2507 => ?_)
  obtain ⟨a2511, rfl, N2508, K2509, O2512, E2513, A2514, E2515, F2516, F2517, F2518, F2519, E2520, A2521⟩ := hQ2507
  have G2522 := G0p.keep K2509 (allS (own_exaPlain E1p) all0)
  have Z2523 : n0 ≤ T2504.heap.size := Nat.le_trans Z0 K2509.1
  have K2524 := K0.trans K2509 (allS (Or.inl (List.mem_of_getElem? (i := 0) rfl)) all0)
  have N2510 := Fr.app N0 N2508
  have ne2525 : a1 ≠ a2511 := Nat.ne_of_lt (Nat.lt_of_lt_of_le E1p.lt O2512)
  have ne2526 : b1 ≠ a2511 := Nat.ne_of_lt (Nat.lt_of_lt_of_le V7p.lt O2512)
  have Z2527 : n0 ≤ a2511 := Nat.le_trans Z0 O2512
  have O2528 : h0.size ≤ a2511 := Nat.le_trans K0.1 O2512
  show own_Go _ _ _ _ (T2504.setTop (mkF m 56 #[.val (.ref a1), .val (.int p2)] []))
  refine own_aloadN X2506 hx (hb hby own_d27_56) (q := 57) rfl rfl rfl ?_
  refine own_getF X2506 hx hZ hown (host := "") (Or.inl (own_h hw 51 rfl)) Via.refl rfl F2516 (hb hby own_d27_57) (q := 60) rfl (fun T2529 X2530 e2531 => ?_)
  refine own_aloadN X2530 hx (hb hby own_d27_60) (q := 61) rfl rfl rfl ?_
  refine own_dup X2530 hx (hb hby own_d27_61) (q := 62) rfl rfl ?_
  refine own_getF X2530 hx hZ hown (host := "") (Or.inl (own_h hw 81 rfl)) Via.refl e2531 F2518 (hb hby own_d27_62) (q := 65) rfl (fun T2532 X2533 e2534 => ?_)
  refine own_dupX1 X2533 hx (hb hby own_d27_65) (q := 66) rfl rfl rfl ?_
  refine own_iconst X2533 hx (v := (1 : Int32)) (hb hby own_d27_66) (q := 67) rfl rfl ?_
  refine own_iadd X2533 hx (hb hby own_d27_67) (q := 68) rfl ?_
  rw [show ((2 : Int32) + (1 : Int32) : Int32) = (3 : Int32) from by decide]
  refine own_putF X2533 hx hZ hown (host := "") (Or.inl (own_h hw 81 rfl)) Via.refl e2534 F2518 E2515 (Or.inl (own_h hw 82 rfl)) (own_h hw 27 rfl) (ty := .int) (by decide) rfl rfl (hb hby own_d27_68) (q := 71) rfl (fun T2535 h2538 X2536 e2537 W2539 => ?_)
  have G2540 := G2522.wr W2539
  have E2541 := Exa.wr W2539 E2515
  have F2542 := Fld.other W2539 F2516 (Or.inr (slot_ne (C := "java/lang/StringBuilder") (Or.inl (own_h hw 52 rfl)) (Or.inl (own_h hw 82 rfl)) (by decide) (t := (.array .byte)) (t' := .int) (by decide) (by decide)))
  have F2543 := Fld.other W2539 F2517 (Or.inr (slot_ne (C := "java/lang/StringBuilder") (Or.inl (own_h hw 54 rfl)) (Or.inl (own_h hw 82 rfl)) (by decide) (t := .byte) (t' := .int) (by decide) (by decide)))
  have F2544 := Fld.same W2539 F2518
  have F2545 := Fld.other W2539 F2519 (Or.inr (slot_ne (C := "java/lang/StringBuilder") (Or.inl (own_h hw 214 rfl)) (Or.inl (own_h hw 82 rfl)) (by decide) (t := .boolean) (t' := .int) (by decide) (by decide)))
  have E2546 := Exa.wr W2539 E2520
  have A2547 := A2521.other W2539 ne_b1_a1
  have E2548 := Exa.wr W2539 E2513
  have A2549 := A2514.other W2539 (Ne.symm ne2525)
  have K2550 := K2524.wr W2539 (Or.inl (List.mem_of_getElem? (i := 0) rfl))
  have Z2551 : n0 ≤ h2538.size := W2539.size ▸ Z2523
  have N2552 := Fr.snoc X2536 N2510 G_a1
  refine own_iloadN X2536 hx (hb hby own_d27_71) (q := 72) rfl rfl ?_
  refine own_callS X2536 hx hZ hown (own_h hw 210 rfl) (own_h hw 211 rfl) (own_h hw 104 rfl) (own_h hw 212 rfl) (by decide) (rm45 l Z a0 hw [] a2511 (2 : Int32) p2 cs G (((((List.replicate (own_f33 nn).toNatClampNeg (.int (0 : Int32))).set 0 (.int (((y0 &&& (255 : Int32)) >>> ((0 : Int32) &&& 31)).toInt8.toInt32))).set 1 (.int (((y0 &&& (255 : Int32)) >>> ((8 : Int32) &&& 31)).toInt8.toInt32))).set 2 (.int (((y1 &&& (255 : Int32)) >>> ((0 : Int32) &&& 31)).toInt8.toInt32))).set 3 (.int (((y1 &&& (255 : Int32)) >>> ((8 : Int32) &&& 31)).toInt8.toInt32))) (own_f33 nn) h2538 n0 G2540 A2549 Z2527 (by decide) kn7 (by first | exact own_repl kn2 | (simp only [List.length_set]; exact own_repl kn2)) (by decide) (by decide) (by first | exact i0 | (simp only [List.length_set]; exact i0)) (by first | exact i1 | (simp only [List.length_set]; exact i1))) own_pd6 rfl e2537 (by rw [hml]; rfl) (argsL := [.ref a2511, .int (2 : Int32), .int p2]) (st := []) rfl (W := 0) (Nat.le_of_eq rfl) (by decide) (by decide) (by decide) (by decide) (hb hby own_d27_72) (q := 75) rfl (fun v2559 T2560 L2561 X2562 hQ2563 => ?_)
  obtain ⟨rfl, N2564, K2565, A2567⟩ := hQ2563
  have G2568 := G2540.keep K2565 (allS (own_exaPlain E2548) all0)
  have E2569 := E2541.keep K2565
  have F2570 := F2542.keep K2565 (ninS ne2525 nin0)
  have F2571 := F2543.keep K2565 (ninS ne2525 nin0)
  have F2572 := F2544.keep K2565 (ninS ne2525 nin0)
  have F2573 := F2545.keep K2565 (ninS ne2525 nin0)
  have E2574 := E2546.keep K2565
  have A2575 := A2547.keep K2565 (ninS ne2526 nin0)
  have E2576 := E2548.keep K2565
  have Z2577 : n0 ≤ T2560.heap.size := Nat.le_trans Z2551 K2565.1
  have K2578 := K2550.trans K2565 (allS (Or.inr O2528) all0)
  have N2566 := Fr.app N2552 N2564
  show own_Go _ _ _ _ (T2560.setTop (mkF m 75 #[.val (.ref a1), .val (.int p2)] []))
  rw [show ((2 : Int32) <<< ((1 : Int32) &&& 31)).toNatClampNeg = 4 from by decide, show (((2 : Int32) <<< ((1 : Int32) &&& 31)) + (1 : Int32)).toNatClampNeg = 5 from by decide] at A2567
  replace A2567 : own_A Z T2560.heap a2511 .byte (((((((List.replicate (own_f33 nn).toNatClampNeg (.int (0 : Int32))).set 0 (.int (((y0 &&& (255 : Int32)) >>> ((0 : Int32) &&& 31)).toInt8.toInt32))).set 1 (.int (((y0 &&& (255 : Int32)) >>> ((8 : Int32) &&& 31)).toInt8.toInt32))).set 2 (.int (((y1 &&& (255 : Int32)) >>> ((0 : Int32) &&& 31)).toInt8.toInt32))).set 3 (.int (((y1 &&& (255 : Int32)) >>> ((8 : Int32) &&& 31)).toInt8.toInt32))).set 4 (.int ((p2 >>> ((0 : Int32) &&& 31)).toInt8.toInt32))).set 5 (.int ((p2 >>> ((8 : Int32) &&& 31)).toInt8.toInt32))) := A2567
  refine own_aloadN X2562 hx (hb hby own_d27_75) (q := 76) rfl rfl rfl ?_
  refine own_retA X2562 hx hlk rfl rfl rfl hret (hb hby own_d27_76) ?_ (by decide) (by decide)
  show own_Q27_H2 Z a1 p2 cs G b1 vs nn y0 y1 h0 n0 _ T2560.heap _
  exact ⟨a2511, rfl, N2566, K2578, O2528, E2576, A2567, E2569, F2570, F2571, F2572, F2573, E2574, A2575⟩

def own_Q26_H2 (Z : State) (a1 : Addr) (p2 : Int32) (cs : Int32) (G : Value) (b1 : Addr) (vs : List Value) (nn : Int32) (y0 : Int32) (y1 : Int32) (h0 : Heap) (n0 : Nat) (v : Option Value) (h : Heap) (L : List Loc) : Prop := ∃ ra0 : Addr, v = some (.ref a1) ∧ Fr n0 L ∧ Keep h0 h [a1] ∧ h0.size ≤ ra0 ∧ Exa Z h ra0 "[B" ∧ own_A Z h ra0 .byte (((((((List.replicate (own_f33 nn).toNatClampNeg (.int (0 : Int32))).set 0 (.int (((y0 &&& (255 : Int32)) >>> ((0 : Int32) &&& 31)).toInt8.toInt32))).set 1 (.int (((y0 &&& (255 : Int32)) >>> ((8 : Int32) &&& 31)).toInt8.toInt32))).set 2 (.int (((y1 &&& (255 : Int32)) >>> ((0 : Int32) &&& 31)).toInt8.toInt32))).set 3 (.int (((y1 &&& (255 : Int32)) >>> ((8 : Int32) &&& 31)).toInt8.toInt32))).set 4 (.int ((p2 >>> ((0 : Int32) &&& 31)).toInt8.toInt32))).set 5 (.int ((p2 >>> ((8 : Int32) &&& 31)).toInt8.toInt32))) ∧ Exa Z h a1 "java/lang/StringBuilder" ∧ Fld Z h a1 "java/lang/AbstractStringBuilder" "value" "[B" (.ref ra0) ∧ Fld Z h a1 "java/lang/AbstractStringBuilder" "coder" "B" (.int (1 : Int32)) ∧ Fld Z h a1 "java/lang/AbstractStringBuilder" "count" "I" (.int (3 : Int32)) ∧ Fld Z h a1 "java/lang/AbstractStringBuilder" "maybeLatin1" "Z" (.int (0 : Int32)) ∧ Exa Z h b1 "[B" ∧ own_A Z h b1 .byte vs
set_option maxRecDepth 65536 in
set_option maxHeartbeats 40000000 in
theorem rm26_H2 (l : Launch) (Z : State) (a0 : Array Value) (hw : ∀ d ∈ tables_1, d.before a0 Z = true) (ws : List Jvm.Cond) (a1 : Addr) (p2 : Int32) (cs : Int32) (G : Value) (b1 : Addr) (vs : List Value) (nn : Int32) (y0 : Int32) (y1 : Int32) (h0 : Heap) (n0 : Nat) (Z0 : n0 ≤ h0.size) (G0p : own_G Z h0 cs G) (E1p : Exa Z h0 a1 "java/lang/StringBuilder") (F2p : Fld Z h0 a1 "java/lang/AbstractStringBuilder" "value" "[B" (.ref b1)) (F3p : Fld Z h0 a1 "java/lang/AbstractStringBuilder" "coder" "B" (.int (0 : Int32))) (F4p : Fld Z h0 a1 "java/lang/AbstractStringBuilder" "count" "I" (.int (2 : Int32))) (F5p : Fld Z h0 a1 "java/lang/AbstractStringBuilder" "maybeLatin1" "Z" (.int (0 : Int32))) (E6p : Exa Z h0 b1 "[B") (V7p : own_A Z h0 b1 .byte vs) (G_a1 : n0 ≤ a1) (ne_b1_a1 : b1 ≠ a1)  (kn0 : ¬ (nn < (0 : Int32))) (kn1 : nn < (1073741823 : Int32)) (kn2 : ¬ ((own_f33 nn) < (0 : Int32))) (kn3 : ¬ ((((own_f38 (own_f33 nn)) ||| (0 : Int32)) ||| (2 : Int32)) < (0 : Int32))) (kn4 : ¬ (((own_f38 (own_f33 nn)) - (0 : Int32)) < (2 : Int32))) (kn5 : (255 : Int32) < p2) (kn6 : ¬ ((0 : Int32) < ((3 : Int32) - (nn >>> ((0 : Int32) &&& 31))))) (kn7 : (2 : Int32) < (own_f38 (own_f33 nn))) (hl_vs : vs.length.toInt32 = nn) (hcap : (own_f33 nn).toNatClampNeg ≤ 6) (hlw : 4 ≤ (List.replicate (own_f33 nn).toNatClampNeg (Value.int (0 : Int32))).length) (r0 : vs[0]? = some (.int y0)) (r1 : vs[1]? = some (.int y1)) (i0 : ((2 : Int32) <<< ((1 : Int32) &&& 31)).toNatClampNeg < (List.replicate (own_f33 nn).toNatClampNeg (Value.int (0 : Int32))).length) (i1 : (((2 : Int32) <<< ((1 : Int32) &&& 31)) + (1 : Int32)).toNatClampNeg < (List.replicate (own_f33 nn).toNatClampNeg (Value.int (0 : Int32))).length) :
    own_M l (⟨"java/lang/StringBuilder", "append", "(C)Ljava/lang/StringBuilder;"⟩ : MethodName) jdk_67_method_14_code 2 (some (.object "java/lang/StringBuilder")) ws ({ frames := 7, cells := 1, slots := 6, locals := 102 } : Room) #[.ref a1, .int p2] Z h0 (own_Q26_H2 Z a1 p2 cs G b1 vs nn y0 y1 h0 n0) := by
  refine own_prol (C := "java/lang/StringBuilder") rfl own_pn43 (fun m => own_ef26 m ..) ?_
  intro p e s m below meth c s₁ hx hby hml hown hnm hlk hret X0 e0 hZ
  have N0 := Fr.nil n0
  have K0 := Keep.refl h0 [a1]
  refine own_aloadN X0 hx (hb hby own_d26_0) (q := 1) rfl rfl rfl ?_
  refine own_iloadN X0 hx (hb hby own_d26_1) (q := 2) rfl rfl ?_
  refine own_callU X0 hx hZ hown (own_h hw 142 rfl) (own_same (own_h hw 143 rfl) (own_nf (own_h hw 70 rfl) rfl) (by decide)) (own_h hw 143 rfl) (own_h hw 79 rfl) (own_h hw 47 rfl) (own_h hw 145 rfl) E1p (by decide) (by decide) (rm27_H2 l Z a0 hw [] a1 p2 cs G b1 vs nn y0 y1 h0 n0 Z0 G0p E1p F2p F3p F4p F5p E6p V7p G_a1 ne_b1_a1 kn0 kn1 kn2 kn3 kn4 kn5 kn6 kn7 hl_vs hcap hlw r0 r1 i0 i1) own_pd18 rfl e0 (by rw [hml]; rfl) (argsL := [.int p2]) (st := []) rfl (W := 0) (Nat.le_of_eq rfl) (by decide) (by decide) (by decide) (by decide) (hb hby own_d26_2) (q := 5) rfl (fun v2582 T2583 L2584 X2585 hQ2586 => ?_)
  obtain ⟨a2590, rfl, N2587, K2588, O2591, E2592, A2593, E2594, F2595, F2596, F2597, F2598, E2599, A2600⟩ := hQ2586
  have G2601 := G0p.keep K2588 (allS (own_exaPlain E1p) all0)
  have Z2602 : n0 ≤ T2583.heap.size := Nat.le_trans Z0 K2588.1
  have K2603 := K0.trans K2588 (allS (Or.inl (List.mem_of_getElem? (i := 0) rfl)) all0)
  have N2589 := Fr.app N0 N2587
  have ne2604 : a1 ≠ a2590 := Nat.ne_of_lt (Nat.lt_of_lt_of_le E1p.lt O2591)
  have ne2605 : b1 ≠ a2590 := Nat.ne_of_lt (Nat.lt_of_lt_of_le V7p.lt O2591)
  have Z2606 : n0 ≤ a2590 := Nat.le_trans Z0 O2591
  have O2607 : h0.size ≤ a2590 := Nat.le_trans K0.1 O2591
  show own_Go _ _ _ _ (T2583.setTop (mkF m 5 #[.val (.ref a1), .val (.int p2)] [.ref a1]))
  refine own_pop X2585 hx (hb hby own_d26_5) (q := 6) rfl rfl ?_
  refine own_aloadN X2585 hx (hb hby own_d26_6) (q := 7) rfl rfl rfl ?_
  refine own_retA X2585 hx hlk rfl rfl rfl hret (hb hby own_d26_7) ?_ (by decide) (by decide)
  show own_Q26_H2 Z a1 p2 cs G b1 vs nn y0 y1 h0 n0 _ T2583.heap _
  exact ⟨a2590, rfl, N2589, K2603, O2607, E2592, A2593, E2594, F2595, F2596, F2597, F2598, E2599, A2600⟩
theorem own_ef12 (m : MethodId) (a1 : Addr) : entryFrame m #[.ref a1] 1 = mkF m 0 #[.val (.ref a1)] [] := by first | (simp [entryFrame, mkF, argsToLocals, Value.category]; done) | rfl
theorem own_d12_0 : decode jdk_68_method_64_code 0 = .ok (.aload_n 0, 1) := by decide +kernel
theorem own_d12_1 : decode jdk_68_method_64_code 1 = .ok (.getfield 15, 3) := by decide +kernel
theorem own_d12_4 : decode jdk_68_method_64_code 4 = .ok (.areturn, 1) := by decide +kernel
def own_f12 (b1 : Addr) : Addr := b1
set_option maxRecDepth 65536 in
set_option maxHeartbeats 40000000 in
theorem rm12 (l : Launch) (Z : State) (a0 : Array Value) (hw : ∀ d ∈ tables_1, d.before a0 Z = true) (ws : List Jvm.Cond) (a1 : Addr) (b1 : Addr) (h0 : Heap) (F0p : Fld Z h0 a1 "java/lang/AbstractStringBuilder" "value" "[B" (.ref b1)) :
    own_M l (⟨"java/lang/AbstractStringBuilder", "getValue", "()[B"⟩ : MethodName) jdk_68_method_64_code 1 (some (.array .byte)) ws ({ frames := 0, cells := 0, slots := 0, locals := 0 } : Room) #[.ref a1] Z h0 (own_P (.ref (own_f12 b1)) h0) := by
  refine own_prol (C := "java/lang/AbstractStringBuilder") rfl own_pn41 (fun m => own_ef12 m ..) ?_
  intro p e s m below meth c s₁ hx hby hml hown hnm hlk hret X0 e0 hZ
  refine own_aloadN X0 hx (hb hby own_d12_0) (q := 1) rfl rfl rfl ?_
  refine own_getF X0 hx hZ hown (host := "") (Or.inl (own_h hw 51 rfl)) Via.refl e0 F0p (hb hby own_d12_1) (q := 4) rfl (fun T2608 X2609 e2610 => ?_)
  refine own_retA X2609 hx hlk rfl rfl rfl hret (hb hby own_d12_4) ?_ (by decide) (by decide)
  have r : own_f12 b1 = b1 := by rw [own_f12]
  exact ⟨by rw [r] <;> rfl, e2610, rfl⟩
theorem own_ef14 (m : MethodId) (a1 : Addr) : entryFrame m #[.ref a1] 1 = mkF m 0 #[.val (.ref a1)] [] := by first | (simp [entryFrame, mkF, argsToLocals, Value.category]; done) | rfl
theorem own_d14_0 : decode jdk_68_method_6_code 0 = .ok (.aload_n 0, 1) := by decide +kernel
theorem own_d14_1 : decode jdk_68_method_6_code 1 = .ok (.getfield 79, 3) := by decide +kernel
theorem own_d14_4 : decode jdk_68_method_6_code 4 = .ok (.ireturn, 1) := by decide +kernel
def own_f14 (ct : Int32) : Int32 := ct
set_option maxRecDepth 65536 in
set_option maxHeartbeats 40000000 in
theorem rm14 (l : Launch) (Z : State) (a0 : Array Value) (hw : ∀ d ∈ tables_1, d.before a0 Z = true) (ws : List Jvm.Cond) (a1 : Addr) (ct : Int32) (h0 : Heap) (F0p : Fld Z h0 a1 "java/lang/AbstractStringBuilder" "count" "I" (.int ct)) :
    own_M l (⟨"java/lang/AbstractStringBuilder", "length", "()I"⟩ : MethodName) jdk_68_method_6_code 1 (some .int) ws ({ frames := 0, cells := 0, slots := 0, locals := 0 } : Room) #[.ref a1] Z h0 (own_P (.int (own_f14 ct)) h0) := by
  refine own_prol (C := "java/lang/AbstractStringBuilder") rfl own_pn41 (fun m => own_ef14 m ..) ?_
  intro p e s m below meth c s₁ hx hby hml hown hnm hlk hret X0 e0 hZ
  refine own_aloadN X0 hx (hb hby own_d14_0) (q := 1) rfl rfl rfl ?_
  refine own_getF X0 hx hZ hown (host := "") (Or.inl (own_h hw 81 rfl)) Via.refl e0 F0p (hb hby own_d14_1) (q := 4) rfl (fun T2611 X2612 e2613 => ?_)
  refine own_retI X2612 hx hlk hret (hb hby own_d14_4) ?_ (by decide) (by decide)
  have r : own_f14 ct = ct := by rw [own_f14]
  exact ⟨by rw [r] <;> rfl, e2613, rfl⟩
theorem own_pd22 : parseMethodDescriptor "()I" = some ⟨[], some .int⟩ := by decide +kernel
theorem own_ef13 (m : MethodId) (a1 : Addr) : entryFrame m #[.ref a1] 1 = mkF m 0 #[.val (.ref a1)] [] := by first | (simp [entryFrame, mkF, argsToLocals, Value.category]; done) | rfl
theorem own_d13_0 : decode jdk_67_method_93_code 0 = .ok (.aload_n 0, 1) := by decide +kernel
theorem own_d13_1 : decode jdk_67_method_93_code 1 = .ok (.invokespecial 343, 3) := by decide +kernel
theorem own_d13_4 : decode jdk_67_method_93_code 4 = .ok (.ireturn, 1) := by decide +kernel
def own_f13 (ct : Int32) : Int32 := own_f14 ct
set_option maxRecDepth 65536 in
set_option maxHeartbeats 40000000 in
theorem rm13 (l : Launch) (Z : State) (a0 : Array Value) (hw : ∀ d ∈ tables_1, d.before a0 Z = true) (ws : List Jvm.Cond) (a1 : Addr) (ct : Int32) (h0 : Heap) (E0p : Exa Z h0 a1 "java/lang/StringBuilder") (F1p : Fld Z h0 a1 "java/lang/AbstractStringBuilder" "count" "I" (.int ct)) :
    own_M l (⟨"java/lang/StringBuilder", "length", "()I"⟩ : MethodName) jdk_67_method_93_code 1 (some .int) ws ({ frames := 1, cells := 0, slots := 0, locals := 12 } : Room) #[.ref a1] Z h0 (own_P (.int (own_f13 ct)) h0) := by
  refine own_prol (C := "java/lang/StringBuilder") rfl own_pn43 (fun m => own_ef13 m ..) ?_
  intro p e s m below meth c s₁ hx hby hml hown hnm hlk hret X0 e0 hZ
  refine own_aloadN X0 hx (hb hby own_d13_0) (q := 1) rfl rfl rfl ?_
  refine own_callUP X0 hx hZ hown (own_h hw 78 rfl) (own_same (own_h hw 74 rfl) (own_nf (own_h hw 70 rfl) rfl) (by decide)) (own_h hw 74 rfl) (own_h hw 79 rfl) (own_h hw 47 rfl) (own_h hw 80 rfl) E0p (by decide) (by decide) (rm14 l Z a0 hw [] a1 ct h0 F1p) own_pd22 rfl e0 (by rw [hml]; rfl) (argsL := []) (st := []) rfl (W := 0) (Nat.le_of_eq rfl) (by decide) (by decide) (by decide) (by decide) (hb hby own_d13_1) (q := 4) rfl (fun T2614 X2615 e2616 => ?_)
  refine own_retI X2615 hx hlk hret (hb hby own_d13_4) ?_ (by decide) (by decide)
  have r : own_f13 ct = own_f14 ct := by rw [own_f13]
  exact ⟨by rw [r] <;> rfl, e2616, rfl⟩
theorem own_pn59 : plainName "java/util/Arrays" = true := by first | (simp [plainName, overriddenIn]; done) | decide +kernel
theorem own_ef16_k0 (m : MethodId) (a1 : Addr) (p3 : Int32) : entryFrame m #[.ref a1, .int (0 : Int32), .int p3] 3 = mkF m 0 #[.val (.ref a1), .val (.int (0 : Int32)), .val (.int p3)] [] := by first | (simp [entryFrame, mkF, argsToLocals, Value.category]; done) | rfl
theorem own_d16_0 : decode jdk_65_method_132_code 0 = .ok (.iload_n 1, 1) := by decide +kernel
theorem own_d16_1 : decode jdk_65_method_132_code 1 = .ok (.ifCond .ne 9, 3) := by decide +kernel
theorem own_d16_4 : decode jdk_65_method_132_code 4 = .ok (.iload_n 2, 1) := by decide +kernel
theorem own_d16_5 : decode jdk_65_method_132_code 5 = .ok (.aload_n 0, 1) := by decide +kernel
theorem own_d16_6 : decode jdk_65_method_132_code 6 = .ok (.arraylength, 1) := by decide +kernel
theorem own_d16_7 : decode jdk_65_method_132_code 7 = .ok (.if_icmp .eq 10, 3) := by decide +kernel
theorem own_d16_17 : decode jdk_65_method_132_code 17 = .ok (.aload_n 0, 1) := by decide +kernel
theorem own_d16_18 : decode jdk_65_method_132_code 18 = .ok (.invokevirtual 310, 3) := by decide +kernel
theorem own_d16_21 : decode jdk_65_method_132_code 21 = .ok (.checkcast 311, 3) := by decide +kernel
theorem own_d16_24 : decode jdk_65_method_132_code 24 = .ok (.areturn, 1) := by decide +kernel
def own_Q16 (Z : State) (a1 : Addr) (p3 : Int32) (vs : List Value) (h0 : Heap) (n0 : Nat) (v : Option Value) (h : Heap) (L : List Loc) : Prop := ∃ ra0 : Addr, v = some (.ref ra0) ∧ Fr n0 L ∧ Keep h0 h [] ∧ h0.size ≤ ra0 ∧ Exa Z h ra0 "[B" ∧ own_A Z h ra0 .byte vs
set_option maxRecDepth 65536 in
set_option maxHeartbeats 40000000 in
theorem rm16 (l : Launch) (Z : State) (a0 : Array Value) (hw : ∀ d ∈ tables_1, d.before a0 Z = true) (ws : List Jvm.Cond) (a1 : Addr) (p3 : Int32) (vs : List Value) (h0 : Heap) (n0 : Nat) (Z0 : n0 ≤ h0.size) (E0p : Exa Z h0 a1 "[B") (V1p : own_A Z h0 a1 .byte vs) (hl_vs : vs.length.toInt32 = p3) (hcap : vs.length ≤ 6) (hfit : ∀ v ∈ vs, fits .byte v = true) :
    own_M l (⟨"java/util/Arrays", "copyOfRange", "([BII)[B"⟩ : MethodName) jdk_65_method_132_code 3 (some (.array .byte)) ws ({ frames := 1, cells := 1, slots := 6, locals := 14 } : Room) #[.ref a1, .int (0 : Int32), .int p3] Z h0 (own_Q16 Z a1 p3 vs h0 n0) := by
  refine own_prol (C := "java/util/Arrays") rfl own_pn59 (fun m => own_ef16_k0 m ..) ?_
  intro p e s m below meth c s₁ hx hby hml hown hnm hlk hret X0 e0 hZ
  have N0 := Fr.nil n0
  have K0 := Keep.refl h0 []
  refine own_iloadN X0 hx (hb hby own_d16_0) (q := 1) rfl rfl ?_
  refine own_if0M X0 hx (hb hby own_d16_1) (cd := .ne) (x := (0 : Int32)) (pt := 10) (q := 4) (by decide) (by decide) rfl rfl (fun h => False.elim (h ((by decide) : (0 : Int32) = (0 : Int32)))) (fun _ => ?_)
  refine own_iloadN X0 hx (hb hby own_d16_4) (q := 5) rfl rfl ?_
  refine own_aloadN X0 hx (hb hby own_d16_5) (q := 6) rfl rfl rfl ?_
  refine own_alen X0 hx hZ (n := p3) e0 V1p hl_vs (hb hby own_d16_6) (q := 7) rfl ?_
  refine own_icmpP X0 hx (hb hby own_d16_7) (cd := .eq) (x := p3) (y := p3) (pt := 17) (q := 10) (by decide) (by decide) rfl rfl (fun _ => ?_) (fun h => False.elim (h (rfl : p3 = p3)))
  refine own_aloadN X0 hx (hb hby own_d16_17) (q := 18) rfl rfl rfl ?_
  refine own_clone X0 hx hZ hown (own_h hw 92 rfl) (own_h hw 93 rfl) (own_h hw 97 rfl) (own_h hw 95 rfl) (own_h hw 96 rfl) (own_h hw 98 rfl) e0 V1p E0p hfit (by rw [hml]; rfl) (W := 0) (cap := 6) (Nat.le_of_eq rfl) (by decide) (by decide) hcap (by decide) (by decide) (hb hby own_d16_18) (q := 21) rfl (fun T2617 h2620 a2621 X2618 e2619 g2622 E2623 A2624 E2625 => ?_)
  have O2626 : h0.size ≤ a2621 := by rw [g2622]; exact K0.1
  have E2627 := Exa.ext E2623 E0p
  have V2628 := V1p.ext E2623
  have K2629 := K0.ext E2623
  have ne2630 : a1 ≠ a2621 := by rw [g2622]; exact Nat.ne_of_lt V1p.lt
  have Z2631 : n0 ≤ a2621 := by rw [g2622]; exact Z0
  have Z2632 : n0 ≤ h2620.size := Nat.le_trans Z0 E2623.1
  refine own_cast X2618 hx hZ hown (own_h hw 99 rfl) e2619 (Ins.self E2625) (hb hby own_d16_21) (q := 24) rfl (fun T2633 X2634 e2635 => ?_)
  refine own_retA X2634 hx hlk rfl rfl rfl hret (hb hby own_d16_24) ?_ (by decide) (by decide)
  show own_Q16 Z a1 p3 vs h0 n0 _ T2633.heap _
  rw [e2635]
  exact ⟨a2621, rfl, N0, K2629, O2626, E2625, A2624⟩
theorem own_pd23 : parseMethodDescriptor "()[B" = some ⟨[], some (.array .byte)⟩ := by decide +kernel
theorem own_pd24 : parseMethodDescriptor "([BII)[B" = some ⟨[(.array .byte), .int, .int], some (.array .byte)⟩ := by decide +kernel
theorem own_ef11_null (m : MethodId) (a1 : Addr) (a2 : Addr) : entryFrame m #[.ref a1, .ref a2, .null] 5 = mkF m 0 #[.val (.ref a1), .val (.ref a2), .val .null, .unset, .unset] [] := by first | (simp [entryFrame, mkF, argsToLocals, Value.category]; done) | rfl
theorem own_d11_0 : decode jdk_42_method_150_code 0 = .ok (.aload_n 0, 1) := by decide +kernel
theorem own_d11_1 : decode jdk_42_method_150_code 1 = .ok (.invokespecial 1, 3) := by decide +kernel
theorem own_d11_4 : decode jdk_42_method_150_code 4 = .ok (.aload_n 1, 1) := by decide +kernel
theorem own_d11_5 : decode jdk_42_method_150_code 5 = .ok (.invokevirtual 552, 3) := by decide +kernel
theorem own_d11_8 : decode jdk_42_method_150_code 8 = .ok (.astore_n 3, 1) := by decide +kernel
theorem own_d11_9 : decode jdk_42_method_150_code 9 = .ok (.aload_n 1, 1) := by decide +kernel
theorem own_d11_10 : decode jdk_42_method_150_code 10 = .ok (.invokevirtual 549, 3) := by decide +kernel
theorem own_d11_13 : decode jdk_42_method_150_code 13 = .ok (.istore 4, 2) := by decide +kernel
theorem own_d11_15 : decode jdk_42_method_150_code 15 = .ok (.aload_n 1, 1) := by decide +kernel
theorem own_d11_16 : decode jdk_42_method_150_code 16 = .ok (.invokevirtual 1047, 3) := by decide +kernel
theorem own_d11_19 : decode jdk_42_method_150_code 19 = .ok (.ifCond .eq 22, 3) := by decide +kernel
theorem own_d11_22 : decode jdk_42_method_150_code 22 = .ok (.aload_n 0, 1) := by decide +kernel
theorem own_d11_23 : decode jdk_42_method_150_code 23 = .ok (.iconst 0, 1) := by decide +kernel
theorem own_d11_24 : decode jdk_42_method_150_code 24 = .ok (.putfield 15, 3) := by decide +kernel
theorem own_d11_27 : decode jdk_42_method_150_code 27 = .ok (.aload_n 0, 1) := by decide +kernel
theorem own_d11_28 : decode jdk_42_method_150_code 28 = .ok (.aload_n 3, 1) := by decide +kernel
theorem own_d11_29 : decode jdk_42_method_150_code 29 = .ok (.iconst 0, 1) := by decide +kernel
theorem own_d11_30 : decode jdk_42_method_150_code 30 = .ok (.iload 4, 2) := by decide +kernel
theorem own_d11_32 : decode jdk_42_method_150_code 32 = .ok (.invokestatic 54, 3) := by decide +kernel
theorem own_d11_35 : decode jdk_42_method_150_code 35 = .ok (.putfield 9, 3) := by decide +kernel
theorem own_d11_38 : decode jdk_42_method_150_code 38 = .ok (.goto 59, 3) := by decide +kernel
theorem own_d11_97 : decode jdk_42_method_150_code 97 = .ok (.return_, 1) := by decide +kernel
def own_Q11_0 (Z : State) (a1 : Addr) (a2 : Addr) (cs : Int32) (G : Value) (b2 : Addr) (ct : Int32) (vs : List Value) (h0 : Heap) (n0 : Nat) (v : Option Value) (h : Heap) (L : List Loc) : Prop := ∃ ra0 : Addr, v = none ∧ Fr n0 L ∧ Keep h0 h [a1] ∧ h0.size ≤ ra0 ∧ Exa Z h ra0 "[B" ∧ own_A Z h ra0 .byte vs ∧ Exa Z h a1 "java/lang/String" ∧ Fld Z h a1 "java/lang/String" "value" "[B" (.ref ra0) ∧ Fld Z h a1 "java/lang/String" "coder" "B" (.int (0 : Int32)) ∧ Exa Z h a2 "java/lang/StringBuilder" ∧ Fld Z h a2 "java/lang/AbstractStringBuilder" "value" "[B" (.ref b2) ∧ Fld Z h a2 "java/lang/AbstractStringBuilder" "coder" "B" (.int (0 : Int32)) ∧ Fld Z h a2 "java/lang/AbstractStringBuilder" "count" "I" (.int ct) ∧ Fld Z h a2 "java/lang/AbstractStringBuilder" "maybeLatin1" "Z" (.int (0 : Int32)) ∧ Exa Z h b2 "[B" ∧ own_A Z h b2 .byte vs
set_option maxRecDepth 65536 in
set_option maxHeartbeats 40000000 in
theorem rm11_0 (l : Launch) (Z : State) (a0 : Array Value) (hw : ∀ d ∈ tables_1, d.before a0 Z = true) (ws : List Jvm.Cond) (a1 : Addr) (a2 : Addr) (cs : Int32) (G : Value) (b2 : Addr) (ct : Int32) (vs : List Value) (h0 : Heap) (n0 : Nat) (Z0 : n0 ≤ h0.size) (G0p : own_G Z h0 cs G) (E1p : Exa Z h0 a1 "java/lang/String") (F2p : Fld Z h0 a1 "java/lang/String" "value" "[B" (.null)) (F3p : Fld Z h0 a1 "java/lang/String" "coder" "B" (.int (0 : Int32))) (E4p : Exa Z h0 a2 "java/lang/StringBuilder") (F5p : Fld Z h0 a2 "java/lang/AbstractStringBuilder" "value" "[B" (.ref b2)) (F6p : Fld Z h0 a2 "java/lang/AbstractStringBuilder" "coder" "B" (.int (0 : Int32))) (F7p : Fld Z h0 a2 "java/lang/AbstractStringBuilder" "count" "I" (.int ct)) (F8p : Fld Z h0 a2 "java/lang/AbstractStringBuilder" "maybeLatin1" "Z" (.int (0 : Int32))) (E9p : Exa Z h0 b2 "[B") (V10p : own_A Z h0 b2 .byte vs) (G_a1 : n0 ≤ a1) (ne_a2_a1 : a2 ≠ a1) (ne_b2_a1 : b2 ≠ a1) (hl_vs : vs.length.toInt32 = ct) (hcap : vs.length ≤ 6) (hfit : ∀ v ∈ vs, fits .byte v = true) :
    own_M l (⟨"java/lang/String", "<init>", "(Ljava/lang/AbstractStringBuilder;Ljava/lang/Void;)V"⟩ : MethodName) jdk_42_method_150_code 5 none ws ({ frames := 2, cells := 1, slots := 6, locals := 29 } : Room) #[.ref a1, .ref a2, .null] Z h0 (own_Q11_0 Z a1 a2 cs G b2 ct vs h0 n0) := by
  refine own_prol (C := "java/lang/String") rfl own_pn5 (fun m => own_ef11_null m ..) ?_
  intro p e s m below meth c s₁ hx hby hml hown hnm hlk hret X0 e0 hZ
  have N0 := Fr.nil n0
  have K0 := Keep.refl h0 [a1]
  refine own_aloadN X0 hx (hb hby own_d11_0) (q := 1) rfl rfl rfl ?_
  refine own_initO X0 hx hZ hown (own_h hw 11 rfl) (own_h hw 12 rfl) (own_h hw 13 rfl) e0 (by rw [hml]; rfl) (by decide) (W := 0) (Nat.le_of_eq rfl) (by decide) (hb hby own_d11_1) (q := 4) rfl (fun T2636 X2637 e2638 => ?_)
  refine own_aloadN X2637 hx (hb hby own_d11_4) (q := 5) rfl rfl rfl ?_
  refine own_callV2P X2637 hx hZ hown (own_h hw 67 rfl) (own_h hw 68 rfl) (own_h hw 70 rfl) rfl (own_h hw 70 rfl) (own_h hw 69 rfl) (own_h hw 47 rfl) (own_h hw 71 rfl) E4p (by decide) (rm12 l Z a0 hw [] a2 b2 h0 F5p) own_pd23 rfl e2638 (by rw [hml]; rfl) (argsL := []) (st := []) rfl (W := 0) (Nat.le_of_eq rfl) (by decide) (by decide) (by decide) (by decide) (hb hby own_d11_5) (q := 8) rfl (fun T2639 X2640 e2641 => ?_)
  show own_Go _ _ _ _ (T2639.setTop (mkF m 8 #[.val (.ref a1), .val (.ref a2), .val .null, .unset, .unset] [.ref b2]))
  refine own_astoreN (L' := #[.val (.ref a1), .val (.ref a2), .val .null, .val (.ref b2), .unset]) X2640 hx (hb hby own_d11_8) (q := 9) rfl rfl rfl ?_
  refine own_aloadN X2640 hx (hb hby own_d11_9) (q := 10) rfl rfl rfl ?_
  refine own_callV2P X2640 hx hZ hown (own_h hw 72 rfl) (own_h hw 73 rfl) (own_h hw 70 rfl) rfl (own_h hw 75 rfl) (own_h hw 76 rfl) (own_h hw 28 rfl) (own_h hw 77 rfl) E4p (by decide) (rm13 l Z a0 hw [] a2 ct h0 E4p F7p) own_pd22 rfl e2641 (by rw [hml]; rfl) (argsL := []) (st := []) rfl (W := 0) (Nat.le_of_eq rfl) (by decide) (by decide) (by decide) (by decide) (hb hby own_d11_10) (q := 13) rfl (fun T2642 X2643 e2644 => ?_)
  refine own_istore (L' := #[.val (.ref a1), .val (.ref a2), .val .null, .val (.ref b2), .val (.int (own_f13 ct))]) X2643 hx (hb hby own_d11_13) (q := 15) rfl rfl ?_
  refine own_aloadN X2643 hx (hb hby own_d11_15) (q := 16) rfl rfl rfl ?_
  refine own_callV2P X2643 hx hZ hown (own_h hw 83 rfl) (own_h hw 84 rfl) (own_h hw 70 rfl) rfl (own_h hw 86 rfl) (own_h hw 85 rfl) (own_h hw 47 rfl) (own_h hw 87 rfl) E4p (by decide) (rm15_0 l Z a0 hw [] a2 cs G h0 G0p F6p) own_pd15 rfl e2644 (by rw [hml]; rfl) (argsL := []) (st := []) rfl (W := 0) (Nat.le_of_eq rfl) (by decide) (by decide) (by decide) (by decide) (hb hby own_d11_16) (q := 19) rfl (fun T2645 X2646 e2647 => ?_)
  rw [show (own_f15_0 cs : Int32) = (1 : Int32) from rfl]
  refine own_if0P X2646 hx (hb hby own_d11_19) (cd := .eq) (x := (1 : Int32)) (pt := 41) (q := 22) (by decide) (by decide) rfl rfl (fun h => False.elim (((by decide) : ¬ ((1 : Int32) = (0 : Int32))) h)) (fun _ => ?_)
  refine own_aloadN X2646 hx (hb hby own_d11_22) (q := 23) rfl rfl rfl ?_
  refine own_iconst X2646 hx (v := (0 : Int32)) (hb hby own_d11_23) (q := 24) rfl rfl ?_
  refine own_putF X2646 hx hZ hown (host := "") (Or.inl (own_h hw 21 rfl)) Via.refl e2647 F3p E1p (Or.inr ⟨(own_h hw 17 rfl), rfl, hnm⟩) (own_h hw 2 rfl) (ty := .byte) (by decide) rfl rfl (hb hby own_d11_24) (q := 27) rfl (fun T2648 h2651 X2649 e2650 W2652 => ?_)
  have G2653 := G0p.wr W2652
  have E2654 := Exa.wr W2652 E1p
  have F2655 := Fld.other W2652 F2p (Or.inr (slot_ne (C := "java/lang/String") (Or.inr (own_h hw 16 rfl)) (Or.inr (own_h hw 17 rfl)) (by decide) (t := (.array .byte)) (t' := .byte) (by decide) (by decide)))
  have F2656 := Fld.same W2652 F3p
  have E2657 := Exa.wr W2652 E4p
  have F2658 := Fld.other W2652 F5p (Or.inl ne_a2_a1)
  have F2659 := Fld.other W2652 F6p (Or.inl ne_a2_a1)
  have F2660 := Fld.other W2652 F7p (Or.inl ne_a2_a1)
  have F2661 := Fld.other W2652 F8p (Or.inl ne_a2_a1)
  have E2662 := Exa.wr W2652 E9p
  have V2663 := V10p.other W2652 ne_b2_a1
  have K2664 := K0.wr W2652 (Or.inl (List.mem_of_getElem? (i := 0) rfl))
  have Z2665 : n0 ≤ h2651.size := W2652.size ▸ Z0
  have N2666 := Fr.snoc X2649 N0 G_a1
  refine own_aloadN X2649 hx (hb hby own_d11_27) (q := 28) rfl rfl rfl ?_
  refine own_aloadN X2649 hx (hb hby own_d11_28) (q := 29) rfl rfl rfl ?_
  refine own_iconst X2649 hx (v := (0 : Int32)) (hb hby own_d11_29) (q := 30) rfl rfl ?_
  refine own_iload X2649 hx (hb hby own_d11_30) (q := 32) rfl rfl ?_
  refine own_callS X2649 hx hZ hown (own_h hw 88 rfl) (own_h hw 89 rfl) (own_h hw 90 rfl) (own_h hw 91 rfl) (by decide) (rm16 l Z a0 hw [] b2 ct vs h2651 n0 Z2665 E2662 V2663 hl_vs hcap hfit) own_pd24 rfl e2650 (by rw [hml]; rfl) (argsL := [.ref b2, .int (0 : Int32), .int (own_f13 ct)]) (st := [.ref a1]) rfl (W := 1) (Nat.le_of_eq rfl) (by decide) (by decide) (by decide) (by decide) (hb hby own_d11_32) (q := 35) rfl (fun v2673 T2674 L2675 X2676 hQ2677 => ?_)
  obtain ⟨a2681, rfl, N2678, K2679, O2682, E2683, A2684⟩ := hQ2677
  have G2685 := G2653.keep K2679 all0
  have E2686 := E2654.keep K2679
  have F2687 := F2655.keep K2679 nin0
  have F2688 := F2656.keep K2679 nin0
  have E2689 := E2657.keep K2679
  have F2690 := F2658.keep K2679 nin0
  have F2691 := F2659.keep K2679 nin0
  have F2692 := F2660.keep K2679 nin0
  have F2693 := F2661.keep K2679 nin0
  have E2694 := E2662.keep K2679
  have V2695 := V2663.keep K2679 nin0
  have Z2696 : n0 ≤ T2674.heap.size := Nat.le_trans Z2665 K2679.1
  have K2697 := K2664.trans K2679 all0
  have N2680 := Fr.app N2666 N2678
  have ne2698 : a1 ≠ a2681 := Nat.ne_of_lt (Nat.lt_of_lt_of_le E2654.lt O2682)
  have ne2699 : a2 ≠ a2681 := Nat.ne_of_lt (Nat.lt_of_lt_of_le E2657.lt O2682)
  have ne2700 : b2 ≠ a2681 := Nat.ne_of_lt (Nat.lt_of_lt_of_le V2663.lt O2682)
  have Z2701 : n0 ≤ a2681 := Nat.le_trans Z2665 O2682
  have O2702 : h0.size ≤ a2681 := Nat.le_trans K2664.1 O2682
  show own_Go _ _ _ _ (T2674.setTop (mkF m 35 #[.val (.ref a1), .val (.ref a2), .val .null, .val (.ref b2), .val (.int (own_f13 ct))] [.ref a2681, .ref a1]))
  refine own_putF X2676 hx hZ hown (host := "") (Or.inl (own_h hw 20 rfl)) Via.refl rfl F2687 E2686 (Or.inr ⟨(own_h hw 16 rfl), rfl, hnm⟩) (own_h hw 2 rfl) (ty := (.array .byte)) (by decide) rfl rfl (hb hby own_d11_35) (q := 38) rfl (fun T2703 h2706 X2704 e2705 W2707 => ?_)
  have G2708 := G2685.wr W2707
  have E2709 := Exa.wr W2707 E2686
  have F2710 := Fld.same W2707 F2687
  have F2711 := Fld.other W2707 F2688 (Or.inr (slot_ne (C := "java/lang/String") (Or.inr (own_h hw 17 rfl)) (Or.inr (own_h hw 16 rfl)) (by decide) (t := .byte) (t' := (.array .byte)) (by decide) (by decide)))
  have E2712 := Exa.wr W2707 E2689
  have F2713 := Fld.other W2707 F2690 (Or.inl ne_a2_a1)
  have F2714 := Fld.other W2707 F2691 (Or.inl ne_a2_a1)
  have F2715 := Fld.other W2707 F2692 (Or.inl ne_a2_a1)
  have F2716 := Fld.other W2707 F2693 (Or.inl ne_a2_a1)
  have E2717 := Exa.wr W2707 E2694
  have V2718 := V2695.other W2707 ne_b2_a1
  have E2719 := Exa.wr W2707 E2683
  have A2720 := A2684.other W2707 (Ne.symm ne2698)
  have K2721 := K2697.wr W2707 (Or.inl (List.mem_of_getElem? (i := 0) rfl))
  have Z2722 : n0 ≤ h2706.size := W2707.size ▸ Z2696
  have N2723 := Fr.snoc X2704 N2680 G_a1
  refine own_goto X2704 hx (hb hby own_d11_38) (q := 97) (by decide) (by decide) ?_
  refine own_retV X2704 hx hlk (rest := []) hret (hb hby own_d11_97) ?_ (by decide) (by decide)
  show own_Q11_0 Z a1 a2 cs G b2 ct vs h0 n0 _ T2703.heap _
  rw [e2705]
  exact ⟨a2681, rfl, N2723, K2721, O2702, E2719, A2720, E2709, F2710, F2711, E2712, F2713, F2714, F2715, F2716, E2717, V2718⟩
theorem own_pd25 : parseMethodDescriptor "(Ljava/lang/AbstractStringBuilder;Ljava/lang/Void;)V" = some ⟨[(.object "java/lang/AbstractStringBuilder"), (.object "java/lang/Void")], none⟩ := by decide +kernel
theorem own_ef10 (m : MethodId) (a1 : Addr) (a2 : Addr) : entryFrame m #[.ref a1, .ref a2] 2 = mkF m 0 #[.val (.ref a1), .val (.ref a2)] [] := by first | (simp [entryFrame, mkF, argsToLocals, Value.category]; done) | rfl
theorem own_d10_0 : decode jdk_42_method_53_code 0 = .ok (.aload_n 0, 1) := by decide +kernel
theorem own_d10_1 : decode jdk_42_method_53_code 1 = .ok (.aload_n 1, 1) := by decide +kernel
theorem own_d10_2 : decode jdk_42_method_53_code 2 = .ok (.aconst_null, 1) := by decide +kernel
theorem own_d10_3 : decode jdk_42_method_53_code 3 = .ok (.invokespecial 489, 3) := by decide +kernel
theorem own_d10_6 : decode jdk_42_method_53_code 6 = .ok (.return_, 1) := by decide +kernel
def own_Q10_0 (Z : State) (a1 : Addr) (a2 : Addr) (cs : Int32) (G : Value) (b2 : Addr) (ct : Int32) (vs : List Value) (h0 : Heap) (n0 : Nat) (v : Option Value) (h : Heap) (L : List Loc) : Prop := ∃ ra0 : Addr, v = none ∧ Fr n0 L ∧ Keep h0 h [a1] ∧ h0.size ≤ ra0 ∧ Exa Z h ra0 "[B" ∧ own_A Z h ra0 .byte vs ∧ Exa Z h a1 "java/lang/String" ∧ Fld Z h a1 "java/lang/String" "value" "[B" (.ref ra0) ∧ Fld Z h a1 "java/lang/String" "coder" "B" (.int (0 : Int32)) ∧ Exa Z h a2 "java/lang/StringBuilder" ∧ Fld Z h a2 "java/lang/AbstractStringBuilder" "value" "[B" (.ref b2) ∧ Fld Z h a2 "java/lang/AbstractStringBuilder" "coder" "B" (.int (0 : Int32)) ∧ Fld Z h a2 "java/lang/AbstractStringBuilder" "count" "I" (.int ct) ∧ Fld Z h a2 "java/lang/AbstractStringBuilder" "maybeLatin1" "Z" (.int (0 : Int32)) ∧ Exa Z h b2 "[B" ∧ own_A Z h b2 .byte vs
set_option maxRecDepth 65536 in
set_option maxHeartbeats 40000000 in
theorem rm10_0 (l : Launch) (Z : State) (a0 : Array Value) (hw : ∀ d ∈ tables_1, d.before a0 Z = true) (ws : List Jvm.Cond) (a1 : Addr) (a2 : Addr) (cs : Int32) (G : Value) (b2 : Addr) (ct : Int32) (vs : List Value) (h0 : Heap) (n0 : Nat) (Z0 : n0 ≤ h0.size) (G0p : own_G Z h0 cs G) (E1p : Exa Z h0 a1 "java/lang/String") (F2p : Fld Z h0 a1 "java/lang/String" "value" "[B" (.null)) (F3p : Fld Z h0 a1 "java/lang/String" "coder" "B" (.int (0 : Int32))) (E4p : Exa Z h0 a2 "java/lang/StringBuilder") (F5p : Fld Z h0 a2 "java/lang/AbstractStringBuilder" "value" "[B" (.ref b2)) (F6p : Fld Z h0 a2 "java/lang/AbstractStringBuilder" "coder" "B" (.int (0 : Int32))) (F7p : Fld Z h0 a2 "java/lang/AbstractStringBuilder" "count" "I" (.int ct)) (F8p : Fld Z h0 a2 "java/lang/AbstractStringBuilder" "maybeLatin1" "Z" (.int (0 : Int32))) (E9p : Exa Z h0 b2 "[B") (V10p : own_A Z h0 b2 .byte vs) (G_a1 : n0 ≤ a1) (ne_a2_a1 : a2 ≠ a1) (ne_b2_a1 : b2 ≠ a1) (hl_vs : vs.length.toInt32 = ct) (hcap : vs.length ≤ 6) (hfit : ∀ v ∈ vs, fits .byte v = true) :
    own_M l (⟨"java/lang/String", "<init>", "(Ljava/lang/StringBuilder;)V"⟩ : MethodName) jdk_42_method_53_code 2 none ws ({ frames := 3, cells := 1, slots := 6, locals := 45 } : Room) #[.ref a1, .ref a2] Z h0 (own_Q10_0 Z a1 a2 cs G b2 ct vs h0 n0) := by
  refine own_prol (C := "java/lang/String") rfl own_pn5 (fun m => own_ef10 m ..) ?_
  intro p e s m below meth c s₁ hx hby hml hown hnm hlk hret X0 e0 hZ
  have N0 := Fr.nil n0
  have K0 := Keep.refl h0 [a1]
  refine own_aloadN X0 hx (hb hby own_d10_0) (q := 1) rfl rfl rfl ?_
  refine own_aloadN X0 hx (hb hby own_d10_1) (q := 2) rfl rfl rfl ?_
  refine own_aconstNull X0 hx (hb hby own_d10_2) (q := 3) rfl ?_
  refine own_callC X0 hx hZ hown rfl (own_h hw 64 rfl) (own_h hw 65 rfl) (own_h hw 3 rfl) (own_h hw 66 rfl) (by decide) (rm11_0 l Z a0 hw [] a1 a2 cs G b2 ct vs h0 n0 Z0 G0p E1p F2p F3p E4p F5p F6p F7p F8p E9p V10p G_a1 ne_a2_a1 ne_b2_a1 hl_vs hcap hfit) own_pd25 rfl e0 (by rw [hml]; rfl) (argsL := [.ref a2, .null]) (st := []) rfl (W := 0) (Nat.le_of_eq rfl) (by decide) (by decide) (by decide) (by decide) (hb hby own_d10_3) (q := 6) rfl (fun v2727 T2728 L2729 X2730 hQ2731 => ?_)
  obtain ⟨a2735, rfl, N2732, K2733, O2736, E2737, A2738, E2739, F2740, F2741, E2742, F2743, F2744, F2745, F2746, E2747, A2748⟩ := hQ2731
  have G2749 := G0p.keep K2733 (allS (own_exaPlain E1p) all0)
  have Z2750 : n0 ≤ T2728.heap.size := Nat.le_trans Z0 K2733.1
  have K2751 := K0.trans K2733 (allS (Or.inl (List.mem_of_getElem? (i := 0) rfl)) all0)
  have N2734 := Fr.app N0 N2732
  have ne2752 : a1 ≠ a2735 := Nat.ne_of_lt (Nat.lt_of_lt_of_le E1p.lt O2736)
  have ne2753 : a2 ≠ a2735 := Nat.ne_of_lt (Nat.lt_of_lt_of_le E4p.lt O2736)
  have ne2754 : b2 ≠ a2735 := Nat.ne_of_lt (Nat.lt_of_lt_of_le V10p.lt O2736)
  have Z2755 : n0 ≤ a2735 := Nat.le_trans Z0 O2736
  have O2756 : h0.size ≤ a2735 := Nat.le_trans K0.1 O2736
  show own_Go _ _ _ _ (T2728.setTop (mkF m 6 #[.val (.ref a1), .val (.ref a2)] []))
  refine own_retV X2730 hx hlk (rest := []) hret (hb hby own_d10_6) ?_ (by decide) (by decide)
  show own_Q10_0 Z a1 a2 cs G b2 ct vs h0 n0 _ T2728.heap _
  exact ⟨a2735, rfl, N2734, K2751, O2756, E2737, A2738, E2739, F2740, F2741, E2742, F2743, F2744, F2745, F2746, E2747, A2748⟩
theorem own_pd26 : parseMethodDescriptor "(Ljava/lang/StringBuilder;)V" = some ⟨[(.object "java/lang/StringBuilder")], none⟩ := by decide +kernel
theorem own_ef9 (m : MethodId) (a1 : Addr) : entryFrame m #[.ref a1] 1 = mkF m 0 #[.val (.ref a1)] [] := by first | (simp [entryFrame, mkF, argsToLocals, Value.category]; done) | rfl
theorem own_d9_0 : decode jdk_67_method_42_code 0 = .ok (.new 18, 3) := by decide +kernel
theorem own_d9_3 : decode jdk_67_method_42_code 3 = .ok (.dup, 1) := by decide +kernel
theorem own_d9_4 : decode jdk_67_method_42_code 4 = .ok (.aload_n 0, 1) := by decide +kernel
theorem own_d9_5 : decode jdk_67_method_42_code 5 = .ok (.invokespecial 137, 3) := by decide +kernel
theorem own_d9_8 : decode jdk_67_method_42_code 8 = .ok (.areturn, 1) := by decide +kernel
def own_Q9_0 (Z : State) (a1 : Addr) (cs : Int32) (G : Value) (b2 : Addr) (ct : Int32) (vs : List Value) (h0 : Heap) (n0 : Nat) (v : Option Value) (h : Heap) (L : List Loc) : Prop := ∃ ra0 ra1 : Addr, v = some (.ref ra0) ∧ Fr n0 L ∧ Keep h0 h [] ∧ h0.size ≤ ra0 ∧ h0.size ≤ ra1 ∧ Exa Z h ra0 "java/lang/String" ∧ Fld Z h ra0 "java/lang/String" "value" "[B" (.ref ra1) ∧ Fld Z h ra0 "java/lang/String" "coder" "B" (.int (0 : Int32)) ∧ own_A Z h ra1 .byte vs
set_option maxRecDepth 65536 in
set_option maxHeartbeats 40000000 in
theorem rm9_0 (l : Launch) (Z : State) (a0 : Array Value) (hw : ∀ d ∈ tables_1, d.before a0 Z = true) (ws : List Jvm.Cond) (a1 : Addr) (cs : Int32) (G : Value) (b2 : Addr) (ct : Int32) (vs : List Value) (h0 : Heap) (n0 : Nat) (Z0 : n0 ≤ h0.size) (G0p : own_G Z h0 cs G) (E1p : Exa Z h0 a1 "java/lang/StringBuilder") (F2p : Fld Z h0 a1 "java/lang/AbstractStringBuilder" "value" "[B" (.ref b2)) (F3p : Fld Z h0 a1 "java/lang/AbstractStringBuilder" "coder" "B" (.int (0 : Int32))) (F4p : Fld Z h0 a1 "java/lang/AbstractStringBuilder" "count" "I" (.int ct)) (F5p : Fld Z h0 a1 "java/lang/AbstractStringBuilder" "maybeLatin1" "Z" (.int (0 : Int32))) (E6p : Exa Z h0 b2 "[B") (V7p : own_A Z h0 b2 .byte vs) (hl_vs : vs.length.toInt32 = ct) (hcap : vs.length ≤ 6) (hfit : ∀ v ∈ vs, fits .byte v = true) :
    own_M l (⟨"java/lang/StringBuilder", "toString", "()Ljava/lang/String;"⟩ : MethodName) jdk_67_method_42_code 1 (some (.object "java/lang/String")) ws ({ frames := 4, cells := 2, slots := 10, locals := 59 } : Room) #[.ref a1] Z h0 (own_Q9_0 Z a1 cs G b2 ct vs h0 n0) := by
  refine own_prol (C := "java/lang/StringBuilder") rfl own_pn43 (fun m => own_ef9 m ..) ?_
  intro p e s m below meth c s₁ hx hby hml hown hnm hlk hret X0 e0 hZ
  have N0 := Fr.nil n0
  have K0 := Keep.refl h0 []
  refine own_new X0 hx hZ hown (own_h hw 60 rfl) (own_h hw 2 rfl) (own_h hw 3 rfl) e0 (hb hby own_d9_0) (by decide) (by decide) (q := 3) rfl (fun T2757 h2760 a2761 X2758 e2759 g2762 E2763 A2764 D2765 => ?_)
  have O2766 : h0.size ≤ a2761 := by rw [g2762]; exact K0.1
  have L2767 := G0p.ext E2763
  have E2768 := Exa.ext E2763 E1p
  have F2769 := Fld.ext E2763 F2p
  have F2770 := Fld.ext E2763 F3p
  have F2771 := Fld.ext E2763 F4p
  have F2772 := Fld.ext E2763 F5p
  have E2773 := Exa.ext E2763 E6p
  have V2774 := V7p.ext E2763
  have K2775 := K0.ext E2763
  have ne2776 : a1 ≠ a2761 := by rw [g2762]; exact Nat.ne_of_lt E1p.lt
  have ne2777 : b2 ≠ a2761 := by rw [g2762]; exact Nat.ne_of_lt V7p.lt
  have Z2778 : n0 ≤ a2761 := by rw [g2762]; exact Z0
  have Z2779 : n0 ≤ h2760.size := Nat.le_trans Z0 E2763.1
  have F2780 : Fld Z h2760 a2761 "java/lang/String" "value" "[B" (.null) := D2765 (Or.inr (own_h hw 16 rfl)) (ty := (.array .byte)) (by decide)
  have F2781 : Fld Z h2760 a2761 "java/lang/String" "coder" "B" (.int (0 : Int32)) := D2765 (Or.inr (own_h hw 17 rfl)) (ty := .byte) (by decide)
  refine own_dup X2758 hx (hb hby own_d9_3) (q := 4) rfl rfl ?_
  refine own_aloadN X2758 hx (hb hby own_d9_4) (q := 5) rfl rfl rfl ?_
  refine own_callC X2758 hx hZ hown rfl (own_h hw 61 rfl) (own_h hw 62 rfl) (own_h hw 3 rfl) (own_h hw 63 rfl) (by decide) (rm10_0 l Z a0 hw [] a2761 a1 cs G b2 ct vs h2760 n0 Z2779 L2767 A2764 F2780 F2781 E2768 F2769 F2770 F2771 F2772 E2773 V2774 Z2778 ne2776 ne2777 hl_vs hcap hfit) own_pd26 rfl e2759 (by rw [hml]; rfl) (argsL := [.ref a1]) (st := [.ref a2761]) rfl (W := 1) (Nat.le_of_eq rfl) (by decide) (by decide) (by decide) (by decide) (hb hby own_d9_5) (q := 8) rfl (fun v2785 T2786 L2787 X2788 hQ2789 => ?_)
  obtain ⟨a2793, rfl, N2790, K2791, O2794, E2795, A2796, E2797, F2798, F2799, E2800, F2801, F2802, F2803, F2804, E2805, A2806⟩ := hQ2789
  have L2807 := L2767.keep K2791 (allS (own_exaPlain A2764) all0)
  have Z2808 : n0 ≤ T2786.heap.size := Nat.le_trans Z2779 K2791.1
  have K2809 := K2775.trans K2791 (allS (Or.inr O2766) all0)
  have N2792 := Fr.app N0 N2790
  have ne2810 : a1 ≠ a2793 := Nat.ne_of_lt (Nat.lt_of_lt_of_le E2768.lt O2794)
  have ne2811 : b2 ≠ a2793 := Nat.ne_of_lt (Nat.lt_of_lt_of_le V2774.lt O2794)
  have ne2812 : a2761 ≠ a2793 := Nat.ne_of_lt (Nat.lt_of_lt_of_le A2764.lt O2794)
  have Z2813 : n0 ≤ a2793 := Nat.le_trans Z2779 O2794
  have O2814 : h0.size ≤ a2793 := Nat.le_trans K2775.1 O2794
  show own_Go _ _ _ _ (T2786.setTop (mkF m 8 #[.val (.ref a1)] [.ref a2761]))
  refine own_retA X2788 hx hlk rfl rfl rfl hret (hb hby own_d9_8) ?_ (by decide) (by decide)
  show own_Q9_0 Z a1 cs G b2 ct vs h0 n0 _ T2786.heap _
  exact ⟨a2761, a2793, rfl, N2792, K2809, O2766, O2814, E2797, F2798, F2799, A2796⟩
theorem own_d11_41 : decode jdk_42_method_150_code 41 = .ok (.getstatic 38, 3) := by decide +kernel
theorem own_d11_44 : decode jdk_42_method_150_code 44 = .ok (.ifCond .eq 35, 3) := by decide +kernel
theorem own_d11_47 : decode jdk_42_method_150_code 47 = .ok (.aload_n 1, 1) := by decide +kernel
theorem own_d11_48 : decode jdk_42_method_150_code 48 = .ok (.getfield 1048, 3) := by decide +kernel
theorem own_d11_51 : decode jdk_42_method_150_code 51 = .ok (.ifCond .eq 28, 3) := by decide +kernel
theorem own_d11_79 : decode jdk_42_method_150_code 79 = .ok (.aload_n 0, 1) := by decide +kernel
theorem own_d11_80 : decode jdk_42_method_150_code 80 = .ok (.iconst 1, 1) := by decide +kernel
theorem own_d11_81 : decode jdk_42_method_150_code 81 = .ok (.putfield 15, 3) := by decide +kernel
theorem own_d11_84 : decode jdk_42_method_150_code 84 = .ok (.aload_n 0, 1) := by decide +kernel
theorem own_d11_85 : decode jdk_42_method_150_code 85 = .ok (.aload_n 3, 1) := by decide +kernel
theorem own_d11_86 : decode jdk_42_method_150_code 86 = .ok (.iconst 0, 1) := by decide +kernel
theorem own_d11_87 : decode jdk_42_method_150_code 87 = .ok (.iload 4, 2) := by decide +kernel
theorem own_d11_89 : decode jdk_42_method_150_code 89 = .ok (.iconst 1, 1) := by decide +kernel
theorem own_d11_90 : decode jdk_42_method_150_code 90 = .ok (.ishl, 1) := by decide +kernel
theorem own_d11_91 : decode jdk_42_method_150_code 91 = .ok (.invokestatic 54, 3) := by decide +kernel
theorem own_d11_94 : decode jdk_42_method_150_code 94 = .ok (.putfield 9, 3) := by decide +kernel
def own_Q11_1 (Z : State) (a1 : Addr) (a2 : Addr) (cs : Int32) (G : Value) (b2 : Addr) (ct : Int32) (vs : List Value) (h0 : Heap) (n0 : Nat) (v : Option Value) (h : Heap) (L : List Loc) : Prop := ∃ ra0 : Addr, v = none ∧ Fr n0 L ∧ Keep h0 h [a1] ∧ h0.size ≤ ra0 ∧ Exa Z h ra0 "[B" ∧ own_A Z h ra0 .byte vs ∧ Exa Z h a1 "java/lang/String" ∧ Fld Z h a1 "java/lang/String" "value" "[B" (.ref ra0) ∧ Fld Z h a1 "java/lang/String" "coder" "B" (.int (1 : Int32)) ∧ Exa Z h a2 "java/lang/StringBuilder" ∧ Fld Z h a2 "java/lang/AbstractStringBuilder" "value" "[B" (.ref b2) ∧ Fld Z h a2 "java/lang/AbstractStringBuilder" "coder" "B" (.int (1 : Int32)) ∧ Fld Z h a2 "java/lang/AbstractStringBuilder" "count" "I" (.int ct) ∧ Fld Z h a2 "java/lang/AbstractStringBuilder" "maybeLatin1" "Z" (.int (0 : Int32)) ∧ Exa Z h b2 "[B" ∧ own_A Z h b2 .byte vs
set_option maxRecDepth 65536 in
set_option maxHeartbeats 40000000 in
theorem rm11_1 (l : Launch) (Z : State) (a0 : Array Value) (hw : ∀ d ∈ tables_1, d.before a0 Z = true) (ws : List Jvm.Cond) (a1 : Addr) (a2 : Addr) (cs : Int32) (G : Value) (b2 : Addr) (ct : Int32) (vs : List Value) (h0 : Heap) (n0 : Nat) (Z0 : n0 ≤ h0.size) (G0p : own_G Z h0 cs G) (E1p : Exa Z h0 a1 "java/lang/String") (F2p : Fld Z h0 a1 "java/lang/String" "value" "[B" (.null)) (F3p : Fld Z h0 a1 "java/lang/String" "coder" "B" (.int (0 : Int32))) (E4p : Exa Z h0 a2 "java/lang/StringBuilder") (F5p : Fld Z h0 a2 "java/lang/AbstractStringBuilder" "value" "[B" (.ref b2)) (F6p : Fld Z h0 a2 "java/lang/AbstractStringBuilder" "coder" "B" (.int (1 : Int32))) (F7p : Fld Z h0 a2 "java/lang/AbstractStringBuilder" "count" "I" (.int ct)) (F8p : Fld Z h0 a2 "java/lang/AbstractStringBuilder" "maybeLatin1" "Z" (.int (0 : Int32))) (E9p : Exa Z h0 b2 "[B") (V10p : own_A Z h0 b2 .byte vs) (G_a1 : n0 ≤ a1) (ne_a2_a1 : a2 ≠ a1) (ne_b2_a1 : b2 ≠ a1) (hl_vs : vs.length.toInt32 = ct <<< ((1 : Int32) &&& 31)) (hcap : vs.length ≤ 6) (hfit : ∀ v ∈ vs, fits .byte v = true) :
    own_M l (⟨"java/lang/String", "<init>", "(Ljava/lang/AbstractStringBuilder;Ljava/lang/Void;)V"⟩ : MethodName) jdk_42_method_150_code 5 none ws ({ frames := 2, cells := 1, slots := 6, locals := 29 } : Room) #[.ref a1, .ref a2, .null] Z h0 (own_Q11_1 Z a1 a2 cs G b2 ct vs h0 n0) := by
  refine own_prol (C := "java/lang/String") rfl own_pn5 (fun m => own_ef11_null m ..) ?_
  intro p e s m below meth c s₁ hx hby hml hown hnm hlk hret X0 e0 hZ
  have N0 := Fr.nil n0
  have K0 := Keep.refl h0 [a1]
  refine own_aloadN X0 hx (hb hby own_d11_0) (q := 1) rfl rfl rfl ?_
  refine own_initO X0 hx hZ hown (own_h hw 11 rfl) (own_h hw 12 rfl) (own_h hw 13 rfl) e0 (by rw [hml]; rfl) (by decide) (W := 0) (Nat.le_of_eq rfl) (by decide) (hb hby own_d11_1) (q := 4) rfl (fun T2815 X2816 e2817 => ?_)
  refine own_aloadN X2816 hx (hb hby own_d11_4) (q := 5) rfl rfl rfl ?_
  refine own_callV2P X2816 hx hZ hown (own_h hw 67 rfl) (own_h hw 68 rfl) (own_h hw 70 rfl) rfl (own_h hw 70 rfl) (own_h hw 69 rfl) (own_h hw 47 rfl) (own_h hw 71 rfl) E4p (by decide) (rm12 l Z a0 hw [] a2 b2 h0 F5p) own_pd23 rfl e2817 (by rw [hml]; rfl) (argsL := []) (st := []) rfl (W := 0) (Nat.le_of_eq rfl) (by decide) (by decide) (by decide) (by decide) (hb hby own_d11_5) (q := 8) rfl (fun T2818 X2819 e2820 => ?_)
  show own_Go _ _ _ _ (T2818.setTop (mkF m 8 #[.val (.ref a1), .val (.ref a2), .val .null, .unset, .unset] [.ref b2]))
  refine own_astoreN (L' := #[.val (.ref a1), .val (.ref a2), .val .null, .val (.ref b2), .unset]) X2819 hx (hb hby own_d11_8) (q := 9) rfl rfl rfl ?_
  refine own_aloadN X2819 hx (hb hby own_d11_9) (q := 10) rfl rfl rfl ?_
  refine own_callV2P X2819 hx hZ hown (own_h hw 72 rfl) (own_h hw 73 rfl) (own_h hw 70 rfl) rfl (own_h hw 75 rfl) (own_h hw 76 rfl) (own_h hw 28 rfl) (own_h hw 77 rfl) E4p (by decide) (rm13 l Z a0 hw [] a2 ct h0 E4p F7p) own_pd22 rfl e2820 (by rw [hml]; rfl) (argsL := []) (st := []) rfl (W := 0) (Nat.le_of_eq rfl) (by decide) (by decide) (by decide) (by decide) (hb hby own_d11_10) (q := 13) rfl (fun T2821 X2822 e2823 => ?_)
  refine own_istore (L' := #[.val (.ref a1), .val (.ref a2), .val .null, .val (.ref b2), .val (.int (own_f13 ct))]) X2822 hx (hb hby own_d11_13) (q := 15) rfl rfl ?_
  refine own_aloadN X2822 hx (hb hby own_d11_15) (q := 16) rfl rfl rfl ?_
  refine own_callV2P X2822 hx hZ hown (own_h hw 83 rfl) (own_h hw 84 rfl) (own_h hw 70 rfl) rfl (own_h hw 86 rfl) (own_h hw 85 rfl) (own_h hw 47 rfl) (own_h hw 87 rfl) E4p (by decide) (rm15_1 l Z a0 hw [] a2 cs G h0 G0p F6p) own_pd15 rfl e2823 (by rw [hml]; rfl) (argsL := []) (st := []) rfl (W := 0) (Nat.le_of_eq rfl) (by decide) (by decide) (by decide) (by decide) (hb hby own_d11_16) (q := 19) rfl (fun T2824 X2825 e2826 => ?_)
  rw [show (own_f15_1 cs : Int32) = (0 : Int32) from rfl]
  refine own_if0P X2825 hx (hb hby own_d11_19) (cd := .eq) (x := (0 : Int32)) (pt := 41) (q := 22) (by decide) (by decide) rfl rfl (fun _ => ?_) (fun h => False.elim (h ((by decide) : (0 : Int32) = (0 : Int32))))
  refine own_getS X2825 hx hZ hown (own_h hw 39 rfl) Via.refl e2826 G0p.2.2.1 (hb hby own_d11_41) (q := 44) rfl (fun T2827 X2828 e2829 => ?_)
  refine own_if0P X2828 hx (hb hby own_d11_44) (cd := .eq) (x := cs) (pt := 79) (q := 47) (by decide) (by decide) rfl rfl (fun h => False.elim ((G0p.1 : ¬ (cs = (0 : Int32))) h)) (fun _ => ?_)
  refine own_aloadN X2828 hx (hb hby own_d11_47) (q := 48) rfl rfl rfl ?_
  refine own_getF X2828 hx hZ hown (host := "") (Or.inl (own_h hw 213 rfl)) Via.refl e2829 F8p (hb hby own_d11_48) (q := 51) rfl (fun T2830 X2831 e2832 => ?_)
  refine own_if0P X2831 hx (hb hby own_d11_51) (cd := .eq) (x := (0 : Int32)) (pt := 79) (q := 54) (by decide) (by decide) rfl rfl (fun _ => ?_) (fun h => False.elim (h ((by decide) : (0 : Int32) = (0 : Int32))))
  refine own_aloadN X2831 hx (hb hby own_d11_79) (q := 80) rfl rfl rfl ?_
  refine own_iconst X2831 hx (v := (1 : Int32)) (hb hby own_d11_80) (q := 81) rfl rfl ?_
  refine own_putF X2831 hx hZ hown (host := "") (Or.inl (own_h hw 21 rfl)) Via.refl e2832 F3p E1p (Or.inr ⟨(own_h hw 17 rfl), rfl, hnm⟩) (own_h hw 2 rfl) (ty := .byte) (by decide) rfl rfl (hb hby own_d11_81) (q := 84) rfl (fun T2833 h2836 X2834 e2835 W2837 => ?_)
  have G2838 := G0p.wr W2837
  have E2839 := Exa.wr W2837 E1p
  have F2840 := Fld.other W2837 F2p (Or.inr (slot_ne (C := "java/lang/String") (Or.inr (own_h hw 16 rfl)) (Or.inr (own_h hw 17 rfl)) (by decide) (t := (.array .byte)) (t' := .byte) (by decide) (by decide)))
  have F2841 := Fld.same W2837 F3p
  have E2842 := Exa.wr W2837 E4p
  have F2843 := Fld.other W2837 F5p (Or.inl ne_a2_a1)
  have F2844 := Fld.other W2837 F6p (Or.inl ne_a2_a1)
  have F2845 := Fld.other W2837 F7p (Or.inl ne_a2_a1)
  have F2846 := Fld.other W2837 F8p (Or.inl ne_a2_a1)
  have E2847 := Exa.wr W2837 E9p
  have V2848 := V10p.other W2837 ne_b2_a1
  have K2849 := K0.wr W2837 (Or.inl (List.mem_of_getElem? (i := 0) rfl))
  have Z2850 : n0 ≤ h2836.size := W2837.size ▸ Z0
  have N2851 := Fr.snoc X2834 N0 G_a1
  refine own_aloadN X2834 hx (hb hby own_d11_84) (q := 85) rfl rfl rfl ?_
  refine own_aloadN X2834 hx (hb hby own_d11_85) (q := 86) rfl rfl rfl ?_
  refine own_iconst X2834 hx (v := (0 : Int32)) (hb hby own_d11_86) (q := 87) rfl rfl ?_
  refine own_iload X2834 hx (hb hby own_d11_87) (q := 89) rfl rfl ?_
  refine own_iconst X2834 hx (v := (1 : Int32)) (hb hby own_d11_89) (q := 90) rfl rfl ?_
  refine own_ishl X2834 hx (hb hby own_d11_90) (q := 91) rfl ?_
  refine own_callS X2834 hx hZ hown (own_h hw 88 rfl) (own_h hw 89 rfl) (own_h hw 90 rfl) (own_h hw 91 rfl) (by decide) (rm16 l Z a0 hw [] b2 (ct <<< ((1 : Int32) &&& 31)) vs h2836 n0 Z2850 E2847 V2848 hl_vs hcap hfit) own_pd24 rfl e2835 (by rw [hml]; rfl) (argsL := [.ref b2, .int (0 : Int32), .int ((own_f13 ct) <<< ((1 : Int32) &&& 31))]) (st := [.ref a1]) rfl (W := 1) (Nat.le_of_eq rfl) (by decide) (by decide) (by decide) (by decide) (hb hby own_d11_91) (q := 94) rfl (fun v2858 T2859 L2860 X2861 hQ2862 => ?_)
  obtain ⟨a2866, rfl, N2863, K2864, O2867, E2868, A2869⟩ := hQ2862
  have G2870 := G2838.keep K2864 all0
  have E2871 := E2839.keep K2864
  have F2872 := F2840.keep K2864 nin0
  have F2873 := F2841.keep K2864 nin0
  have E2874 := E2842.keep K2864
  have F2875 := F2843.keep K2864 nin0
  have F2876 := F2844.keep K2864 nin0
  have F2877 := F2845.keep K2864 nin0
  have F2878 := F2846.keep K2864 nin0
  have E2879 := E2847.keep K2864
  have V2880 := V2848.keep K2864 nin0
  have Z2881 : n0 ≤ T2859.heap.size := Nat.le_trans Z2850 K2864.1
  have K2882 := K2849.trans K2864 all0
  have N2865 := Fr.app N2851 N2863
  have ne2883 : a1 ≠ a2866 := Nat.ne_of_lt (Nat.lt_of_lt_of_le E2839.lt O2867)
  have ne2884 : a2 ≠ a2866 := Nat.ne_of_lt (Nat.lt_of_lt_of_le E2842.lt O2867)
  have ne2885 : b2 ≠ a2866 := Nat.ne_of_lt (Nat.lt_of_lt_of_le V2848.lt O2867)
  have Z2886 : n0 ≤ a2866 := Nat.le_trans Z2850 O2867
  have O2887 : h0.size ≤ a2866 := Nat.le_trans K2849.1 O2867
  show own_Go _ _ _ _ (T2859.setTop (mkF m 94 #[.val (.ref a1), .val (.ref a2), .val .null, .val (.ref b2), .val (.int (own_f13 ct))] [.ref a2866, .ref a1]))
  refine own_putF X2861 hx hZ hown (host := "") (Or.inl (own_h hw 20 rfl)) Via.refl rfl F2872 E2871 (Or.inr ⟨(own_h hw 16 rfl), rfl, hnm⟩) (own_h hw 2 rfl) (ty := (.array .byte)) (by decide) rfl rfl (hb hby own_d11_94) (q := 97) rfl (fun T2888 h2891 X2889 e2890 W2892 => ?_)
  have G2893 := G2870.wr W2892
  have E2894 := Exa.wr W2892 E2871
  have F2895 := Fld.same W2892 F2872
  have F2896 := Fld.other W2892 F2873 (Or.inr (slot_ne (C := "java/lang/String") (Or.inr (own_h hw 17 rfl)) (Or.inr (own_h hw 16 rfl)) (by decide) (t := .byte) (t' := (.array .byte)) (by decide) (by decide)))
  have E2897 := Exa.wr W2892 E2874
  have F2898 := Fld.other W2892 F2875 (Or.inl ne_a2_a1)
  have F2899 := Fld.other W2892 F2876 (Or.inl ne_a2_a1)
  have F2900 := Fld.other W2892 F2877 (Or.inl ne_a2_a1)
  have F2901 := Fld.other W2892 F2878 (Or.inl ne_a2_a1)
  have E2902 := Exa.wr W2892 E2879
  have V2903 := V2880.other W2892 ne_b2_a1
  have E2904 := Exa.wr W2892 E2868
  have A2905 := A2869.other W2892 (Ne.symm ne2883)
  have K2906 := K2882.wr W2892 (Or.inl (List.mem_of_getElem? (i := 0) rfl))
  have Z2907 : n0 ≤ h2891.size := W2892.size ▸ Z2881
  have N2908 := Fr.snoc X2889 N2865 G_a1
  refine own_retV X2889 hx hlk (rest := []) hret (hb hby own_d11_97) ?_ (by decide) (by decide)
  show own_Q11_1 Z a1 a2 cs G b2 ct vs h0 n0 _ T2888.heap _
  rw [e2890]
  exact ⟨a2866, rfl, N2908, K2906, O2887, E2904, A2905, E2894, F2895, F2896, E2897, F2898, F2899, F2900, F2901, E2902, V2903⟩

def own_Q10_1 (Z : State) (a1 : Addr) (a2 : Addr) (cs : Int32) (G : Value) (b2 : Addr) (ct : Int32) (vs : List Value) (h0 : Heap) (n0 : Nat) (v : Option Value) (h : Heap) (L : List Loc) : Prop := ∃ ra0 : Addr, v = none ∧ Fr n0 L ∧ Keep h0 h [a1] ∧ h0.size ≤ ra0 ∧ Exa Z h ra0 "[B" ∧ own_A Z h ra0 .byte vs ∧ Exa Z h a1 "java/lang/String" ∧ Fld Z h a1 "java/lang/String" "value" "[B" (.ref ra0) ∧ Fld Z h a1 "java/lang/String" "coder" "B" (.int (1 : Int32)) ∧ Exa Z h a2 "java/lang/StringBuilder" ∧ Fld Z h a2 "java/lang/AbstractStringBuilder" "value" "[B" (.ref b2) ∧ Fld Z h a2 "java/lang/AbstractStringBuilder" "coder" "B" (.int (1 : Int32)) ∧ Fld Z h a2 "java/lang/AbstractStringBuilder" "count" "I" (.int ct) ∧ Fld Z h a2 "java/lang/AbstractStringBuilder" "maybeLatin1" "Z" (.int (0 : Int32)) ∧ Exa Z h b2 "[B" ∧ own_A Z h b2 .byte vs
set_option maxRecDepth 65536 in
set_option maxHeartbeats 40000000 in
theorem rm10_1 (l : Launch) (Z : State) (a0 : Array Value) (hw : ∀ d ∈ tables_1, d.before a0 Z = true) (ws : List Jvm.Cond) (a1 : Addr) (a2 : Addr) (cs : Int32) (G : Value) (b2 : Addr) (ct : Int32) (vs : List Value) (h0 : Heap) (n0 : Nat) (Z0 : n0 ≤ h0.size) (G0p : own_G Z h0 cs G) (E1p : Exa Z h0 a1 "java/lang/String") (F2p : Fld Z h0 a1 "java/lang/String" "value" "[B" (.null)) (F3p : Fld Z h0 a1 "java/lang/String" "coder" "B" (.int (0 : Int32))) (E4p : Exa Z h0 a2 "java/lang/StringBuilder") (F5p : Fld Z h0 a2 "java/lang/AbstractStringBuilder" "value" "[B" (.ref b2)) (F6p : Fld Z h0 a2 "java/lang/AbstractStringBuilder" "coder" "B" (.int (1 : Int32))) (F7p : Fld Z h0 a2 "java/lang/AbstractStringBuilder" "count" "I" (.int ct)) (F8p : Fld Z h0 a2 "java/lang/AbstractStringBuilder" "maybeLatin1" "Z" (.int (0 : Int32))) (E9p : Exa Z h0 b2 "[B") (V10p : own_A Z h0 b2 .byte vs) (G_a1 : n0 ≤ a1) (ne_a2_a1 : a2 ≠ a1) (ne_b2_a1 : b2 ≠ a1) (hl_vs : vs.length.toInt32 = ct <<< ((1 : Int32) &&& 31)) (hcap : vs.length ≤ 6) (hfit : ∀ v ∈ vs, fits .byte v = true) :
    own_M l (⟨"java/lang/String", "<init>", "(Ljava/lang/StringBuilder;)V"⟩ : MethodName) jdk_42_method_53_code 2 none ws ({ frames := 3, cells := 1, slots := 6, locals := 45 } : Room) #[.ref a1, .ref a2] Z h0 (own_Q10_1 Z a1 a2 cs G b2 ct vs h0 n0) := by
  refine own_prol (C := "java/lang/String") rfl own_pn5 (fun m => own_ef10 m ..) ?_
  intro p e s m below meth c s₁ hx hby hml hown hnm hlk hret X0 e0 hZ
  have N0 := Fr.nil n0
  have K0 := Keep.refl h0 [a1]
  refine own_aloadN X0 hx (hb hby own_d10_0) (q := 1) rfl rfl rfl ?_
  refine own_aloadN X0 hx (hb hby own_d10_1) (q := 2) rfl rfl rfl ?_
  refine own_aconstNull X0 hx (hb hby own_d10_2) (q := 3) rfl ?_
  refine own_callC X0 hx hZ hown rfl (own_h hw 64 rfl) (own_h hw 65 rfl) (own_h hw 3 rfl) (own_h hw 66 rfl) (by decide) (rm11_1 l Z a0 hw [] a1 a2 cs G b2 ct vs h0 n0 Z0 G0p E1p F2p F3p E4p F5p F6p F7p F8p E9p V10p G_a1 ne_a2_a1 ne_b2_a1 hl_vs hcap hfit) own_pd25 rfl e0 (by rw [hml]; rfl) (argsL := [.ref a2, .null]) (st := []) rfl (W := 0) (Nat.le_of_eq rfl) (by decide) (by decide) (by decide) (by decide) (hb hby own_d10_3) (q := 6) rfl (fun v2912 T2913 L2914 X2915 hQ2916 => ?_)
  obtain ⟨a2920, rfl, N2917, K2918, O2921, E2922, A2923, E2924, F2925, F2926, E2927, F2928, F2929, F2930, F2931, E2932, A2933⟩ := hQ2916
  have G2934 := G0p.keep K2918 (allS (own_exaPlain E1p) all0)
  have Z2935 : n0 ≤ T2913.heap.size := Nat.le_trans Z0 K2918.1
  have K2936 := K0.trans K2918 (allS (Or.inl (List.mem_of_getElem? (i := 0) rfl)) all0)
  have N2919 := Fr.app N0 N2917
  have ne2937 : a1 ≠ a2920 := Nat.ne_of_lt (Nat.lt_of_lt_of_le E1p.lt O2921)
  have ne2938 : a2 ≠ a2920 := Nat.ne_of_lt (Nat.lt_of_lt_of_le E4p.lt O2921)
  have ne2939 : b2 ≠ a2920 := Nat.ne_of_lt (Nat.lt_of_lt_of_le V10p.lt O2921)
  have Z2940 : n0 ≤ a2920 := Nat.le_trans Z0 O2921
  have O2941 : h0.size ≤ a2920 := Nat.le_trans K0.1 O2921
  show own_Go _ _ _ _ (T2913.setTop (mkF m 6 #[.val (.ref a1), .val (.ref a2)] []))
  refine own_retV X2915 hx hlk (rest := []) hret (hb hby own_d10_6) ?_ (by decide) (by decide)
  show own_Q10_1 Z a1 a2 cs G b2 ct vs h0 n0 _ T2913.heap _
  exact ⟨a2920, rfl, N2919, K2936, O2941, E2922, A2923, E2924, F2925, F2926, E2927, F2928, F2929, F2930, F2931, E2932, A2933⟩

def own_Q9_1 (Z : State) (a1 : Addr) (cs : Int32) (G : Value) (b2 : Addr) (ct : Int32) (vs : List Value) (h0 : Heap) (n0 : Nat) (v : Option Value) (h : Heap) (L : List Loc) : Prop := ∃ ra0 ra1 : Addr, v = some (.ref ra0) ∧ Fr n0 L ∧ Keep h0 h [] ∧ h0.size ≤ ra0 ∧ h0.size ≤ ra1 ∧ Exa Z h ra0 "java/lang/String" ∧ Fld Z h ra0 "java/lang/String" "value" "[B" (.ref ra1) ∧ Fld Z h ra0 "java/lang/String" "coder" "B" (.int (1 : Int32)) ∧ own_A Z h ra1 .byte vs
set_option maxRecDepth 65536 in
set_option maxHeartbeats 40000000 in
theorem rm9_1 (l : Launch) (Z : State) (a0 : Array Value) (hw : ∀ d ∈ tables_1, d.before a0 Z = true) (ws : List Jvm.Cond) (a1 : Addr) (cs : Int32) (G : Value) (b2 : Addr) (ct : Int32) (vs : List Value) (h0 : Heap) (n0 : Nat) (Z0 : n0 ≤ h0.size) (G0p : own_G Z h0 cs G) (E1p : Exa Z h0 a1 "java/lang/StringBuilder") (F2p : Fld Z h0 a1 "java/lang/AbstractStringBuilder" "value" "[B" (.ref b2)) (F3p : Fld Z h0 a1 "java/lang/AbstractStringBuilder" "coder" "B" (.int (1 : Int32))) (F4p : Fld Z h0 a1 "java/lang/AbstractStringBuilder" "count" "I" (.int ct)) (F5p : Fld Z h0 a1 "java/lang/AbstractStringBuilder" "maybeLatin1" "Z" (.int (0 : Int32))) (E6p : Exa Z h0 b2 "[B") (V7p : own_A Z h0 b2 .byte vs) (hl_vs : vs.length.toInt32 = ct <<< ((1 : Int32) &&& 31)) (hcap : vs.length ≤ 6) (hfit : ∀ v ∈ vs, fits .byte v = true) :
    own_M l (⟨"java/lang/StringBuilder", "toString", "()Ljava/lang/String;"⟩ : MethodName) jdk_67_method_42_code 1 (some (.object "java/lang/String")) ws ({ frames := 4, cells := 2, slots := 10, locals := 59 } : Room) #[.ref a1] Z h0 (own_Q9_1 Z a1 cs G b2 ct vs h0 n0) := by
  refine own_prol (C := "java/lang/StringBuilder") rfl own_pn43 (fun m => own_ef9 m ..) ?_
  intro p e s m below meth c s₁ hx hby hml hown hnm hlk hret X0 e0 hZ
  have N0 := Fr.nil n0
  have K0 := Keep.refl h0 []
  refine own_new X0 hx hZ hown (own_h hw 60 rfl) (own_h hw 2 rfl) (own_h hw 3 rfl) e0 (hb hby own_d9_0) (by decide) (by decide) (q := 3) rfl (fun T2942 h2945 a2946 X2943 e2944 g2947 E2948 A2949 D2950 => ?_)
  have O2951 : h0.size ≤ a2946 := by rw [g2947]; exact K0.1
  have L2952 := G0p.ext E2948
  have E2953 := Exa.ext E2948 E1p
  have F2954 := Fld.ext E2948 F2p
  have F2955 := Fld.ext E2948 F3p
  have F2956 := Fld.ext E2948 F4p
  have F2957 := Fld.ext E2948 F5p
  have E2958 := Exa.ext E2948 E6p
  have V2959 := V7p.ext E2948
  have K2960 := K0.ext E2948
  have ne2961 : a1 ≠ a2946 := by rw [g2947]; exact Nat.ne_of_lt E1p.lt
  have ne2962 : b2 ≠ a2946 := by rw [g2947]; exact Nat.ne_of_lt V7p.lt
  have Z2963 : n0 ≤ a2946 := by rw [g2947]; exact Z0
  have Z2964 : n0 ≤ h2945.size := Nat.le_trans Z0 E2948.1
  have F2965 : Fld Z h2945 a2946 "java/lang/String" "value" "[B" (.null) := D2950 (Or.inr (own_h hw 16 rfl)) (ty := (.array .byte)) (by decide)
  have F2966 : Fld Z h2945 a2946 "java/lang/String" "coder" "B" (.int (0 : Int32)) := D2950 (Or.inr (own_h hw 17 rfl)) (ty := .byte) (by decide)
  refine own_dup X2943 hx (hb hby own_d9_3) (q := 4) rfl rfl ?_
  refine own_aloadN X2943 hx (hb hby own_d9_4) (q := 5) rfl rfl rfl ?_
  refine own_callC X2943 hx hZ hown rfl (own_h hw 61 rfl) (own_h hw 62 rfl) (own_h hw 3 rfl) (own_h hw 63 rfl) (by decide) (rm10_1 l Z a0 hw [] a2946 a1 cs G b2 ct vs h2945 n0 Z2964 L2952 A2949 F2965 F2966 E2953 F2954 F2955 F2956 F2957 E2958 V2959 Z2963 ne2961 ne2962 hl_vs hcap hfit) own_pd26 rfl e2944 (by rw [hml]; rfl) (argsL := [.ref a1]) (st := [.ref a2946]) rfl (W := 1) (Nat.le_of_eq rfl) (by decide) (by decide) (by decide) (by decide) (hb hby own_d9_5) (q := 8) rfl (fun v2970 T2971 L2972 X2973 hQ2974 => ?_)
  obtain ⟨a2978, rfl, N2975, K2976, O2979, E2980, A2981, E2982, F2983, F2984, E2985, F2986, F2987, F2988, F2989, E2990, A2991⟩ := hQ2974
  have L2992 := L2952.keep K2976 (allS (own_exaPlain A2949) all0)
  have Z2993 : n0 ≤ T2971.heap.size := Nat.le_trans Z2964 K2976.1
  have K2994 := K2960.trans K2976 (allS (Or.inr O2951) all0)
  have N2977 := Fr.app N0 N2975
  have ne2995 : a1 ≠ a2978 := Nat.ne_of_lt (Nat.lt_of_lt_of_le E2953.lt O2979)
  have ne2996 : b2 ≠ a2978 := Nat.ne_of_lt (Nat.lt_of_lt_of_le V2959.lt O2979)
  have ne2997 : a2946 ≠ a2978 := Nat.ne_of_lt (Nat.lt_of_lt_of_le A2949.lt O2979)
  have Z2998 : n0 ≤ a2978 := Nat.le_trans Z2964 O2979
  have O2999 : h0.size ≤ a2978 := Nat.le_trans K2960.1 O2979
  show own_Go _ _ _ _ (T2971.setTop (mkF m 8 #[.val (.ref a1)] [.ref a2946]))
  refine own_retA X2973 hx hlk rfl rfl rfl hret (hb hby own_d9_8) ?_ (by decide) (by decide)
  show own_Q9_1 Z a1 cs G b2 ct vs h0 n0 _ T2971.heap _
  exact ⟨a2946, a2978, rfl, N2977, K2994, O2951, O2999, E2982, F2983, F2984, A2981⟩
theorem own_pn64 : plainName "com/example/usher_frames/usherframes/text/Ascii" = true := by first | (simp [plainName, overriddenIn]; done) | decide +kernel
theorem own_ef25 (m : MethodId) (p1 : Int32) : entryFrame m #[.int p1] 1 = mkF m 0 #[.val (.int p1)] [] := by first | (simp [entryFrame, mkF, argsToLocals, Value.category]; done) | rfl
theorem own_d25_0 : decode prog_29_method_3_code 0 = .ok (.iload_n 0, 1) := by decide +kernel
theorem own_d25_1 : decode prog_29_method_3_code 1 = .ok (.bipush 65, 2) := by decide +kernel
theorem own_d25_3 : decode prog_29_method_3_code 3 = .ok (.if_icmp .lt 16, 3) := by decide +kernel
theorem own_d25_6 : decode prog_29_method_3_code 6 = .ok (.iload_n 0, 1) := by decide +kernel
theorem own_d25_7 : decode prog_29_method_3_code 7 = .ok (.bipush 90, 2) := by decide +kernel
theorem own_d25_9 : decode prog_29_method_3_code 9 = .ok (.if_icmp .gt 10, 3) := by decide +kernel
theorem own_d25_12 : decode prog_29_method_3_code 12 = .ok (.iload_n 0, 1) := by decide +kernel
theorem own_d25_13 : decode prog_29_method_3_code 13 = .ok (.bipush 32, 2) := by decide +kernel
theorem own_d25_15 : decode prog_29_method_3_code 15 = .ok (.iadd, 1) := by decide +kernel
theorem own_d25_16 : decode prog_29_method_3_code 16 = .ok (.goto 4, 3) := by decide +kernel
theorem own_d25_19 : decode prog_29_method_3_code 19 = .ok (.iload_n 0, 1) := by decide +kernel
theorem own_d25_20 : decode prog_29_method_3_code 20 = .ok (.ireturn, 1) := by decide +kernel
def own_f25 (p1 : Int32) : Int32 := (if p1 < (65 : Int32) then p1 else (if (90 : Int32) < p1 then p1 else p1 + (32 : Int32)))
set_option maxRecDepth 65536 in
set_option maxHeartbeats 40000000 in
theorem rm25 (l : Launch) (Z : State) (a0 : Array Value) (hw : ∀ d ∈ tables_1, d.before a0 Z = true) (ws : List Jvm.Cond) (p1 : Int32) (h0 : Heap) :
    own_M l (⟨"com/example/usher_frames/usherframes/text/Ascii", "toLowerCase", "(I)I"⟩ : MethodName) prog_29_method_3_code 1 (some .int) ws ({ frames := 0, cells := 0, slots := 0, locals := 0 } : Room) #[.int p1] Z h0 (own_P (.int (own_f25 p1)) h0) := by
  refine own_prol (C := "com/example/usher_frames/usherframes/text/Ascii") rfl own_pn64 (fun m => own_ef25 m ..) ?_
  intro p e s m below meth c s₁ hx hby hml hown hnm hlk hret X0 e0 hZ
  refine own_iloadN X0 hx (hb hby own_d25_0) (q := 1) rfl rfl ?_
  refine own_bipush X0 hx (v := (65 : Int32)) (hb hby own_d25_1) (q := 3) rfl rfl ?_
  refine own_icmpP X0 hx (hb hby own_d25_3) (cd := .lt) (x := p1) (y := (65 : Int32)) (pt := 19) (q := 6) (by decide) (by decide) rfl rfl (fun (c1 : p1 < (65 : Int32)) => ?_) (fun (c1 : ¬ (p1 < (65 : Int32))) => ?_)
  · refine own_iloadN X0 hx (hb hby own_d25_19) (q := 20) rfl rfl ?_
    refine own_retI X0 hx hlk hret (hb hby own_d25_20) ?_ (by decide) (by decide)
    have r : own_f25 p1 = p1 := by rw [own_f25, if_pos c1]
    exact ⟨by rw [r] <;> rfl, e0, rfl⟩
  · refine own_iloadN X0 hx (hb hby own_d25_6) (q := 7) rfl rfl ?_
    refine own_bipush X0 hx (v := (90 : Int32)) (hb hby own_d25_7) (q := 9) rfl rfl ?_
    refine own_icmpP X0 hx (hb hby own_d25_9) (cd := .gt) (x := p1) (y := (90 : Int32)) (pt := 19) (q := 12) (by decide) (by decide) rfl rfl (fun (c2 : (90 : Int32) < p1) => ?_) (fun (c2 : ¬ ((90 : Int32) < p1)) => ?_)
    · refine own_iloadN X0 hx (hb hby own_d25_19) (q := 20) rfl rfl ?_
      refine own_retI X0 hx hlk hret (hb hby own_d25_20) ?_ (by decide) (by decide)
      have r : own_f25 p1 = p1 := by rw [own_f25, if_neg c1, if_pos c2]
      exact ⟨by rw [r] <;> rfl, e0, rfl⟩
    · refine own_iloadN X0 hx (hb hby own_d25_12) (q := 13) rfl rfl ?_
      refine own_bipush X0 hx (v := (32 : Int32)) (hb hby own_d25_13) (q := 15) rfl rfl ?_
      refine own_iadd X0 hx (hb hby own_d25_15) (q := 16) rfl ?_
      refine own_goto X0 hx (hb hby own_d25_16) (q := 20) (by decide) (by decide) ?_
      refine own_retI X0 hx hlk hret (hb hby own_d25_20) ?_ (by decide) (by decide)
      have r : own_f25 p1 = p1 + (32 : Int32) := by rw [own_f25, if_neg c1, if_neg c2]
      exact ⟨by rw [r] <;> rfl, e0, rfl⟩

theorem own_neC {Z : State} {h : Heap} {a b : Addr} {C D : String} (A : Exa Z h a C) (B : Exa Z h b D) (hCD : C ≠ D) : a ≠ b := fun e => by
  subst e
  obtain ⟨c1, k1, a1, a2, -⟩ := A
  obtain ⟨c2, k2, b1, b2, -⟩ := B
  cases a1.symm.trans b1
  exact ids_ne a2 b2 hCD rfl
theorem own_ofN {n : Nat} (h : n ≤ 1000) : (Int32.ofNat n).toInt = n := by rw [Int32.toInt_ofNat_of_lt (by omega)]
theorem own_ofNc {n : Nat} (h : n ≤ 1000) : (Int32.ofNat n).toNatClampNeg = n := by show (Int32.ofNat n).toInt.toNat = n; rw [own_ofN h]; omega
theorem own_ofNs {n : Nat} (h : n ≤ 999) : Int32.ofNat n + 1 = Int32.ofNat (n + 1) := by
  have a := c_iadd (Int32.ofNat n) 1; have r := rng32 (Int32.ofNat n + 1)
  simp only [Int32.reduceToInt, own_ofN (n := n) (by omega)] at a
  rw [← Int32.toInt_inj, own_ofN (n := n + 1) (by omega)]; omega
def own_e1 (u : Int32) : Value := .int u.toInt8.toInt32
def own_e2 (u : Int32) : List Value := [.int ((u >>> ((0 : Int32) &&& 31)).toInt8.toInt32), .int ((u >>> ((8 : Int32) &&& 31)).toInt8.toInt32)]
def own_ok (u : Int32) : Prop := ¬ u < (0 : Int32) ∧ ¬ (65535 : Int32) < u
theorem own_nar {u : Int32} (h : own_ok u) : nar .char u = u := by
  show u.toUInt32.toUInt16.toUInt32.toInt32 = u
  have a := c_i2c u
  obtain ⟨h0, h1⟩ := h
  rw [Int32.lt_iff_toInt_lt] at h0 h1
  simp only [Int32.reduceToInt] at h0 h1
  rw [← Int32.toInt_inj]; omega
theorem own_and {u : Int32} (h0 : ¬ u < (0 : Int32)) (h1 : ¬ (255 : Int32) < u) : u.toInt8.toInt32 &&& (255 : Int32) = u := by
  have h := c_mask u.toInt8.toInt32 255 8 (by decide) (by decide)
  have b := c_i2b u
  rw [Int32.lt_iff_toInt_lt] at h0 h1
  simp only [Int32.reduceToInt] at h0 h1
  rw [← Int32.toInt_inj, h]; omega
theorem own_c0 {u cs nn p : Int32} (h : own_ok u) (h1 : ¬ (255 : Int32) < u) : own_f20_0 p cs nn u.toInt8.toInt32 = u := by
  unfold own_f20_0 own_f22
  rw [own_and h.1 h1]
  show nar .char (nar .char (nar .char u)) = u
  rw [own_nar h, own_nar h, own_nar h]
theorem own_c1 {u cs nn p : Int32} (h : own_ok u) : own_f20_1 p cs nn ((u >>> ((0 : Int32) &&& 31)).toInt8.toInt32) ((u >>> ((8 : Int32) &&& 31)).toInt8.toInt32) = u := by
  unfold own_f20_1 own_f36 own_f35
  rw [own_rt h.1 h.2, own_nar h, own_nar h]
def own_Str (Z : State) (h : Heap) (a b : Addr) (us : List Int32) : Prop := Exa Z h a "java/lang/String" ∧ Fld Z h a "java/lang/String" "value" "[B" (.ref b) ∧ (∀ u ∈ us, own_ok u) ∧ ((Fld Z h a "java/lang/String" "coder" "B" (.int (0 : Int32)) ∧ own_A Z h b .byte (us.map own_e1) ∧ ∀ u ∈ us, ¬ (255 : Int32) < u) ∨ (Fld Z h a "java/lang/String" "coder" "B" (.int (1 : Int32)) ∧ own_A Z h b .byte (us.flatMap own_e2)))
theorem own_Str.lt1 {Z : State} {h : Heap} {a b : Addr} {us : List Int32} (F : own_Str Z h a b us) : a < h.size := F.1.lt
theorem own_Str.lt2 {Z : State} {h : Heap} {a b : Addr} {us : List Int32} (F : own_Str Z h a b us) : b < h.size := by
  obtain ⟨-, -, -, ⟨-, A, -⟩ | ⟨-, A⟩⟩ := F <;> exact A.lt
theorem own_Str.keep {Z : State} {h h' : Heap} {a b : Addr} {us : List Int32} {ws : List Addr} (F : own_Str Z h a b us) (K : Keep h h' ws) (q1 : a ∉ ws) (q2 : b ∉ ws) : own_Str Z h' a b us := by
  obtain ⟨e1, e2, e3, e4⟩ := F
  refine ⟨e1.keep K, e2.keep K q1, e3, ?_⟩
  rcases e4 with ⟨f1, f2, f3⟩ | ⟨f1, f2⟩
  · exact Or.inl ⟨f1.keep K q1, f2.keep K q2, f3⟩
  · exact Or.inr ⟨f1.keep K q1, f2.keep K q2⟩
theorem own_Str.ext {Z : State} {h h' : Heap} {a b : Addr} {us : List Int32} (F : own_Str Z h a b us) (E : Ext h h') : own_Str Z h' a b us := by
  obtain ⟨e1, e2, e3, e4⟩ := F
  refine ⟨Exa.ext E e1, Fld.ext E e2, e3, ?_⟩
  rcases e4 with ⟨f1, f2, f3⟩ | ⟨f1, f2⟩
  · exact Or.inl ⟨Fld.ext E f1, f2.ext E, f3⟩
  · exact Or.inr ⟨Fld.ext E f1, f2.ext E⟩
def own_SB (Z : State) (h : Heap) (n0 : Nat) (a b : Addr) (n : Nat) (us : List Int32) : Prop := n0 ≤ a ∧ n0 ≤ b ∧ Exa Z h a "java/lang/StringBuilder" ∧ Exa Z h b "[B" ∧ Fld Z h a "java/lang/AbstractStringBuilder" "value" "[B" (.ref b) ∧ Fld Z h a "java/lang/AbstractStringBuilder" "count" "I" (.int (Int32.ofNat us.length)) ∧ Fld Z h a "java/lang/AbstractStringBuilder" "maybeLatin1" "Z" (.int (0 : Int32)) ∧ (∀ u ∈ us, own_ok u) ∧
  ((Fld Z h a "java/lang/AbstractStringBuilder" "coder" "B" (.int (0 : Int32)) ∧ own_A Z h b .byte (us.map own_e1 ++ List.replicate (n - us.length) (.int (0 : Int32))) ∧ ∀ u ∈ us, ¬ (255 : Int32) < u) ∨ (Fld Z h a "java/lang/AbstractStringBuilder" "coder" "B" (.int (1 : Int32)) ∧ own_A Z h b .byte (us.flatMap own_e2 ++ List.replicate (2 * (n - us.length)) (.int (0 : Int32)))))
theorem own_SB.keep0 {Z : State} {h h' : Heap} {n0 : Nat} {a b : Addr} {n : Nat} {us : List Int32} (F : own_SB Z h n0 a b n us) (K : Keep h h' []) : own_SB Z h' n0 a b n us := by
  obtain ⟨e1, e2, e3, e4, e5, e6, e7, e8, e9⟩ := F
  refine ⟨e1, e2, e3.keep K, e4.keep K, e5.keep K nin0, e6.keep K nin0, e7.keep K nin0, e8, ?_⟩
  rcases e9 with ⟨f1, f2, f3⟩ | ⟨f1, f2⟩
  · exact Or.inl ⟨f1.keep K nin0, f2.keep K nin0, f3⟩
  · exact Or.inr ⟨f1.keep K nin0, f2.keep K nin0⟩
theorem own_acast {Z : State} {h : Heap} {a : Addr} {ty : FieldType} {vs ws : List Value} (F : own_A Z h a ty vs) (e : vs = ws) : own_A Z h a ty ws := e ▸ F
theorem own_fcast {Z : State} {h : Heap} {a : Addr} {C n d : String} {x y : Int32} (F : Fld Z h a C n d (.int x)) (e : x = y) : Fld Z h a C n d (.int y) := e ▸ F
theorem own_fml (us : List Int32) : (us.flatMap own_e2).length = 2 * us.length := by
  induction us with
  | nil => rfl
  | cons u us ih => rw [List.flatMap_cons, List.length_append, ih, List.length_cons]; show 2 + _ = _; omega
theorem own_fm {us : List Int32} {i : Nat} {u : Int32} (h : us[i]? = some u) : (us.flatMap own_e2)[2 * i]? = some (.int ((u >>> ((0 : Int32) &&& 31)).toInt8.toInt32)) ∧ (us.flatMap own_e2)[2 * i + 1]? = some (.int ((u >>> ((8 : Int32) &&& 31)).toInt8.toInt32)) := by
  induction us generalizing i with
  | nil => cases h
  | cons x us ih =>
    rw [List.flatMap_cons]
    rcases i with _ | i
    · cases h; exact ⟨rfl, rfl⟩
    · have q := ih (i := i) h
      show (own_e2 x ++ us.flatMap own_e2)[2 * (i + 1)]? = _ ∧ (own_e2 x ++ us.flatMap own_e2)[2 * (i + 1) + 1]? = _
      rw [List.getElem?_append_right (by show 2 ≤ _; omega), List.getElem?_append_right (by show 2 ≤ _; omega)]
      show (us.flatMap own_e2)[2 * (i + 1) - 2]? = _ ∧ (us.flatMap own_e2)[2 * (i + 1) + 1 - 2]? = _
      rw [show 2 * (i + 1) - 2 = 2 * i by omega, show 2 * (i + 1) + 1 - 2 = 2 * i + 1 by omega]; exact q
theorem own_set1 {xs : List Value} {n : Nat} {v z : Value} (h : xs.length < n) : (xs ++ List.replicate (n - xs.length) z).set xs.length v = (xs ++ [v]) ++ List.replicate (n - (xs.length + 1)) z := by
  rw [List.set_append_right _ _ (Nat.le_refl _), Nat.sub_self, show n - xs.length = (n - (xs.length + 1)) + 1 by omega, List.replicate_succ, List.set_cons_zero, List.append_assoc, List.singleton_append]
theorem own_set2 {xs : List Value} {m : Nat} {v w z : Value} : ((xs ++ List.replicate (m + 2) z).set xs.length v).set (xs.length + 1) w = (xs ++ [v, w]) ++ List.replicate m z := by
  rw [List.set_append_right _ _ (Nat.le_refl _), Nat.sub_self, List.replicate_succ, List.replicate_succ, List.set_cons_zero, List.set_append_right _ _ (by omega), show xs.length + 1 - xs.length = 1 by omega, List.append_assoc]
  rfl
theorem own_3 {n : Nat} (h : n ≤ 3) : n = 0 ∨ n = 1 ∨ n = 2 ∨ n = 3 := by omega
theorem own_in3 {i n : Nat} (h : i < n) (hn : n ≤ 3) : (i = 0 ∧ n = 1) ∨ (i = 0 ∧ n = 2) ∨ (i = 0 ∧ n = 3) ∨ (i = 1 ∧ n = 2) ∨ (i = 1 ∧ n = 3) ∨ (i = 2 ∧ n = 3) := by omega
theorem own_l0 {n : Nat} {cs : Int32} (h : n ≤ 3) : own_f5_0 cs (Int32.ofNat n) = Int32.ofNat n := by
  rcases own_3 h with rfl | rfl | rfl | rfl <;> (unfold own_f5_0; decide)
theorem own_l1 {n : Nat} {cs : Int32} (h : n ≤ 3) : own_f5_1 cs (Int32.ofNat (2 * n)) = Int32.ofNat n := by
  rcases own_3 h with rfl | rfl | rfl | rfl <;> (unfold own_f5_1; decide)
theorem own_sh {i : Nat} (h : i ≤ 2) : ¬ (Int32.ofNat i <<< ((1 : Int32) &&& 31)) < 0 ∧ ¬ ((Int32.ofNat i <<< ((1 : Int32) &&& 31)) + (1 : Int32)) < 0 ∧ (Int32.ofNat i <<< ((1 : Int32) &&& 31)).toNatClampNeg = 2 * i ∧ ((Int32.ofNat i <<< ((1 : Int32) &&& 31)) + (1 : Int32)).toNatClampNeg = 2 * i + 1 := by
  rcases own_3 (n := i) (by omega) with rfl | rfl | rfl | rfl
  · decide
  · decide
  · decide
  · omega
theorem own_cx {i n : Nat} (h : i < n) (hn : n ≤ 3) : ¬ Int32.ofNat i < (0 : Int32) ∧ Int32.ofNat i < Int32.ofNat n ∧ Int32.ofNat i < own_f38 (Int32.ofNat (2 * n)) ∧ (¬ (0 : Int32) < ((Int32.ofNat i + (1 : Int32)) - (Int32.ofNat n >>> ((0 : Int32) &&& 31)))) ∧ ¬ (0 : Int32) < ((Int32.ofNat i + (1 : Int32)) - (Int32.ofNat (2 * n) >>> ((1 : Int32) &&& 31))) := by
  rcases own_in3 h hn with ⟨rfl, rfl⟩ | ⟨rfl, rfl⟩ | ⟨rfl, rfl⟩ | ⟨rfl, rfl⟩ | ⟨rfl, rfl⟩ | ⟨rfl, rfl⟩ <;> (unfold own_f38; decide)
theorem own_f8 (x : Int32) : fits .byte (.int x.toInt8.toInt32) = true := by
  have h1 : (x.toInt8.toInt32).toInt = x.toInt8.toInt := Int8.toInt_toInt32 _
  have h2 := x.toInt8.toInt_lt; have h3 := x.toInt8.le_toInt
  simp only [fits, Bool.and_eq_true, decide_eq_true_eq]
  rw [Int32.le_iff_toInt_le, Int32.le_iff_toInt_le, h1]
  simp only [Int32.reduceToInt]; omega
theorem own_fit1 (us : List Int32) : ∀ v ∈ us.map own_e1, fits .byte v = true := fun v hv => by
  obtain ⟨u, -, rfl⟩ := List.mem_map.mp hv; exact own_f8 u
theorem own_fit2 (us : List Int32) : ∀ v ∈ us.flatMap own_e2, fits .byte v = true := fun v hv => by
  obtain ⟨u, -, hu⟩ := List.mem_flatMap.mp hv
  simp only [own_e2, List.mem_cons, List.not_mem_nil, or_false] at hu
  rcases hu with rfl | rfl <;> exact own_f8 _

theorem own_pd27 : parseMethodDescriptor "(I)C" = some ⟨[.int], some .char⟩ := by decide +kernel
theorem own_pd28 : parseMethodDescriptor "(C)Ljava/lang/StringBuilder;" = some ⟨[.char], some (.object "java/lang/StringBuilder")⟩ := by decide +kernel
theorem own_pd29 : parseMethodDescriptor "()Ljava/lang/String;" = some ⟨[], some (.object "java/lang/String")⟩ := by decide +kernel
section OwnSites
variable {p : Program} {l : Launch} {e : Env} {R : Room} {s : State} {m : MethodId} {args : Array Value} {below : List Frame} {meth : Method} {c : Code} {T : State} {locs : List Loc} {cells slots kc ks : Nat} {Q : Option Value → Heap → List Loc → Prop} {P : Outcome → State → Prop} {pc q : Nat} {Ls L' : Array Slot} {st : List Value}
theorem own_lenT (X : Stand p l e R s m args below meth c T locs cells slots) (hx : p.tables.exec = Jvm.exec) {Z : State} {a0 : Array Value} {h : Heap} {own : String} {index W : Nat} {a b : Addr} {us : List Int32} {cs : Int32} {G : Value} (hZ : Z.Warmed39 s.vm) (hown : s.vm.findClass own = some m.cls) (hw : ∀ d ∈ tables_1, d.before a0 Z = true) (w1 : (Cond.methodLink own index (⟨"java/lang/String", "length", "()I"⟩ : MethodName)).before a0 Z = true) (eT : T.heap = h) (GG : own_G Z h cs G) (S : own_Str Z h a b us) (hn : us.length ≤ 3) (hml : Ls.size = c.maxLocals) (hW : (st.map fun v => v.category).sum ≤ W) (hf : 2 ≤ R.frames) (hl : W + 25 ≤ R.locals) (hc : cells ≤ R.cells) (hs : slots ≤ R.slots) (hd : decode c.code pc = .ok (.invokevirtual index, 3)) (hq : pc + 3 = q) (K : ∀ T', Stand p l e R s m args below meth c T' locs cells slots → T'.heap = h → own_Go p e below P (T'.setTop (mkF m q Ls (.int (Int32.ofNat us.length) :: st)))) : own_Go p e below P (T.setTop (mkF m pc Ls (.ref a :: st))) := by
  obtain ⟨E, F, -, ⟨C0, A, -⟩ | ⟨C1, A⟩⟩ := S
  · refine own_callVP X hx hZ hown w1 (own_h hw 30 rfl) (own_h hw 32 rfl) (own_h hw 32 rfl) (own_h hw 31 rfl) (own_h hw 3 rfl) (own_h hw 33 rfl) E (by decide) (rm5_0 l Z a0 hw [] a cs G b (us.map own_e1) (Int32.ofNat us.length) h GG E F C0 A (by rw [List.length_map] <;> rfl)) own_pd22 rfl eT hml (argsL := []) (st := st) rfl (W := W) hW (Nat.le_trans (by decide) hf) (by omega) hc hs hd hq (fun T' X' e' => ?_)
    have q0 := own_l0 (cs := cs) hn
    rw [q0]; exact K T' X' e'
  · refine own_callVP X hx hZ hown w1 (own_h hw 30 rfl) (own_h hw 32 rfl) (own_h hw 32 rfl) (own_h hw 31 rfl) (own_h hw 3 rfl) (own_h hw 33 rfl) E (by decide) (rm5_1 l Z a0 hw [] a cs G b (us.flatMap own_e2) (Int32.ofNat (2 * us.length)) h GG E F C1 A (by rw [own_fml] <;> rfl)) own_pd22 rfl eT hml (argsL := []) (st := st) rfl (W := W) hW (Nat.le_trans (by decide) hf) (by omega) hc hs hd hq (fun T' X' e' => ?_)
    have q0 := own_l1 (cs := cs) hn
    rw [q0]; exact K T' X' e'
theorem own_chT (X : Stand p l e R s m args below meth c T locs cells slots) (hx : p.tables.exec = Jvm.exec) {Z : State} {a0 : Array Value} {h : Heap} {own : String} {index W : Nat} {a b : Addr} {us : List Int32} {cs : Int32} {G : Value} (hZ : Z.Warmed39 s.vm) (hown : s.vm.findClass own = some m.cls) (hw : ∀ d ∈ tables_1, d.before a0 Z = true) {i : Nat} {u : Int32} (w1 : (Cond.methodLink own index (⟨"java/lang/String", "charAt", "(I)C"⟩ : MethodName)).before a0 Z = true) (eT : T.heap = h) (GG : own_G Z h cs G) (S : own_Str Z h a b us) (hn : us.length ≤ 3) (hu : us[i]? = some u) (hml : Ls.size = c.maxLocals) (hW : (st.map fun v => v.category).sum ≤ W) (hf : 5 ≤ R.frames) (hl : W + 66 ≤ R.locals) (hc : cells ≤ R.cells) (hs : slots ≤ R.slots) (hd : decode c.code pc = .ok (.invokevirtual index, 3)) (hq : pc + 3 = q) (K : ∀ T', Stand p l e R s m args below meth c T' locs cells slots → T'.heap = h → own_Go p e below P (T'.setTop (mkF m q Ls (.int u :: st)))) : own_Go p e below P (T.setTop (mkF m pc Ls (.int (Int32.ofNat i) :: .ref a :: st))) := by
  have hi := (List.getElem?_eq_some_iff.mp hu).1
  obtain ⟨k1, k2, k3, -, -⟩ := own_cx hi hn
  have hm := List.mem_of_getElem? hu
  obtain ⟨E, F, ok, ⟨C0, A, hL⟩ | ⟨C1, A⟩⟩ := S
  · refine own_callVP X hx hZ hown w1 (own_h hw 113 rfl) (own_h hw 115 rfl) (own_h hw 115 rfl) (own_h hw 114 rfl) (own_h hw 3 rfl) (own_h hw 116 rfl) E (by decide) (rm20_0 l Z a0 hw [] a (Int32.ofNat i) cs G b (us.map own_e1) (Int32.ofNat us.length) u.toInt8.toInt32 h GG E F C0 A k1 k2 (by rw [List.length_map] <;> rfl) (by rw [own_ofNc (n := i) (by omega), List.getElem?_map, hu]; rfl)) own_pd27 rfl eT hml (argsL := [.int (Int32.ofNat i)]) (st := st) rfl (W := W) hW (Nat.le_trans (by decide) hf) (by omega) hc hs hd hq (fun T' X' e' => ?_)
    rw [own_c0 (ok u hm) (hL u hm)]; exact K T' X' e'
  · obtain ⟨j1, j2, j3, j4⟩ := own_sh (i := i) (by omega)
    obtain ⟨g1, g2⟩ := own_fm hu
    refine own_callVP X hx hZ hown w1 (own_h hw 113 rfl) (own_h hw 115 rfl) (own_h hw 115 rfl) (own_h hw 114 rfl) (own_h hw 3 rfl) (own_h hw 116 rfl) E (by decide) (rm20_1 l Z a0 hw [] a (Int32.ofNat i) cs G b (us.flatMap own_e2) (Int32.ofNat (2 * us.length)) _ _ h GG E F C1 A k1 k3 (by rw [own_fml] <;> rfl) j1 j2 (by rw [j3]; exact g1) (by rw [j4]; exact g2)) own_pd27 rfl eT hml (argsL := [.int (Int32.ofNat i)]) (st := st) rfl (W := W) hW (Nat.le_trans (by decide) hf) (by omega) hc hs hd hq (fun T' X' e' => ?_)
    rw [own_c1 (ok u hm)]; exact K T' X' e'
theorem own_appT (X : Stand p l e R s m args below meth c T locs cells slots) (hx : p.tables.exec = Jvm.exec) {Z : State} {a0 : Array Value} {h : Heap} {own : String} {index W : Nat} {a b : Addr} {us : List Int32} {cs : Int32} {G : Value} (hZ : Z.Warmed39 s.vm) (hown : s.vm.findClass own = some m.cls) (hw : ∀ d ∈ tables_1, d.before a0 Z = true) {n0 n : Nat} {x : Int32} (w1 : (Cond.methodLink own index (⟨"java/lang/StringBuilder", "append", "(C)Ljava/lang/StringBuilder;"⟩ : MethodName)).before a0 Z = true) (eT : T.heap = h) (Zn : n0 ≤ h.size) (GG : own_G Z h cs G) (S : own_SB Z h n0 a b n us) (hx0 : own_ok x) (hi : us.length < n) (hn : n ≤ 3) (hml : Ls.size = c.maxLocals) (hW : (st.map fun v => v.category).sum ≤ W) (hf : 8 ≤ R.frames) (hl : W + 115 ≤ R.locals) (hc : cells + 1 ≤ R.cells) (hs : slots + 6 ≤ R.slots) (hd : decode c.code pc = .ok (.invokevirtual index, 3)) (hq : pc + 3 = q) (K : ∀ T' L b', Stand p l e R s m args below meth c T' (locs ++ L) (cells + 1) (slots + 6) → Fr n0 L → Keep h T'.heap [a, b] → own_SB Z T'.heap n0 a b' n (us ++ [x]) → own_Go p e below P (T'.setTop (mkF m q Ls (.ref a :: st)))) : own_Go p e below P (T.setTop (mkF m pc Ls (.int x :: .ref a :: st))) := by
  obtain ⟨Ga, Gb, Ea, Eb, Fv, Fc, Fm, ok, hcase⟩ := S
  have nba : b ≠ a := own_neC Eb Ea (by decide)
  obtain ⟨k1, k2, k3, k4, k5⟩ := own_cx hi hn
  have ok' : ∀ u ∈ us ++ [x], own_ok u := fun u hu => by
    rcases List.mem_append.mp hu with q | q
    · exact ok u q
    · cases List.mem_singleton.mp q; exact hx0
  have hlen : Int32.ofNat us.length + 1 = Int32.ofNat (us ++ [x]).length := by rw [own_ofNs (n := us.length) (by omega), List.length_append, List.length_singleton]
  rcases hcase with ⟨C0, A, hL⟩ | ⟨C1, A⟩
  · by_cases h255 : (255 : Int32) < x
    · have hcs := own_in3 hi hn
      rcases hcs with ⟨hi0, hn0⟩ | ⟨hi0, hn0⟩ | ⟨hi0, hn0⟩ | ⟨hi0, hn0⟩ | ⟨hi0, hn0⟩ | ⟨hi0, hn0⟩
      · subst hn0
        obtain rfl : us = [] := List.eq_nil_of_length_eq_zero hi0
        have A' : own_A Z h b .byte [.int (0 : Int32)] := A
        refine own_callV X hx hZ hown w1 (own_h hw 138 rfl) (own_h hw 140 rfl) (own_h hw 140 rfl) (own_h hw 139 rfl) (own_h hw 28 rfl) (own_h hw 141 rfl) Ea (by decide) (rm26_H0 l Z a0 hw [] a x cs G b [.int (0 : Int32)] (1 : Int32)  h n0 Zn GG Ea Fv C0 Fc Fm Eb A' Ga nba (by decide) (by decide) (by decide) (by decide) (by decide) h255 (by decide) (by decide) rfl (by decide) (by decide)  (by decide) (by decide)) own_pd28 rfl eT hml (argsL := [.int x]) (st := st) rfl (W := W) hW (Nat.le_trans (by decide) hf) (by first | omega | (dsimp only; omega)) hc hs hd hq (fun v T' L X' hQ => ?_)
        obtain ⟨ra, rfl, N, K1, hge, Er, Ar, E1, F1, F2, F3, F4, Eb1, Ab1⟩ := hQ
        rw [show (own_f33 (1 : Int32)).toNatClampNeg = 2 from by decide] at Ar
        exact K T' L ra X' N (Keep.trans (ws := [a, b]) (Keep.refl _ _) K1 (fun y hy => by cases List.mem_singleton.mp hy; exact Or.inl (by simp))) ⟨Ga, Nat.le_trans Zn hge, E1, Er, F1, own_fcast F3 rfl, F4, ok', Or.inr ⟨F2, Ar⟩⟩
      · subst hn0
        obtain rfl : us = [] := List.eq_nil_of_length_eq_zero hi0
        have A' : own_A Z h b .byte [.int (0 : Int32), .int (0 : Int32)] := A
        refine own_callV X hx hZ hown w1 (own_h hw 138 rfl) (own_h hw 140 rfl) (own_h hw 140 rfl) (own_h hw 139 rfl) (own_h hw 28 rfl) (own_h hw 141 rfl) Ea (by decide) (rm26_H0 l Z a0 hw [] a x cs G b [.int (0 : Int32), .int (0 : Int32)] (2 : Int32)  h n0 Zn GG Ea Fv C0 Fc Fm Eb A' Ga nba (by decide) (by decide) (by decide) (by decide) (by decide) h255 (by decide) (by decide) rfl (by decide) (by decide)  (by decide) (by decide)) own_pd28 rfl eT hml (argsL := [.int x]) (st := st) rfl (W := W) hW (Nat.le_trans (by decide) hf) (by first | omega | (dsimp only; omega)) hc hs hd hq (fun v T' L X' hQ => ?_)
        obtain ⟨ra, rfl, N, K1, hge, Er, Ar, E1, F1, F2, F3, F4, Eb1, Ab1⟩ := hQ
        rw [show (own_f33 (2 : Int32)).toNatClampNeg = 4 from by decide] at Ar
        exact K T' L ra X' N (Keep.trans (ws := [a, b]) (Keep.refl _ _) K1 (fun y hy => by cases List.mem_singleton.mp hy; exact Or.inl (by simp))) ⟨Ga, Nat.le_trans Zn hge, E1, Er, F1, own_fcast F3 rfl, F4, ok', Or.inr ⟨F2, Ar⟩⟩
      · subst hn0
        obtain rfl : us = [] := List.eq_nil_of_length_eq_zero hi0
        have A' : own_A Z h b .byte [.int (0 : Int32), .int (0 : Int32), .int (0 : Int32)] := A
        refine own_callV X hx hZ hown w1 (own_h hw 138 rfl) (own_h hw 140 rfl) (own_h hw 140 rfl) (own_h hw 139 rfl) (own_h hw 28 rfl) (own_h hw 141 rfl) Ea (by decide) (rm26_H0 l Z a0 hw [] a x cs G b [.int (0 : Int32), .int (0 : Int32), .int (0 : Int32)] (3 : Int32)  h n0 Zn GG Ea Fv C0 Fc Fm Eb A' Ga nba (by decide) (by decide) (by decide) (by decide) (by decide) h255 (by decide) (by decide) rfl (by decide) (by decide)  (by decide) (by decide)) own_pd28 rfl eT hml (argsL := [.int x]) (st := st) rfl (W := W) hW (Nat.le_trans (by decide) hf) (by first | omega | (dsimp only; omega)) hc hs hd hq (fun v T' L X' hQ => ?_)
        obtain ⟨ra, rfl, N, K1, hge, Er, Ar, E1, F1, F2, F3, F4, Eb1, Ab1⟩ := hQ
        rw [show (own_f33 (3 : Int32)).toNatClampNeg = 6 from by decide] at Ar
        exact K T' L ra X' N (Keep.trans (ws := [a, b]) (Keep.refl _ _) K1 (fun y hy => by cases List.mem_singleton.mp hy; exact Or.inl (by simp))) ⟨Ga, Nat.le_trans Zn hge, E1, Er, F1, own_fcast F3 rfl, F4, ok', Or.inr ⟨F2, Ar⟩⟩
      · subst hn0
        obtain ⟨u0, rfl⟩ : ∃ u0 : Int32, us = [u0] := by
          match us, hi0 with
          | [u0], _ => exact ⟨u0, rfl⟩
        have A' : own_A Z h b .byte [.int u0.toInt8.toInt32, .int (0 : Int32)] := A
        refine own_callV X hx hZ hown w1 (own_h hw 138 rfl) (own_h hw 140 rfl) (own_h hw 140 rfl) (own_h hw 139 rfl) (own_h hw 28 rfl) (own_h hw 141 rfl) Ea (by decide) (rm26_H1 l Z a0 hw [] a x cs G b [.int u0.toInt8.toInt32, .int (0 : Int32)] (2 : Int32) u0.toInt8.toInt32 h n0 Zn GG Ea Fv C0 Fc Fm Eb A' Ga nba (by decide) (by decide) (by decide) (by decide) (by decide) h255 (by decide) (by decide) rfl (by decide) (by decide) rfl (by decide) (by decide)) own_pd28 rfl eT hml (argsL := [.int x]) (st := st) rfl (W := W) hW (Nat.le_trans (by decide) hf) (by first | omega | (dsimp only; omega)) hc hs hd hq (fun v T' L X' hQ => ?_)
        obtain ⟨ra, rfl, N, K1, hge, Er, Ar, E1, F1, F2, F3, F4, Eb1, Ab1⟩ := hQ
        rw [show (own_f33 (2 : Int32)).toNatClampNeg = 4 from by decide] at Ar
        rw [own_and (ok u0 (by simp)).1 (hL u0 (by simp))] at Ar
        exact K T' L ra X' N (Keep.trans (ws := [a, b]) (Keep.refl _ _) K1 (fun y hy => by cases List.mem_singleton.mp hy; exact Or.inl (by simp))) ⟨Ga, Nat.le_trans Zn hge, E1, Er, F1, own_fcast F3 rfl, F4, ok', Or.inr ⟨F2, Ar⟩⟩
      · subst hn0
        obtain ⟨u0, rfl⟩ : ∃ u0 : Int32, us = [u0] := by
          match us, hi0 with
          | [u0], _ => exact ⟨u0, rfl⟩
        have A' : own_A Z h b .byte [.int u0.toInt8.toInt32, .int (0 : Int32), .int (0 : Int32)] := A
        refine own_callV X hx hZ hown w1 (own_h hw 138 rfl) (own_h hw 140 rfl) (own_h hw 140 rfl) (own_h hw 139 rfl) (own_h hw 28 rfl) (own_h hw 141 rfl) Ea (by decide) (rm26_H1 l Z a0 hw [] a x cs G b [.int u0.toInt8.toInt32, .int (0 : Int32), .int (0 : Int32)] (3 : Int32) u0.toInt8.toInt32 h n0 Zn GG Ea Fv C0 Fc Fm Eb A' Ga nba (by decide) (by decide) (by decide) (by decide) (by decide) h255 (by decide) (by decide) rfl (by decide) (by decide) rfl (by decide) (by decide)) own_pd28 rfl eT hml (argsL := [.int x]) (st := st) rfl (W := W) hW (Nat.le_trans (by decide) hf) (by first | omega | (dsimp only; omega)) hc hs hd hq (fun v T' L X' hQ => ?_)
        obtain ⟨ra, rfl, N, K1, hge, Er, Ar, E1, F1, F2, F3, F4, Eb1, Ab1⟩ := hQ
        rw [show (own_f33 (3 : Int32)).toNatClampNeg = 6 from by decide] at Ar
        rw [own_and (ok u0 (by simp)).1 (hL u0 (by simp))] at Ar
        exact K T' L ra X' N (Keep.trans (ws := [a, b]) (Keep.refl _ _) K1 (fun y hy => by cases List.mem_singleton.mp hy; exact Or.inl (by simp))) ⟨Ga, Nat.le_trans Zn hge, E1, Er, F1, own_fcast F3 rfl, F4, ok', Or.inr ⟨F2, Ar⟩⟩
      · subst hn0
        obtain ⟨u0, u1, rfl⟩ : ∃ u0 u1 : Int32, us = [u0, u1] := by
          match us, hi0 with
          | [u0, u1], _ => exact ⟨u0, u1, rfl⟩
        have A' : own_A Z h b .byte [.int u0.toInt8.toInt32, .int u1.toInt8.toInt32, .int (0 : Int32)] := A
        refine own_callV X hx hZ hown w1 (own_h hw 138 rfl) (own_h hw 140 rfl) (own_h hw 140 rfl) (own_h hw 139 rfl) (own_h hw 28 rfl) (own_h hw 141 rfl) Ea (by decide) (rm26_H2 l Z a0 hw [] a x cs G b [.int u0.toInt8.toInt32, .int u1.toInt8.toInt32, .int (0 : Int32)] (3 : Int32) u0.toInt8.toInt32 u1.toInt8.toInt32 h n0 Zn GG Ea Fv C0 Fc Fm Eb A' Ga nba (by decide) (by decide) (by decide) (by decide) (by decide) h255 (by decide) (by decide) rfl (by decide) (by decide) rfl rfl (by decide) (by decide)) own_pd28 rfl eT hml (argsL := [.int x]) (st := st) rfl (W := W) hW (Nat.le_trans (by decide) hf) (by first | omega | (dsimp only; omega)) hc hs hd hq (fun v T' L X' hQ => ?_)
        obtain ⟨ra, rfl, N, K1, hge, Er, Ar, E1, F1, F2, F3, F4, Eb1, Ab1⟩ := hQ
        rw [show (own_f33 (3 : Int32)).toNatClampNeg = 6 from by decide] at Ar
        rw [own_and (ok u0 (by simp)).1 (hL u0 (by simp))] at Ar
        rw [own_and (ok u1 (by simp)).1 (hL u1 (by simp))] at Ar
        exact K T' L ra X' N (Keep.trans (ws := [a, b]) (Keep.refl _ _) K1 (fun y hy => by cases List.mem_singleton.mp hy; exact Or.inl (by simp))) ⟨Ga, Nat.le_trans Zn hge, E1, Er, F1, own_fcast F3 rfl, F4, ok', Or.inr ⟨F2, Ar⟩⟩
    · have hl1 : (us.map own_e1).length = us.length := List.length_map ..
      have hvl : (us.map own_e1 ++ List.replicate (n - us.length) (Value.int (0 : Int32))).length = n := by rw [List.length_append, hl1, List.length_replicate]; omega
      refine own_callV X hx hZ hown w1 (own_h hw 138 rfl) (own_h hw 140 rfl) (own_h hw 140 rfl) (own_h hw 139 rfl) (own_h hw 28 rfl) (own_h hw 141 rfl) Ea (by decide) (rm26_L l Z a0 hw [] a x cs G b (Int32.ofNat us.length) _ (Int32.ofNat n) h n0 GG Ea Fv C0 Fc Fm Eb A Ga Gb nba h255 k4 k1 (by rw [hvl] <;> rfl) (by rw [hvl, own_ofNc (n := us.length) (by omega)]; exact hi)) own_pd28 rfl eT hml (argsL := [.int x]) (st := st) rfl (W := W) hW (Nat.le_trans (by decide) hf) (by first | omega | (dsimp only; omega)) (by show cells + 0 ≤ _; omega) (by show slots + 0 ≤ _; omega) hd hq (fun v T' L X' hQ => ?_)
      obtain ⟨rfl, N, K1, E1, F1, F2, F3, F4, Eb1, A1⟩ := hQ
      refine K T' L b (X'.more (by show cells + 0 ≤ _; omega) (by show slots + 0 ≤ _; omega)) N K1 ⟨Ga, Gb, E1, Eb1, F1, own_fcast F3 hlen, F4, ok', Or.inl ⟨F2, own_acast A1 ?_, fun u hu => ?_⟩⟩
      · have q := own_set1 (xs := us.map own_e1) (n := n) (v := .int x.toInt8.toInt32) (z := .int (0 : Int32)) (by rw [hl1]; exact hi)
        rw [hl1] at q
        rw [own_ofNc (n := us.length) (by omega), q, List.map_append, List.length_append, List.length_singleton]; rfl
      · rcases List.mem_append.mp hu with q | q
        · exact hL u q
        · cases List.mem_singleton.mp q; exact h255
  · have hl1 : (us.flatMap own_e2).length = 2 * us.length := own_fml us
    have hvl : (us.flatMap own_e2 ++ List.replicate (2 * (n - us.length)) (Value.int (0 : Int32))).length = 2 * n := by rw [List.length_append, hl1, List.length_replicate]; omega
    obtain ⟨j1, j2, j3, j4⟩ := own_sh (i := us.length) (by omega)
    refine own_callV X hx hZ hown w1 (own_h hw 138 rfl) (own_h hw 140 rfl) (own_h hw 140 rfl) (own_h hw 139 rfl) (own_h hw 28 rfl) (own_h hw 141 rfl) Ea (by decide) (rm26_U l Z a0 hw [] a x cs G b (Int32.ofNat us.length) _ (Int32.ofNat (2 * n)) h n0 GG Ea Fv C1 Fc Fm Eb A Ga Gb nba k5 k1 k3 (by rw [hvl] <;> rfl) j1 j2 (by rw [hvl, j3]; omega) (by rw [hvl, j4]; omega)) own_pd28 rfl eT hml (argsL := [.int x]) (st := st) rfl (W := W) hW (Nat.le_trans (by decide) hf) (by first | omega | (dsimp only; omega)) (by show cells + 0 ≤ _; omega) (by show slots + 0 ≤ _; omega) hd hq (fun v T' L X' hQ => ?_)
    obtain ⟨rfl, N, K1, E1, F1, F2, F3, F4, Eb1, A1⟩ := hQ
    refine K T' L b (X'.more (by show cells + 0 ≤ _; omega) (by show slots + 0 ≤ _; omega)) N K1 ⟨Ga, Gb, E1, Eb1, F1, own_fcast F3 hlen, F4, ok', Or.inr ⟨F2, own_acast A1 ?_⟩⟩
    have q := own_set2 (xs := us.flatMap own_e2) (m := 2 * (n - (us.length + 1))) (v := .int ((x >>> ((0 : Int32) &&& 31)).toInt8.toInt32)) (w := .int ((x >>> ((8 : Int32) &&& 31)).toInt8.toInt32)) (z := .int (0 : Int32))
    rw [hl1, show 2 * (n - (us.length + 1)) + 2 = 2 * (n - us.length) by omega] at q
    rw [j3, j4, q, List.flatMap_append, List.length_append, List.length_singleton]; rfl
theorem own_toS (X : Stand p l e R s m args below meth c T locs cells slots) (hx : p.tables.exec = Jvm.exec) {Z : State} {a0 : Array Value} {h : Heap} {own : String} {index W : Nat} {a b : Addr} {us : List Int32} {cs : Int32} {G : Value} (hZ : Z.Warmed39 s.vm) (hown : s.vm.findClass own = some m.cls) (hw : ∀ d ∈ tables_1, d.before a0 Z = true) {n0 : Nat} (w1 : (Cond.methodLink own index (⟨"java/lang/StringBuilder", "toString", "()Ljava/lang/String;"⟩ : MethodName)).before a0 Z = true) (eT : T.heap = h) (Zn : n0 ≤ h.size) (GG : own_G Z h cs G) (S : own_SB Z h n0 a b us.length us) (hn : us.length ≤ 3) (hml : Ls.size = c.maxLocals) (hW : (st.map fun v => v.category).sum ≤ W) (hf : 5 ≤ R.frames) (hl : W + 71 ≤ R.locals) (hc : cells + 2 ≤ R.cells) (hs : slots + 10 ≤ R.slots) (hd : decode c.code pc = .ok (.invokevirtual index, 3)) (hq : pc + 3 = q) (K : ∀ T' L r br, Stand p l e R s m args below meth c T' (locs ++ L) (cells + 2) (slots + 10) → Fr n0 L → Keep h T'.heap [] → own_Str Z T'.heap r br us → own_Go p e below P (T'.setTop (mkF m q Ls (.ref r :: st)))) : own_Go p e below P (T.setTop (mkF m pc Ls (.ref a :: st))) := by
  obtain ⟨Ga, Gb, Ea, Eb, Fv, Fc, Fm, ok, hcase⟩ := S
  rcases hcase with ⟨C0, A, hL⟩ | ⟨C1, A⟩
  · rw [Nat.sub_self, List.replicate_zero, List.append_nil] at A
    refine own_callV X hx hZ hown w1 (own_h hw 56 rfl) (own_h hw 58 rfl) (own_h hw 58 rfl) (own_h hw 57 rfl) (own_h hw 28 rfl) (own_h hw 59 rfl) Ea (by decide) (rm9_0 l Z a0 hw [] a cs G b (Int32.ofNat us.length) (us.map own_e1) h n0 Zn GG Ea Fv C0 Fc Fm Eb A (by rw [List.length_map] <;> rfl) (by rw [List.length_map]; omega) (own_fit1 us)) own_pd29 rfl eT hml (argsL := []) (st := st) rfl (W := W) hW (Nat.le_trans (by decide) hf) (by first | omega | (dsimp only; omega)) hc hs hd hq (fun v T' L X' hQ => ?_)
    obtain ⟨r, br, rfl, N, K1, o1, o2, e1, f1, f2, a1⟩ := hQ
    exact K T' L r br X' N K1 ⟨e1, f1, ok, Or.inl ⟨f2, a1, hL⟩⟩
  · rw [Nat.sub_self, Nat.mul_zero, List.replicate_zero, List.append_nil] at A
    refine own_callV X hx hZ hown w1 (own_h hw 56 rfl) (own_h hw 58 rfl) (own_h hw 58 rfl) (own_h hw 57 rfl) (own_h hw 28 rfl) (own_h hw 59 rfl) Ea (by decide) (rm9_1 l Z a0 hw [] a cs G b (Int32.ofNat us.length) (us.flatMap own_e2) h n0 Zn GG Ea Fv C1 Fc Fm Eb A (by rw [own_fml]; rcases own_3 hn with e | e | e | e <;> rw [e] <;> decide) (by rw [own_fml]; omega) (own_fit2 us)) own_pd29 rfl eT hml (argsL := []) (st := st) rfl (W := W) hW (Nat.le_trans (by decide) hf) (by first | omega | (dsimp only; omega)) hc hs hd hq (fun v T' L X' hQ => ?_)
    obtain ⟨r, br, rfl, N, K1, o1, o2, e1, f1, f2, a1⟩ := hQ
    exact K T' L r br X' N K1 ⟨e1, f1, ok, Or.inr ⟨f2, a1⟩⟩
end OwnSites
theorem own_ef4 (m : MethodId) (a1 : Addr) : entryFrame m #[.ref a1] 4 = mkF m 0 #[.val (.ref a1), .unset, .unset, .unset] [] := by first | (simp [entryFrame, mkF, argsToLocals, Value.category]; done) | rfl
theorem own_d4_0 : decode prog_29_method_2_code 0 = .ok (.new 7, 3) := by decide +kernel
theorem own_d4_3 : decode prog_29_method_2_code 3 = .ok (.dup, 1) := by decide +kernel
theorem own_d4_4 : decode prog_29_method_2_code 4 = .ok (.aload_n 0, 1) := by decide +kernel
theorem own_d4_5 : decode prog_29_method_2_code 5 = .ok (.invokevirtual 9, 3) := by decide +kernel
theorem own_d4_8 : decode prog_29_method_2_code 8 = .ok (.invokespecial 15, 3) := by decide +kernel
theorem own_d4_11 : decode prog_29_method_2_code 11 = .ok (.astore_n 1, 1) := by decide +kernel
theorem own_d4_12 : decode prog_29_method_2_code 12 = .ok (.iconst 0, 1) := by decide +kernel
theorem own_d4_13 : decode prog_29_method_2_code 13 = .ok (.istore_n 2, 1) := by decide +kernel
theorem own_d4_14 : decode prog_29_method_2_code 14 = .ok (.iload_n 2, 1) := by decide +kernel
theorem own_d4_15 : decode prog_29_method_2_code 15 = .ok (.aload_n 0, 1) := by decide +kernel
theorem own_d4_16 : decode prog_29_method_2_code 16 = .ok (.invokevirtual 9, 3) := by decide +kernel
theorem own_d4_19 : decode prog_29_method_2_code 19 = .ok (.if_icmp .ge 25, 3) := by decide +kernel
theorem own_d4_22 : decode prog_29_method_2_code 22 = .ok (.aload_n 0, 1) := by decide +kernel
theorem own_d4_23 : decode prog_29_method_2_code 23 = .ok (.iload_n 2, 1) := by decide +kernel
theorem own_d4_24 : decode prog_29_method_2_code 24 = .ok (.invokevirtual 18, 3) := by decide +kernel
theorem own_d4_27 : decode prog_29_method_2_code 27 = .ok (.istore_n 3, 1) := by decide +kernel
theorem own_d4_28 : decode prog_29_method_2_code 28 = .ok (.aload_n 1, 1) := by decide +kernel
theorem own_d4_29 : decode prog_29_method_2_code 29 = .ok (.iload_n 3, 1) := by decide +kernel
theorem own_d4_30 : decode prog_29_method_2_code 30 = .ok (.invokestatic 22, 3) := by decide +kernel
theorem own_d4_33 : decode prog_29_method_2_code 33 = .ok (.i2c, 1) := by decide +kernel
theorem own_d4_34 : decode prog_29_method_2_code 34 = .ok (.invokevirtual 28, 3) := by decide +kernel
theorem own_d4_37 : decode prog_29_method_2_code 37 = .ok (.pop, 1) := by decide +kernel
theorem own_d4_38 : decode prog_29_method_2_code 38 = .ok (.iinc 2 1, 3) := by decide +kernel
theorem own_d4_41 : decode prog_29_method_2_code 41 = .ok (.goto (-27), 3) := by decide +kernel
theorem own_d4_44 : decode prog_29_method_2_code 44 = .ok (.aload_n 1, 1) := by decide +kernel
theorem own_d4_45 : decode prog_29_method_2_code 45 = .ok (.invokevirtual 32, 3) := by decide +kernel
theorem own_d4_48 : decode prog_29_method_2_code 48 = .ok (.areturn, 1) := by decide +kernel
def own_lc (u : Int32) : Int32 := (own_f25 u).toUInt32.toUInt16.toUInt32.toInt32
theorem own_lcV {u : Int32} (h : own_ok u) : own_lc u = if u < 65 then u else if 90 < u then u else u + 32 := by
  obtain ⟨h0, h1⟩ := h
  rw [Int32.lt_iff_toInt_lt] at h0 h1
  simp only [Int32.reduceToInt] at h0 h1
  have a := c_iadd u 32; have r := rng32 (u + 32)
  simp only [Int32.reduceToInt] at a
  have q : ∀ v : Int32, 0 ≤ v.toInt → v.toInt ≤ 65535 → v.toUInt32.toUInt16.toUInt32.toInt32 = v := fun v h2 h3 => own_nar (u := v) ⟨by rw [Int32.lt_iff_toInt_lt]; simp only [Int32.reduceToInt]; omega, by rw [Int32.lt_iff_toInt_lt]; simp only [Int32.reduceToInt]; omega⟩
  unfold own_lc own_f25
  simp only [Int32.lt_iff_toInt_lt, Int32.reduceToInt]
  split
  · exact q u (by omega) (by omega)
  · split
    · exact q u (by omega) (by omega)
    · exact q _ (by omega) (by omega)
theorem own_lcK {u : Int32} (h : own_ok u) : own_ok (own_lc u) := by
  rw [own_lcV h]
  obtain ⟨h0, h1⟩ := h
  unfold own_ok
  have a := c_iadd u 32; have r := rng32 (u + 32)
  simp only [Int32.lt_iff_toInt_lt, Int32.reduceToInt] at *
  split
  · exact ⟨h0, h1⟩
  · split
    · exact ⟨h0, h1⟩
    · omega
def own_Q4 (Z : State) (us : List Int32) (h0 : Heap) (n0 : Nat) (v : Option Value) (h : Heap) (L : List Loc) : Prop := ∃ r b : Addr, v = some (.ref r) ∧ Fr n0 L ∧ Keep h0 h [] ∧ own_Str Z h r b (us.map own_lc)
set_option maxRecDepth 65536 in
set_option maxHeartbeats 40000000 in
theorem rm4 (l : Launch) (Z : State) (a0 : Array Value) (hw : ∀ d ∈ tables_1, d.before a0 Z = true) (ws : List Jvm.Cond) (a1 b1 : Addr) (us : List Int32) (cs : Int32) (G : Value) (h0 : Heap) (n0 : Nat) (Z0 : n0 ≤ h0.size) (GG : own_G Z h0 cs G) (S0 : own_Str Z h0 a1 b1 us) (hn : us.length ≤ 3) :
    own_M l (⟨"com/example/usher_frames/usherframes/text/Ascii", "toLowerCase", "(Ljava/lang/String;)Ljava/lang/String;"⟩ : MethodName) prog_29_method_2_code 4 (some (.object "java/lang/String")) ws ({ frames := 8, cells := 7, slots := 35, locals := 117 } : Room) #[.ref a1] Z h0 (own_Q4 Z us h0 n0) := by
  refine own_prol (C := "com/example/usher_frames/usherframes/text/Ascii") rfl own_pn64 (fun m => own_ef4 m ..) ?_
  intro p e s m below meth c s₁ hx hby hml hown hnm hlk hret X0 e0 hZ
  have LOOP : ∀ (r i : Nat) (T : State) (locs : List Loc) (h : Heap) (a b : Addr) (x3 : Slot), (x3 = .unset ∨ ∃ w, x3 = .val (.int w)) → r + i = us.length → Stand p l e ({ frames := 8, cells := 7, slots := 35, locals := 117 } : Room) s m #[.ref a1] below meth c T locs (2 + i) (7 + 6 * i) → T.heap = h → Fr h0.size locs → h0.size ≤ h.size → Keep h0 h [] → own_G Z h cs G → own_Str Z h a1 b1 us → own_SB Z h h0.size a b us.length ((us.take i).map own_lc) → own_Go p e below (own_E s 7 35 (own_Q4 Z us h0 n0)) (T.setTop (mkF m 14 #[.val (.ref a1), .val (.ref a), .val (.int (Int32.ofNat i)), x3] [])) := by
    intro r
    induction r with
    | zero =>
      intro i T locs h a b x3 hx3 hr X eT N Zn K0 GG S B
      have hi3 : i ≤ 3 := by omega
      refine own_iloadN X hx (hb hby own_d4_14) (q := 15) rfl rfl ?_
      refine own_aloadN X hx (hb hby own_d4_15) (q := 16) rfl rfl rfl ?_
      refine own_lenT X hx hZ hown hw (W := 1) (own_h hw 29 rfl) eT GG S hn (by rw [hml]; rfl) (Nat.le_of_eq rfl) (by decide) (by decide) (by first | omega | (dsimp only; omega)) (by first | omega | (dsimp only; omega)) (hb hby own_d4_16) (q := 19) rfl (fun T1 X1 e1 => ?_)
      obtain rfl : i = us.length := by omega
      refine own_icmpM X1 hx (hb hby own_d4_19) (cd := .ge) (x := Int32.ofNat us.length) (y := Int32.ofNat us.length) (pt := 44) (q := 22) (by decide) (by decide) rfl rfl (fun _ => ?_) (fun h => False.elim (by have h : Int32.ofNat us.length < Int32.ofNat us.length := h; rw [Int32.lt_iff_toInt_lt] at h; omega))
      refine own_aloadN X1 hx (hb hby own_d4_44) (q := 45) rfl rfl rfl ?_
      rw [List.take_length] at B
      have B' : own_SB Z h h0.size a b (us.map own_lc).length (us.map own_lc) := by rw [List.length_map]; exact B
      refine own_toS X1 hx hZ hown hw (W := 0) (own_h hw 55 rfl) e1 Zn GG B' (by rw [List.length_map]; exact hn) (by rw [hml]; rfl) (Nat.le_of_eq rfl) (by decide) (by decide) (by first | omega | (dsimp only; omega)) (by first | omega | (dsimp only; omega)) (hb hby own_d4_45) (q := 48) rfl (fun T2 L2 r2 br X2 N2 K2 S2 => ?_)
      refine own_retA X2 hx hlk rfl rfl rfl hret (hb hby own_d4_48) ?_ (by first | omega | (dsimp only; omega)) (by first | omega | (dsimp only; omega))
      exact ⟨r2, br, rfl, fun y hy => Nat.le_trans Z0 ((N.app N2) y hy), K0.trans K2 (fun _ z => by cases z), S2⟩
    | succ r ih =>
      intro i T locs h a b x3 hx3 hr X eT N Zn K0 GG S B
      have hi3 : i ≤ 3 := by omega
      refine own_iloadN X hx (hb hby own_d4_14) (q := 15) rfl rfl ?_
      refine own_aloadN X hx (hb hby own_d4_15) (q := 16) rfl rfl rfl ?_
      refine own_lenT X hx hZ hown hw (W := 1) (own_h hw 29 rfl) eT GG S hn (by rw [hml]; rfl) (Nat.le_of_eq rfl) (by decide) (by decide) (by first | omega | (dsimp only; omega)) (by first | omega | (dsimp only; omega)) (hb hby own_d4_16) (q := 19) rfl (fun T1 X1 e1 => ?_)
      have hlt : Int32.ofNat i < Int32.ofNat us.length := (own_cx (i := i) (n := us.length) (by omega) hn).2.1
      refine own_icmpM X1 hx (hb hby own_d4_19) (cd := .ge) (x := Int32.ofNat i) (y := Int32.ofNat us.length) (pt := 44) (q := 22) (by decide) (by decide) rfl rfl (fun h => False.elim (h hlt)) (fun _ => ?_)
      obtain ⟨u, hu⟩ : ∃ u, us[i]? = some u := ⟨_, List.getElem?_eq_getElem (by omega)⟩
      have hok := S.2.2.1 u (List.mem_of_getElem? hu)
      refine own_aloadN X1 hx (hb hby own_d4_22) (q := 23) rfl rfl rfl ?_
      refine own_iloadN X1 hx (hb hby own_d4_23) (q := 24) rfl rfl ?_
      refine own_chT X1 hx hZ hown hw (W := 0) (own_h hw 112 rfl) e1 GG S hn hu (by rw [hml]; rfl) (Nat.le_of_eq rfl) (by decide) (by decide) (by first | omega | (dsimp only; omega)) (by first | omega | (dsimp only; omega)) (hb hby own_d4_24) (q := 27) rfl (fun T2 X2 e2 => ?_)
      refine own_istoreN (L' := #[.val (.ref a1), .val (.ref a), .val (.int (Int32.ofNat i)), .val (.int u)]) X2 hx (hb hby own_d4_27) (q := 28) rfl (by rcases hx3 with rfl | ⟨w, rfl⟩ <;> rfl) ?_
      refine own_aloadN X2 hx (hb hby own_d4_28) (q := 29) rfl rfl rfl ?_
      refine own_iloadN X2 hx (hb hby own_d4_29) (q := 30) rfl rfl ?_
      refine own_callSP X2 hx hZ hown (own_h hw 134 rfl) (own_h hw 135 rfl) (own_h hw 24 rfl) (own_h hw 136 rfl) (by decide) (rm25 l Z a0 hw [] u h) own_pd7 rfl e2 (by rw [hml]; rfl) (argsL := [.int u]) (st := [.ref a]) rfl (W := 1) (Nat.le_of_eq rfl) (by decide) (by decide) (by first | omega | (dsimp only; omega)) (by first | omega | (dsimp only; omega)) (hb hby own_d4_30) (q := 33) rfl (fun T3 X3 e3 => ?_)
      refine own_i2c X3 hx (hb hby own_d4_33) (q := 34) rfl ?_
      show own_Go p e below (own_E s 7 35 (own_Q4 Z us h0 n0)) (T3.setTop (mkF m 34 #[.val (.ref a1), .val (.ref a), .val (.int (Int32.ofNat i)), .val (.int u)] [.int (own_lc u), .ref a]))
      have hlen : ((us.take i).map own_lc).length = i := by rw [List.length_map, List.length_take]; omega
      refine own_appT X3 hx hZ hown hw (W := 0) (own_h hw 137 rfl) e3 Zn GG B (own_lcK hok) (by rw [hlen]; omega) hn (by rw [hml]; rfl) (Nat.le_of_eq rfl) (by decide) (by decide) (by first | omega | (dsimp only; omega)) (by first | omega | (dsimp only; omega)) (hb hby own_d4_34) (q := 37) rfl (fun T4 L4 b' X4 N4 K4 B4 => ?_)
      refine own_pop X4 hx (hb hby own_d4_37) (q := 38) rfl rfl ?_
      refine own_iinc (L' := #[.val (.ref a1), .val (.ref a), .val (.int (Int32.ofNat i + (1 : Int32))), .val (.int u)]) X4 hx (v := (1 : Int32)) (hb hby own_d4_38) (q := 41) rfl rfl rfl rfl ?_
      refine own_goto X4 hx (hb hby own_d4_41) (q := 14) (by decide) (by decide) ?_
      rw [own_ofNs (n := i) (by omega)]
      have pl : ∀ y ∈ [a, b], (∀ c : Cell, h[y]? = some c → c.vm.isStatics = false) ∧ h0.size ≤ y := fun y hy => by
        simp only [List.mem_cons, List.not_mem_nil, or_false] at hy
        rcases hy with rfl | rfl
        · exact ⟨own_exaPlain B.2.2.1, B.1⟩
        · exact ⟨own_exaPlain B.2.2.2.1, B.2.1⟩
      have hB : (us.take i).map own_lc ++ [own_lc u] = (us.take (i + 1)).map own_lc := by rw [List.take_add_one, hu, List.map_append]; rfl
      rw [hB] at B4
      exact ih (i + 1) T4 _ T4.heap a b' _ (Or.inr ⟨_, rfl⟩) (by omega) (X4.more (by omega) (by omega)) rfl (N.app N4) (Nat.le_trans Zn K4.1) (K0.trans K4 (fun y hy => Or.inr (pl y hy).2)) (GG.keep K4 (fun y hy => (pl y hy).1)) (S.keep K4 (fun hm => absurd (pl a1 hm).2 (Nat.not_le.mpr S0.lt1)) (fun hm => absurd (pl b1 hm).2 (Nat.not_le.mpr S0.lt2))) B4
  refine own_new X0 hx hZ hown (own_h hw 26 rfl) (own_h hw 27 rfl) (own_h hw 28 rfl) e0 (hb hby own_d4_0) (by decide) (by decide) (q := 3) rfl (fun T1 h1 a X1 e1 g1 Ex A D => ?_)
  have Fv : Fld Z h1 a "java/lang/AbstractStringBuilder" "value" "[B" (.null) := D (Or.inl (own_h hw 52 rfl)) (ty := (.array .byte)) (by decide)
  have Fk : Fld Z h1 a "java/lang/AbstractStringBuilder" "coder" "B" (.int (0 : Int32)) := D (Or.inl (own_h hw 54 rfl)) (ty := .byte) (by decide)
  have Fc : Fld Z h1 a "java/lang/AbstractStringBuilder" "count" "I" (.int (0 : Int32)) := D (Or.inl (own_h hw 82 rfl)) (ty := .int) (by decide)
  have Fm : Fld Z h1 a "java/lang/AbstractStringBuilder" "maybeLatin1" "Z" (.int (0 : Int32)) := D (Or.inl (own_h hw 214 rfl)) (ty := .boolean) (by decide)
  have GG1 := GG.ext Ex
  have S1 := S0.ext Ex
  have Ga : h0.size ≤ a := by rw [g1]; exact Nat.le_refl _
  refine own_dup X1 hx (hb hby own_d4_3) (q := 4) rfl rfl ?_
  refine own_aloadN X1 hx (hb hby own_d4_4) (q := 5) rfl rfl rfl ?_
  refine own_lenT X1 hx hZ hown hw (W := 2) (own_h hw 29 rfl) e1 GG1 S1 hn (by rw [hml]; rfl) (Nat.le_of_eq rfl) (by decide) (by decide) (by decide) (by decide) (hb hby own_d4_5) (q := 8) rfl (fun T2 X2 e2 => ?_)
  refine own_callC X2 hx hZ hown rfl (own_h hw 40 rfl) (own_h hw 41 rfl) (own_h hw 28 rfl) (own_h hw 42 rfl) (by decide) (rm7 l Z a0 hw [] a (Int32.ofNat us.length) cs G h1 h0.size Ex.1 GG1 A Fv Fk Fc Fm Ga (by rcases own_3 hn with e | e | e | e <;> rw [e] <;> decide) (by rw [own_ofNc (n := us.length) (by omega)]; exact hn)) own_pd16 rfl e2 (by rw [hml]; rfl) (argsL := [.int (Int32.ofNat us.length)]) (st := [.ref a]) rfl (W := 1) (Nat.le_of_eq rfl) (by decide) (by decide) (by decide) (by decide) (hb hby own_d4_8) (q := 11) rfl (fun v3 T3 L3 X3 hQ3 => ?_)
  obtain ⟨b, rfl, N3, K3, hge, Eb, Ab, E1, F1, F2, F3, F4⟩ := hQ3
  rw [own_ofNc (n := us.length) (by omega)] at Ab
  show own_Go p e below (own_E s 7 35 (own_Q4 Z us h0 n0)) (T3.setTop (mkF m 11 #[.val (.ref a1), .unset, .unset, .unset] [.ref a]))
  have pl : ∀ y ∈ [a], (∀ c : Cell, h1[y]? = some c → c.vm.isStatics = false) ∧ h0.size ≤ y := fun y hy => by cases List.mem_singleton.mp hy; exact ⟨own_exaPlain A, Ga⟩
  refine own_astoreN (L' := #[.val (.ref a1), .val (.ref a), .unset, .unset]) X3 hx (hb hby own_d4_11) (q := 12) rfl rfl rfl ?_
  refine own_iconst X3 hx (v := (0 : Int32)) (hb hby own_d4_12) (q := 13) rfl rfl ?_
  refine own_istoreN (L' := #[.val (.ref a1), .val (.ref a), .val (.int (0 : Int32)), .unset]) X3 hx (hb hby own_d4_13) (q := 14) rfl rfl ?_
  exact LOOP us.length 0 T3 _ T3.heap a b _ (Or.inl rfl) rfl (X3.more (by decide) (by decide)) rfl ((Fr.nil _).app N3) (Nat.le_trans Ex.1 K3.1) ((Keep.ext (Keep.refl _ _) Ex).trans K3 (fun y hy => Or.inr (pl y hy).2)) (GG1.keep K3 (fun y hy => (pl y hy).1)) (S1.keep K3 (fun hm => absurd (pl a1 hm).2 (Nat.not_le.mpr S0.lt1)) (fun hm => absurd (pl b1 hm).2 (Nat.not_le.mpr S0.lt2))) ⟨Ga, Nat.le_trans Ex.1 hge, E1, Eb, F1, F3, F4, (fun u hu => by cases hu), Or.inl ⟨F2, Ab, fun u hu => by cases hu⟩⟩
theorem own_d30_0 : decode method_3_code 0 = .ok (.iload_n 0, 1) := by decide +kernel
theorem own_d30_1 : decode method_3_code 1 = .ok (.bipush 65, 2) := by decide +kernel
theorem own_d30_3 : decode method_3_code 3 = .ok (.if_icmp .lt 28, 3) := by decide +kernel
theorem own_d30_6 : decode method_3_code 6 = .ok (.iload_n 0, 1) := by decide +kernel
theorem own_d30_7 : decode method_3_code 7 = .ok (.bipush 90, 2) := by decide +kernel
theorem own_d30_9 : decode method_3_code 9 = .ok (.if_icmp .gt 22, 3) := by decide +kernel
theorem own_d30_12 : decode method_3_code 12 = .ok (.iload_n 1, 1) := by decide +kernel
theorem own_d30_13 : decode method_3_code 13 = .ok (.ldc 32, 2) := by decide +kernel
theorem own_d30_15 : decode method_3_code 15 = .ok (.iload_n 0, 1) := by decide +kernel
theorem own_d30_16 : decode method_3_code 16 = .ok (.bipush 65, 2) := by decide +kernel
theorem own_d30_18 : decode method_3_code 18 = .ok (.isub, 1) := by decide +kernel
theorem own_d30_19 : decode method_3_code 19 = .ok (.invokevirtual 22, 3) := by decide +kernel
theorem own_d30_22 : decode method_3_code 22 = .ok (.if_icmp .ne 7, 3) := by decide +kernel
theorem own_d30_25 : decode method_3_code 25 = .ok (.iconst 1, 1) := by decide +kernel
theorem own_d30_26 : decode method_3_code 26 = .ok (.goto 4, 3) := by decide +kernel
theorem own_d30_30 : decode method_3_code 30 = .ok (.ireturn, 1) := by decide +kernel
theorem own_d30_31 : decode method_3_code 31 = .ok (.iload_n 1, 1) := by decide +kernel
theorem own_d30_32 : decode method_3_code 32 = .ok (.iload_n 0, 1) := by decide +kernel
theorem own_d30_33 : decode method_3_code 33 = .ok (.if_icmp .ne 7, 3) := by decide +kernel
theorem own_d30_36 : decode method_3_code 36 = .ok (.iconst 1, 1) := by decide +kernel
theorem own_d30_37 : decode method_3_code 37 = .ok (.goto 4, 3) := by decide +kernel
theorem own_d30_41 : decode method_3_code 41 = .ok (.ireturn, 1) := by decide +kernel
theorem own_pn67 : plainName "com/example/usher_frames/usherframes/text/AsciiToLowerCasePinLaw" = true := by first | (simp [plainName, overriddenIn]; done) | decide +kernel
theorem own_ef30 (m : MethodId) (p1 : Int32) (p2 : Int32) : entryFrame m #[.int p1, .int p2] 2 = mkF m 0 #[.val (.int p1), .val (.int p2)] [] := by first | (simp [entryFrame, mkF, argsToLocals, Value.category]; done) | rfl
def own_abc : List Value := [.int (97 : Int32), .int (98 : Int32), .int (99 : Int32), .int (100 : Int32), .int (101 : Int32), .int (102 : Int32), .int (103 : Int32), .int (104 : Int32), .int (105 : Int32), .int (106 : Int32), .int (107 : Int32), .int (108 : Int32), .int (109 : Int32), .int (110 : Int32), .int (111 : Int32), .int (112 : Int32), .int (113 : Int32), .int (114 : Int32), .int (115 : Int32), .int (116 : Int32), .int (117 : Int32), .int (118 : Int32), .int (119 : Int32), .int (120 : Int32), .int (121 : Int32), .int (122 : Int32)]
theorem own_abcV {p : Int32} (h1 : ¬ p < (65 : Int32)) (h2 : ¬ (90 : Int32) < p) : own_abc[(p - (65 : Int32)).toNatClampNeg]? = some (.int ((p + 32).toInt8.toInt32)) ∧ (own_ok (p + 32) ∧ ¬ (255 : Int32) < p + 32) ∧ ¬ (p - (65 : Int32)) < (0 : Int32) ∧ (p - (65 : Int32)) < (26 : Int32) := by
  have hp : p = 65 ∨ p = 66 ∨ p = 67 ∨ p = 68 ∨ p = 69 ∨ p = 70 ∨ p = 71 ∨ p = 72 ∨ p = 73 ∨ p = 74 ∨ p = 75 ∨ p = 76 ∨ p = 77 ∨ p = 78 ∨ p = 79 ∨ p = 80 ∨ p = 81 ∨ p = 82 ∨ p = 83 ∨ p = 84 ∨ p = 85 ∨ p = 86 ∨ p = 87 ∨ p = 88 ∨ p = 89 ∨ p = 90 := by
    simp only [Int32.lt_iff_toInt_lt, ← Int32.toInt_inj, Int32.reduceToInt] at *; omega
  unfold own_ok
  rcases hp with rfl | rfl | rfl | rfl | rfl | rfl | rfl | rfl | rfl | rfl | rfl | rfl | rfl | rfl | rfl | rfl | rfl | rfl | rfl | rfl | rfl | rfl | rfl | rfl | rfl | rfl <;> exact ⟨rfl, by decide, by decide, by decide⟩
def own_LS (Z U : State) (h : Heap) : Prop := IB Z U.vm [] ∨ ∃ a b, Lit U "com/example/usher_frames/usherframes/text/AsciiToLowerCasePinLaw" 32 a ∧ Exa Z h a "java/lang/String" ∧ Fld Z h a "java/lang/String" "coder" "B" (.int (0 : Int32)) ∧ Fld Z h a "java/lang/String" "value" "[B" (.ref b) ∧ own_A Z h b .byte own_abc
theorem own_litMv {U U' : State} {C : String} {i : Nat} {a : Addr} (F : Lit U C i a) (hW : U.WarmedH U'.vm) : Lit U' C i a := State.resolvedAt?_warmed39 (s := U) hW.wide F
theorem own_LS.mv {Z U U' : State} {h : Heap} (F : own_LS Z U h) (hW : U.WarmedH U'.vm) : own_LS Z U' h := by
  rcases F with I | ⟨a, b, Lt, r⟩
  · exact Or.inl (own_IB I hW.interned_eq)
  · exact Or.inr ⟨a, b, own_litMv Lt hW, r⟩
theorem own_LS.vm {Z U U' : State} {h : Heap} (F : own_LS Z U h) (e : U.vm = U'.vm) : own_LS Z U' h := by
  rcases F with I | ⟨a, b, Lt, r⟩
  · exact Or.inl (by rw [← e]; exact I)
  · refine Or.inr ⟨a, b, ?_, r⟩
    simp only [Lit, State.resolvedAt?] at Lt ⊢
    rw [← e]; exact Lt
def own_Q30 (Z : State) (h0 : Heap) (n0 : Nat) (v : Option Value) (t : State) (L : List Loc) : Prop := v = some (.int (1 : Int32)) ∧ Fr n0 L ∧ Keep h0 t.heap [] ∧ own_LS Z t t.heap
set_option maxRecDepth 65536 in
set_option maxHeartbeats 40000000 in
theorem rm30 (l : Launch) (Z : State) (a0 : Array Value) (hw : ∀ d ∈ tables_1, d.before a0 Z = true) (ws : List Jvm.Cond) (p1 p2 cs : Int32) (G : Value) (h0 : Heap) (n0 : Nat) (GG : own_G Z h0 cs G) (HK : ∀ (b : Addr) (cl : Cell), Z.heap[b]? = some cl → h0[b]? = some cl) (H32 : Jvm.Lit.constHeld Z "com/example/usher_frames/usherframes/text/AsciiToLowerCasePinLaw" 32) (HCW : Jvm.Lit.compactW.before a0 Z = true) (hok : own_ok p1) (hlc : p2 = own_lc p1) :
    MetFree l (⟨"com/example/usher_frames/usherframes/text/AsciiToLowerCasePinLaw", "ok", "(CC)Z"⟩ : MethodName) (head1 (Jvm.Cond.code (⟨"com/example/usher_frames/usherframes/text/AsciiToLowerCasePinLaw", "ok", "(CC)Z"⟩ : MethodName) method_3_code 2 (some .boolean) :: ws) ({ frames := 4, cells := 2, slots := 108, locals := 54 } : Room)) (fun a U => a = #[.int p1, .int p2] ∧ (Z.Warmed39 U.vm ∧ own_LS Z U h0) ∧ U.heap = h0) (fun _ _ _ _ _ => True) (fun _ U o U' => ∃ v L, o = .returned v ∧ own_Q30 Z h0 n0 v U' L ∧ ReturnedEndW U o U' L ({ frames := 4, cells := 2, slots := 108, locals := 54 } : Room).cells ({ frames := 4, cells := 2, slots := 108, locals := 54 } : Room).slots) := by
  refine MetFree.of_bodySF (plainFor_of_name own_pn67) hisR ?_
  intro p e s m args below meth c s₁ Bd hml0 hP hK
  obtain ⟨rfl, ⟨hZ, hLS⟩, hh⟩ := hP
  have hx := Bd.exec
  have hby := Bd.bytes
  have hml : c.maxLocals = 2 := hml0
  have hown : s.vm.findClass "com/example/usher_frames/usherframes/text/AsciiToLowerCasePinLaw" = some m.cls := findClass_of_methodNamed Bd.named
  have hnm := (name_of_methodNamed Bd.named Bd.method).1
  have hlk : meth.locks = false := BodyLoose.notSynchronized Bd
  have X0 : Stand p l e ({ frames := 4, cells := 2, slots := 108, locals := 54 } : Room) s m #[.int p1, .int p2] below meth c s₁ [] 0 0 := Stand.of_body Bd
  have e0 : s₁.heap = h0 := by rw [← hh, Bd.state]; rfl
  have own_wS : ∀ d ∈ Bundle.stringAtoms, d.before a0 Z = true := fun d hd => hw d (own_wSm d hd)
  have hv := own_lcV hok
  show own_Go p e below (own_W2 s 2 108 (own_Q30 Z h0 n0)) (s₁.setTop (entryFrame m #[.int p1, .int p2] 2))
  rw [own_ef30]
  refine own_iloadN X0 hx (hb hby own_d30_0) (q := 1) rfl rfl ?_
  refine own_bipush X0 hx (v := (65 : Int32)) (hb hby own_d30_1) (q := 3) rfl rfl ?_
  refine own_icmpP X0 hx (hb hby own_d30_3) (cd := .lt) (x := p1) (y := (65 : Int32)) (pt := 31) (q := 6) (by decide) (by decide) rfl rfl (fun (c1 : p1 < (65 : Int32)) => ?_) (fun (c1 : ¬ p1 < (65 : Int32)) => ?_)
  · have hpe : p2 = p1 := by rw [hlc, hv, if_pos c1]
    refine own_iloadN X0 hx (hb hby own_d30_31) (q := 32) rfl rfl ?_
    refine own_iloadN X0 hx (hb hby own_d30_32) (q := 33) rfl rfl ?_
    refine own_icmpM X0 hx (hb hby own_d30_33) (cd := .ne) (x := p2) (y := p1) (pt := 40) (q := 36) (by decide) (by decide) rfl rfl (fun h => False.elim (h hpe)) (fun _ => ?_)
    refine own_iconst X0 hx (v := (1 : Int32)) (hb hby own_d30_36) (q := 37) rfl rfl ?_
    refine own_goto X0 hx (hb hby own_d30_37) (q := 41) (by decide) (by decide) ?_
    refine own_mono (fun o t h => own_EW2 (Q := fun v h L => v = some (.int (1 : Int32)) ∧ Fr n0 L ∧ h = h0) (fun v t L hW hq => ⟨hq.1, hq.2.1, by rw [hq.2.2]; exact Keep.refl _ _, by rw [hq.2.2]; exact hLS.mv hW⟩) h) ?_
    refine own_retN X0 hx hlk (t := .boolean) (by simp) Bd.returns (hb hby own_d30_41) ?_ (by decide) (by decide)
    exact ⟨rfl, Fr.nil n0, e0⟩
  refine own_iloadN X0 hx (hb hby own_d30_6) (q := 7) rfl rfl ?_
  refine own_bipush X0 hx (v := (90 : Int32)) (hb hby own_d30_7) (q := 9) rfl rfl ?_
  refine own_icmpP X0 hx (hb hby own_d30_9) (cd := .gt) (x := p1) (y := (90 : Int32)) (pt := 31) (q := 12) (by decide) (by decide) rfl rfl (fun (c2 : (90 : Int32) < p1) => ?_) (fun (c2 : ¬ (90 : Int32) < p1) => ?_)
  · have hpe : p2 = p1 := by rw [hlc, hv, if_neg c1, if_pos c2]
    refine own_iloadN X0 hx (hb hby own_d30_31) (q := 32) rfl rfl ?_
    refine own_iloadN X0 hx (hb hby own_d30_32) (q := 33) rfl rfl ?_
    refine own_icmpM X0 hx (hb hby own_d30_33) (cd := .ne) (x := p2) (y := p1) (pt := 40) (q := 36) (by decide) (by decide) rfl rfl (fun h => False.elim (h hpe)) (fun _ => ?_)
    refine own_iconst X0 hx (v := (1 : Int32)) (hb hby own_d30_36) (q := 37) rfl rfl ?_
    refine own_goto X0 hx (hb hby own_d30_37) (q := 41) (by decide) (by decide) ?_
    refine own_mono (fun o t h => own_EW2 (Q := fun v h L => v = some (.int (1 : Int32)) ∧ Fr n0 L ∧ h = h0) (fun v t L hW hq => ⟨hq.1, hq.2.1, by rw [hq.2.2]; exact Keep.refl _ _, by rw [hq.2.2]; exact hLS.mv hW⟩) h) ?_
    refine own_retN X0 hx hlk (t := .boolean) (by simp) Bd.returns (hb hby own_d30_41) ?_ (by decide) (by decide)
    exact ⟨rfl, Fr.nil n0, e0⟩
  have hpe : p2 = p1 + 32 := by rw [hlc, hv, if_neg c1, if_neg c2]
  obtain ⟨g0, ⟨g1, g2⟩, g3, g4⟩ := own_abcV c1 c2
  refine own_iloadN X0 hx (hb hby own_d30_12) (q := 13) rfl rfl ?_
  rcases hLS with I | ⟨a, b, Lt, Ea, Fc, Fv, A⟩
  · refine own_ldcL (s := s) (vm0 := s.vm) X0 hx hZ hown (own_h hw 215 rfl) own_wS e0 ((State.WarmedH.refl s).since 0) (Nat.zero_le _) (Fr.nil _) (by rw [hh]; exact HK) I (by simp) H32 HCW (z := 26) ⟨by decide, rfl⟩ (by decide) rfl (n := 104) (by decide) (by decide) (by decide) (by decide) (hb hby own_d30_13) (q := 15) rfl (fun a T1 h1 k1 b X1 e1 Ex hS kb hZ hown Ea Fc Fv A Lt => ?_)
    have GG1 := GG.ext Ex
    replace A : own_A Z h1 b .byte own_abc := A
    refine own_iloadN X1 hx (hb hby own_d30_15) (q := 16) rfl rfl ?_
    refine own_bipush X1 hx (v := (65 : Int32)) (hb hby own_d30_16) (q := 18) rfl rfl ?_
    refine own_isub X1 hx (hb hby own_d30_18) (q := 19) rfl ?_
    refine own_callVP X1 hx hZ hown (own_h hw 155 rfl) (own_h hw 113 rfl) (own_h hw 115 rfl) (own_h hw 115 rfl) (own_h hw 114 rfl) (own_h hw 3 rfl) (own_h hw 116 rfl) Ea (by decide) (rm20_0 l Z a0 hw [] a (p1 - (65 : Int32)) cs G b own_abc (26 : Int32) _ h1 GG1 Ea Fv Fc A g3 g4 rfl g0) own_pd27 rfl e1 (by rw [hml]; rfl) (argsL := [.int (p1 - (65 : Int32))]) (st := [.int p2]) rfl (W := 1) (Nat.le_of_eq rfl) (by decide) (by decide) (by decide) (by decide) (hb hby own_d30_19) (q := 22) rfl (fun T2 X2 e2 => ?_)
    rw [own_c0 g1 g2]
    refine own_icmpM X2 hx (hb hby own_d30_22) (cd := .ne) (x := p2) (y := p1 + 32) (pt := 29) (q := 25) (by decide) (by decide) rfl rfl (fun h => False.elim (h hpe)) (fun _ => ?_)
    refine own_iconst X2 hx (v := (1 : Int32)) (hb hby own_d30_25) (q := 26) rfl rfl ?_
    refine own_goto X2 hx (hb hby own_d30_26) (q := 30) (by decide) (by decide) ?_
    refine own_mono (fun o t h => own_EW2' hS (Q := fun v h L => v = some (.int (1 : Int32)) ∧ Fr n0 L ∧ h = h1) (fun v t L hW hq => ⟨⟨hq.1, hq.2.1, by rw [hq.2.2]; exact (Keep.refl _ _).ext Ex, Or.inr ⟨a, b, own_litMv Lt hW, by rw [hq.2.2]; exact ⟨Ea, Fc, Fv, A⟩⟩⟩, by rw [hq.2.2]; exact kb⟩) h) ?_
    refine own_retN X2 hx hlk (t := .boolean) (by simp) Bd.returns (hb hby own_d30_30) ?_ (by decide) (by decide)
    exact ⟨rfl, Fr.nil n0, e2⟩
  · refine own_ldcAg (s := s) (vm0 := s.vm) X0 hx hZ hown (own_h hw 215 rfl) Lt (hb hby own_d30_13) (q := 15) rfl ?_
    refine own_iloadN X0 hx (hb hby own_d30_15) (q := 16) rfl rfl ?_
    refine own_bipush X0 hx (v := (65 : Int32)) (hb hby own_d30_16) (q := 18) rfl rfl ?_
    refine own_isub X0 hx (hb hby own_d30_18) (q := 19) rfl ?_
    refine own_callVP X0 hx hZ hown (own_h hw 155 rfl) (own_h hw 113 rfl) (own_h hw 115 rfl) (own_h hw 115 rfl) (own_h hw 114 rfl) (own_h hw 3 rfl) (own_h hw 116 rfl) Ea (by decide) (rm20_0 l Z a0 hw [] a (p1 - (65 : Int32)) cs G b own_abc (26 : Int32) _ h0 GG Ea Fv Fc A g3 g4 rfl g0) own_pd27 rfl e0 (by rw [hml]; rfl) (argsL := [.int (p1 - (65 : Int32))]) (st := [.int p2]) rfl (W := 1) (Nat.le_of_eq rfl) (by decide) (by decide) (by decide) (by decide) (hb hby own_d30_19) (q := 22) rfl (fun T2 X2 e2 => ?_)
    rw [own_c0 g1 g2]
    refine own_icmpM X2 hx (hb hby own_d30_22) (cd := .ne) (x := p2) (y := p1 + 32) (pt := 29) (q := 25) (by decide) (by decide) rfl rfl (fun h => False.elim (h hpe)) (fun _ => ?_)
    refine own_iconst X2 hx (v := (1 : Int32)) (hb hby own_d30_25) (q := 26) rfl rfl ?_
    refine own_goto X2 hx (hb hby own_d30_26) (q := 30) (by decide) (by decide) ?_
    refine own_mono (fun o t h => own_EW2 (Q := fun v h L => v = some (.int (1 : Int32)) ∧ Fr n0 L ∧ h = h0) (fun v t L hW hq => ⟨hq.1, hq.2.1, by rw [hq.2.2]; exact Keep.refl _ _, Or.inr ⟨a, b, own_litMv Lt hW, by rw [hq.2.2]; exact ⟨Ea, Fc, Fv, A⟩⟩⟩) h) ?_
    refine own_retN X2 hx hlk (t := .boolean) (by simp) Bd.returns (hb hby own_d30_30) ?_ (by decide) (by decide)
    exact ⟨rfl, Fr.nil n0, e2⟩
theorem own_d2_8 : decode jdk_42_method_149_code 8 = .ok (.aload_n 0, 1) := by decide +kernel
theorem own_d2_9 : decode jdk_42_method_149_code 9 = .ok (.ldc 7, 2) := by decide +kernel
theorem own_d2_11 : decode jdk_42_method_149_code 11 = .ok (.getfield 9, 3) := by decide +kernel
theorem own_d2_14 : decode jdk_42_method_149_code 14 = .ok (.putfield 9, 3) := by decide +kernel
theorem own_d2_17 : decode jdk_42_method_149_code 17 = .ok (.aload_n 0, 1) := by decide +kernel
theorem own_d2_18 : decode jdk_42_method_149_code 18 = .ok (.ldc 7, 2) := by decide +kernel
theorem own_d2_20 : decode jdk_42_method_149_code 20 = .ok (.getfield 15, 3) := by decide +kernel
theorem own_d2_23 : decode jdk_42_method_149_code 23 = .ok (.putfield 15, 3) := by decide +kernel
theorem own_d2_26 : decode jdk_42_method_149_code 26 = .ok (.return_, 1) := by decide +kernel
theorem own_ef2_null_k0_k0 (m : MethodId) (a1 : Addr) (a2 : Addr) : entryFrame m #[.ref a1, .ref a2, .int (0 : Int32), .int (0 : Int32), .null] 6 = mkF m 0 #[.val (.ref a1), .val (.ref a2), .val (.int (0 : Int32)), .val (.int (0 : Int32)), .val .null, .unset] [] := by first | (simp [entryFrame, mkF, argsToLocals, Value.category]; done) | rfl
theorem own_neA {Z : State} {a0 : Array Value} {h : Heap} {a b : Addr} {ty : FieldType} {vs : List Value} {C : String} {n : Nat} (A : own_A Z h b ty vs) (E : Exa Z h a C) (wi : (Cond.instantiable C n).before a0 Z = true) : b ≠ a := fun e => by
  subst e
  obtain ⟨c1, ⟨a1, ⟨-, k1, a2, comp, a3⟩, -⟩, -⟩ := A
  obtain ⟨c2, k2, b1, b2, b3, -⟩ := E
  cases a1.symm.trans b1
  obtain ⟨t, kt, g1, g2, g3, g4, -⟩ := Cond.instantiable_spec wi
  cases b2.symm.trans g1
  cases a2.symm.trans g2
  rw [g3] at a3; cases a3
def own_QE (Z : State) (a1 : Addr) (h0 : Heap) (n0 : Nat) (v : Option Value) (t : State) (L : List Loc) : Prop := v = none ∧ Fr n0 L ∧ Keep h0 t.heap [a1] ∧ ∃ b, own_Str Z t.heap a1 b []
set_option maxRecDepth 65536 in
set_option maxHeartbeats 40000000 in
theorem rm2E (l : Launch) (Z : State) (a0 : Array Value) (hw : ∀ d ∈ tables_1, d.before a0 Z = true) (ws : List Jvm.Cond) (a1 a2 : Addr) (h0 : Heap) (n0 : Nat) (E1 : Exa Z h0 a1 "java/lang/String") (F2 : Fld Z h0 a1 "java/lang/String" "value" "[B" .null) (F3 : Fld Z h0 a1 "java/lang/String" "coder" "B" (.int (0 : Int32))) (Ga : n0 ≤ a1) (HK : ∀ (b : Addr) (cl : Cell), Z.heap[b]? = some cl → h0[b]? = some cl) (H7 : Jvm.Lit.constHeld Z "java/lang/String" 7) (HCW : Jvm.Lit.compactW.before a0 Z = true) :
    MetFree l (⟨"java/lang/String", "<init>", "([CIILjava/lang/Void;)V"⟩ : MethodName) (head1 (Jvm.Cond.code (⟨"java/lang/String", "<init>", "([CIILjava/lang/Void;)V"⟩ : MethodName) jdk_42_method_149_code 6 none :: ws) ({ frames := 1, cells := 2, slots := 4, locals := 12 } : Room)) (fun a U => a = #[.ref a1, .ref a2, .int (0 : Int32), .int (0 : Int32), .null] ∧ (Z.Warmed39 U.vm ∧ IB Z U.vm []) ∧ U.heap = h0) (fun _ _ _ _ _ => True) (fun _ U o U' => ∃ v L, o = .returned v ∧ own_QE Z a1 h0 n0 v U' L ∧ ReturnedEndW U o U' L ({ frames := 1, cells := 2, slots := 4, locals := 12 } : Room).cells ({ frames := 1, cells := 2, slots := 4, locals := 12 } : Room).slots) := by
  refine MetFree.of_bodySF (plainFor_of_name own_pn5) hisR ?_
  intro p e s m args below meth c s₁ Bd hml0 hP hK
  obtain ⟨rfl, ⟨hZ, hIB⟩, hh⟩ := hP
  have hx := Bd.exec
  have hby := Bd.bytes
  have hml : c.maxLocals = 6 := hml0
  have hown : s.vm.findClass "java/lang/String" = some m.cls := findClass_of_methodNamed Bd.named
  have hnm := (name_of_methodNamed Bd.named Bd.method).1
  have hlk : meth.locks = false := BodyLoose.notSynchronized Bd
  have X0 : Stand p l e ({ frames := 1, cells := 2, slots := 4, locals := 12 } : Room) s m #[.ref a1, .ref a2, .int (0 : Int32), .int (0 : Int32), .null] below meth c s₁ [] 0 0 := Stand.of_body Bd
  have e0 : s₁.heap = h0 := by rw [← hh, Bd.state]; rfl
  have own_wS : ∀ d ∈ Bundle.stringAtoms, d.before a0 Z = true := fun d hd => hw d (own_wSm d hd)
  show own_Go p e below (own_W2 s 2 4 (own_QE Z a1 h0 n0)) (s₁.setTop (entryFrame m #[.ref a1, .ref a2, .int (0 : Int32), .int (0 : Int32), .null] 6))
  rw [own_ef2_null_k0_k0]
  refine own_aloadN X0 hx (hb hby own_d2_0) (q := 1) rfl rfl rfl ?_
  refine own_initO X0 hx hZ hown (own_h hw 11 rfl) (own_h hw 12 rfl) (own_h hw 13 rfl) e0 (by rw [hml]; rfl) (by decide) (W := 0) (Nat.le_of_eq rfl) (by decide) (hb hby own_d2_1) (q := 4) rfl (fun T1 X1 e1 => ?_)
  refine own_iloadN X1 hx (hb hby own_d2_4) (q := 5) rfl rfl ?_
  refine own_if0M X1 hx (hb hby own_d2_5) (cd := .ne) (x := (0 : Int32)) (pt := 27) (q := 8) (by decide) (by decide) rfl rfl (fun h => False.elim (h ((by decide) : (0 : Int32) = (0 : Int32)))) (fun _ => ?_)
  refine own_aloadN X1 hx (hb hby own_d2_8) (q := 9) rfl rfl rfl ?_
  refine own_ldcL (s := s) (vm0 := s.vm) X1 hx hZ hown (own_h hw 14 rfl) own_wS e1 ((State.WarmedH.refl s).since 0) (Nat.zero_le _) (Fr.nil _) (by rw [hh]; exact HK) hIB (by simp) H7 HCW (vs := []) (z := 0) ⟨by decide, rfl⟩ (by decide) rfl (n := 0) (by decide) (by decide) (by decide) (by decide) (hb hby own_d2_9) (q := 11) rfl (fun a T2 h2 k1 b X2 e2 Ex hS kb hZ hown Ea Fc Fv A Lt => ?_)
  have E2 := Exa.ext Ex E1
  have G2 := Fld.ext Ex F2
  have G3 := Fld.ext Ex F3
  have hba := own_neA A E2 (own_h hw 2 rfl)
  refine own_getF X2 hx hZ hown (host := "") (Or.inl (own_h hw 20 rfl)) Via.refl e2 Fv (hb hby own_d2_11) (q := 14) rfl (fun T3 X3 e3 => ?_)
  refine own_putF X3 hx hZ hown (host := "") (Or.inl (own_h hw 20 rfl)) Via.refl e3 G2 E2 (Or.inr ⟨(own_h hw 16 rfl), rfl, hnm⟩) (own_h hw 2 rfl) (ty := (.array .byte)) (by decide) rfl rfl (hb hby own_d2_14) (q := 17) rfl (fun T4 h4 X4 e4 W4 => ?_)
  have E4 := Exa.wr W4 E2
  have V4 := Fld.same W4 G2
  have G4 := Fld.other W4 G3 (Or.inr (slot_ne (C := "java/lang/String") (Or.inr (own_h hw 17 rfl)) (Or.inr (own_h hw 16 rfl)) (by decide) (t := .byte) (t' := (.array .byte)) (by decide) (by decide)))
  have Fc4 := Fld.other W4 Fc (Or.inr (slot_ne (C := "java/lang/String") (Or.inr (own_h hw 17 rfl)) (Or.inr (own_h hw 16 rfl)) (by decide) (t := .byte) (t' := (.array .byte)) (by decide) (by decide)))
  have A4 := A.other W4 hba
  have N4 := Fr.snoc X4 (Fr.nil n0) Ga
  refine own_aloadN X4 hx (hb hby own_d2_17) (q := 18) rfl rfl rfl ?_
  refine own_ldcAg (s := s) (vm0 := T2.vm) X4 hx hZ hown (own_h hw 14 rfl) Lt (hb hby own_d2_18) (q := 20) rfl ?_
  refine own_getF X4 hx hZ hown (host := "") (Or.inl (own_h hw 21 rfl)) Via.refl e4 Fc4 (hb hby own_d2_20) (q := 23) rfl (fun T5 X5 e5 => ?_)
  refine own_putF X5 hx hZ hown (host := "") (Or.inl (own_h hw 21 rfl)) Via.refl e5 G4 E4 (Or.inr ⟨(own_h hw 17 rfl), rfl, hnm⟩) (own_h hw 2 rfl) (ty := .byte) (by decide) rfl rfl (hb hby own_d2_23) (q := 26) rfl (fun T6 h6 X6 e6 W6 => ?_)
  have E6 := Exa.wr W6 E4
  have V6 := Fld.other W6 V4 (Or.inr (slot_ne (C := "java/lang/String") (Or.inr (own_h hw 16 rfl)) (Or.inr (own_h hw 17 rfl)) (by decide) (t := (.array .byte)) (t' := .byte) (by decide) (by decide)))
  have C6 := Fld.same W6 G4
  have A6 := A4.other W6 hba
  have N6 := Fr.snoc X6 N4 Ga
  have K6 : Keep h0 h6 [a1] := ((Keep.ext (Keep.refl h0 [a1]) Ex).wr W4 (Or.inl (by simp))).wr W6 (Or.inl (by simp))
  have kb6 : k1 ≤ h6.size := W6.size ▸ W4.size ▸ kb
  refine own_mono (fun o t h => own_EW2' hS (Q := fun v h L => v = none ∧ Fr n0 L ∧ h = h6) (fun v t L hW hq => ⟨⟨hq.1, hq.2.1, by rw [hq.2.2]; exact K6, b, by rw [hq.2.2]; exact ⟨E6, V6, (fun u hu => by cases hu), Or.inl ⟨C6, A6, fun u hu => by cases hu⟩⟩⟩, by rw [hq.2.2]; exact kb6⟩) h) ?_
  refine own_retV X6 hx hlk (rest := []) Bd.returns (hb hby own_d2_26) ?_ (by decide) (by decide)
  exact ⟨rfl, N6, e6⟩
set_option maxRecDepth 65536 in
set_option maxHeartbeats 40000000 in
theorem rm1E (l : Launch) (Z : State) (a0 : Array Value) (hw : ∀ d ∈ tables_1, d.before a0 Z = true) {h0 : Heap} (ws : List Jvm.Cond) (a1 a2 : Addr) (V4 : own_A Z h0 a2 .char []) (n0 : Nat) (E1 : Exa Z h0 a1 "java/lang/String") (F2 : Fld Z h0 a1 "java/lang/String" "value" "[B" .null) (F3 : Fld Z h0 a1 "java/lang/String" "coder" "B" (.int (0 : Int32))) (Ga : n0 ≤ a1) (HK : ∀ (b : Addr) (cl : Cell), Z.heap[b]? = some cl → h0[b]? = some cl) (H7 : Jvm.Lit.constHeld Z "java/lang/String" 7) (HCW : Jvm.Lit.compactW.before a0 Z = true) :
    MetFree l (⟨"java/lang/String", "<init>", "([C)V"⟩ : MethodName) (head1 (Jvm.Cond.code (⟨"java/lang/String", "<init>", "([C)V"⟩ : MethodName) jdk_42_method_3_code 2 none :: ws) ({ frames := 2, cells := 2, slots := 4, locals := 29 } : Room)) (fun a U => a = #[.ref a1, .ref a2] ∧ (Z.Warmed39 U.vm ∧ IB Z U.vm []) ∧ U.heap = h0) (fun _ _ _ _ _ => True) (fun _ U o U' => ∃ v L, o = .returned v ∧ own_QE Z a1 h0 n0 v U' L ∧ ReturnedEndW U o U' L ({ frames := 2, cells := 2, slots := 4, locals := 29 } : Room).cells ({ frames := 2, cells := 2, slots := 4, locals := 29 } : Room).slots) := by
  refine MetFree.of_bodySF (plainFor_of_name own_pn5) hisR ?_
  intro p e s m args below meth c s₁ Bd hml0 hP hK
  obtain ⟨rfl, ⟨hZ, hIB⟩, hh⟩ := hP
  have hx := Bd.exec
  have hby := Bd.bytes
  have hml : c.maxLocals = 2 := hml0
  have hown : s.vm.findClass "java/lang/String" = some m.cls := findClass_of_methodNamed Bd.named
  have hnm := (name_of_methodNamed Bd.named Bd.method).1
  have hlk : meth.locks = false := BodyLoose.notSynchronized Bd
  have X0 : Stand p l e ({ frames := 2, cells := 2, slots := 4, locals := 29 } : Room) s m #[.ref a1, .ref a2] below meth c s₁ [] 0 0 := Stand.of_body Bd
  have e0 : s₁.heap = h0 := by rw [← hh, Bd.state]; rfl
  show own_Go p e below (own_W2 s 2 4 (own_QE Z a1 h0 n0)) (s₁.setTop (entryFrame m #[.ref a1, .ref a2] 2))
  rw [own_ef1]
  refine own_aloadN X0 hx (hb hby own_d1_0) (q := 1) rfl rfl rfl ?_
  refine own_aloadN X0 hx (hb hby own_d1_1) (q := 2) rfl rfl rfl ?_
  refine own_iconst X0 hx (v := (0 : Int32)) (hb hby own_d1_2) (q := 3) rfl rfl ?_
  refine own_aloadN X0 hx (hb hby own_d1_3) (q := 4) rfl rfl rfl ?_
  refine own_alen X0 hx hZ (n := (0 : Int32)) e0 V4 rfl (hb hby own_d1_4) (q := 5) rfl ?_
  refine own_aconstNull X0 hx (hb hby own_d1_5) (q := 6) rfl ?_
  refine own_callCW X0 hx hZ hown (PV := fun U => IB Z U.vm []) (fun U hU _ => own_IB hIB hU.interned_eq) rfl (own_h hw 7 rfl) (own_h hw 8 rfl) (own_h hw 3 rfl) (own_h hw 10 rfl) (by decide) (rm2E l Z a0 hw [] a1 a2 h0 n0 E1 F2 F3 Ga HK H7 HCW) own_pd13 rfl e0 (by rw [hml]; rfl) (argsL := [.ref a2, .int (0 : Int32), .int (0 : Int32), .null]) (st := []) rfl (W := 0) (Nat.le_of_eq rfl) (by decide) (by decide) (by decide) (by decide) (hb hby own_d1_6) (q := 9) rfl (fun v T' U' L X' S' hZ hown u1 u2 hQ => ?_)
  obtain ⟨rfl, N1, K1, b, S1⟩ := hQ
  rw [u2] at K1 S1
  refine own_mono (fun o t h => own_EW2' S' (Q := fun v h L => v = none ∧ Fr n0 L ∧ h = T'.heap) (fun v t L hW hq => ⟨⟨hq.1, hq.2.1, by rw [hq.2.2]; exact K1, b, by rw [hq.2.2]; exact S1⟩, by rw [hq.2.2]; exact Nat.le_refl _⟩) h) ?_
  refine own_retV X' hx hlk (rest := []) Bd.returns (hb hby own_d1_9) ?_ (by decide) (by decide)
  exact ⟨rfl, (Fr.nil n0).app N1, rfl⟩
theorem own_pd30 : parseMethodDescriptor "([C)V" = some ⟨[(.array .char)], none⟩ := by decide +kernel
section OwnInit
variable {p : Program} {l : Launch} {e : Env} {R : Room} {s : State} {m : MethodId} {args : Array Value} {below : List Frame} {meth : Method} {c : Code} {T : State} {locs : List Loc} {cells slots kc ks : Nat} {Q : Option Value → Heap → List Loc → Prop} {P : Outcome → State → Prop} {pc q : Nat} {Ls L' : Array Slot} {st : List Value}
theorem own_iniT1 (X : Stand p l e R s m args below meth c T locs cells slots) (hx : p.tables.exec = Jvm.exec) {Z : State} {a0 : Array Value} {h : Heap} {own : String} {index W : Nat} {a : Addr} {cs : Int32} {G : Value} (hZ : Z.Warmed39 s.vm) (hown : s.vm.findClass own = some m.cls) (hw : ∀ d ∈ tables_1, d.before a0 Z = true) {n0 : Nat} {cb : Addr} {u0 : Int32} (w1 : (Cond.methodLink own index (⟨"java/lang/String", "<init>", "([C)V"⟩ : MethodName)).before a0 Z = true) (eT : T.heap = h) (Zn : n0 ≤ h.size) (GG : own_G Z h cs G) (E : Exa Z h a "java/lang/String") (F2 : Fld Z h a "java/lang/String" "value" "[B" .null) (F3 : Fld Z h a "java/lang/String" "coder" "B" (.int (0 : Int32))) (A : own_A Z h cb .char [.int u0]) (Ga : n0 ≤ a) (nca : cb ≠ a) (ok : ∀ u ∈ [u0], own_ok u) (hml : Ls.size = c.maxLocals) (hW : (st.map fun v => v.category).sum ≤ W) (hf : 6 ≤ R.frames) (hl : W + 87 ≤ R.locals) (hc : cells + 2 ≤ R.cells) (hs : slots + 9 ≤ R.slots) (hd : decode c.code pc = .ok (.invokespecial index, 3)) (hq : pc + 3 = q) (K : ∀ T' L b, Stand p l e R s m args below meth c T' (locs ++ L) (cells + 2) (slots + 9) → Fr n0 L → Keep h T'.heap [a] → own_Str Z T'.heap a b [u0] → own_Go p e below P (T'.setTop (mkF m q Ls st))) : own_Go p e below P (T.setTop (mkF m pc Ls (.ref cb :: .ref a :: st))) := by
  have o_u0 := ok u0 (by simp)
  by_cases hH : (255 : Int32) < u0
  · refine own_callC X hx hZ hown rfl w1 (own_h hw 5 rfl) (own_h hw 3 rfl) (own_h hw 6 rfl) (by decide) (rm1_1H l Z a0 hw [] a cb cs G u0 h n0 Zn GG E F2 F3 A Ga nca o_u0.1 o_u0.2 hH) own_pd30 rfl eT hml (argsL := [.ref cb]) (st := st) rfl (W := W) hW (Nat.le_trans (by decide) hf) (by first | omega | (dsimp only; omega)) (by first | omega | (dsimp only; omega)) (by first | omega | (dsimp only; omega)) hd hq (fun v T' L X' hQ => ?_)
    obtain ⟨b, rfl, N, K1, hge, Eb, Ab, E1, G1, G2, -⟩ := hQ
    exact K T' L b (X'.more (by first | omega | (dsimp only; omega)) (by first | omega | (dsimp only; omega))) N K1 ⟨E1, G1, ok, Or.inr ⟨G2, Ab⟩⟩
  · have hH0 := hH
    refine own_callC X hx hZ hown rfl w1 (own_h hw 5 rfl) (own_h hw 3 rfl) (own_h hw 6 rfl) (by decide) (rm1_1L l Z a0 hw [] a cb cs G u0 h n0 Zn GG E F2 F3 A Ga nca hH o_u0.1 o_u0.2) own_pd30 rfl eT hml (argsL := [.ref cb]) (st := st) rfl (W := W) hW (Nat.le_trans (by decide) hf) (by first | omega | (dsimp only; omega)) (by first | omega | (dsimp only; omega)) (by first | omega | (dsimp only; omega)) hd hq (fun v T' L X' hQ => ?_)
    obtain ⟨b, rfl, N, K1, hge, Eb, Ab, E1, G1, G2, -⟩ := hQ
    refine K T' L b (X'.more (by first | omega | (dsimp only; omega)) (by first | omega | (dsimp only; omega))) N K1 ⟨E1, G1, ok, Or.inl ⟨G2, Ab, fun u hu => ?_⟩⟩
    simp only [List.mem_cons, List.not_mem_nil, or_false] at hu
    rcases hu with rfl
    · exact hH
theorem own_iniT2 (X : Stand p l e R s m args below meth c T locs cells slots) (hx : p.tables.exec = Jvm.exec) {Z : State} {a0 : Array Value} {h : Heap} {own : String} {index W : Nat} {a : Addr} {cs : Int32} {G : Value} (hZ : Z.Warmed39 s.vm) (hown : s.vm.findClass own = some m.cls) (hw : ∀ d ∈ tables_1, d.before a0 Z = true) {n0 : Nat} {cb : Addr} {u0 u1 : Int32} (w1 : (Cond.methodLink own index (⟨"java/lang/String", "<init>", "([C)V"⟩ : MethodName)).before a0 Z = true) (eT : T.heap = h) (Zn : n0 ≤ h.size) (GG : own_G Z h cs G) (E : Exa Z h a "java/lang/String") (F2 : Fld Z h a "java/lang/String" "value" "[B" .null) (F3 : Fld Z h a "java/lang/String" "coder" "B" (.int (0 : Int32))) (A : own_A Z h cb .char [.int u0, .int u1]) (Ga : n0 ≤ a) (nca : cb ≠ a) (ok : ∀ u ∈ [u0, u1], own_ok u) (hml : Ls.size = c.maxLocals) (hW : (st.map fun v => v.category).sum ≤ W) (hf : 6 ≤ R.frames) (hl : W + 87 ≤ R.locals) (hc : cells + 2 ≤ R.cells) (hs : slots + 9 ≤ R.slots) (hd : decode c.code pc = .ok (.invokespecial index, 3)) (hq : pc + 3 = q) (K : ∀ T' L b, Stand p l e R s m args below meth c T' (locs ++ L) (cells + 2) (slots + 9) → Fr n0 L → Keep h T'.heap [a] → own_Str Z T'.heap a b [u0, u1] → own_Go p e below P (T'.setTop (mkF m q Ls st))) : own_Go p e below P (T.setTop (mkF m pc Ls (.ref cb :: .ref a :: st))) := by
  have o_u0 := ok u0 (by simp)
  have o_u1 := ok u1 (by simp)
  by_cases hH : (255 : Int32) < u0 ∨ (255 : Int32) < u1
  · refine own_callC X hx hZ hown rfl w1 (own_h hw 5 rfl) (own_h hw 3 rfl) (own_h hw 6 rfl) (by decide) (rm1_2H l Z a0 hw [] a cb cs G u0 u1 h n0 Zn GG E F2 F3 A Ga nca o_u0.1 o_u0.2 o_u1.1 o_u1.2 hH) own_pd30 rfl eT hml (argsL := [.ref cb]) (st := st) rfl (W := W) hW (Nat.le_trans (by decide) hf) (by first | omega | (dsimp only; omega)) (by first | omega | (dsimp only; omega)) (by first | omega | (dsimp only; omega)) hd hq (fun v T' L X' hQ => ?_)
    obtain ⟨b, rfl, N, K1, hge, Eb, Ab, E1, G1, G2, -⟩ := hQ
    exact K T' L b (X'.more (by first | omega | (dsimp only; omega)) (by first | omega | (dsimp only; omega))) N K1 ⟨E1, G1, ok, Or.inr ⟨G2, Ab⟩⟩
  · simp only [not_or] at hH
    refine own_callC X hx hZ hown rfl w1 (own_h hw 5 rfl) (own_h hw 3 rfl) (own_h hw 6 rfl) (by decide) (rm1_2L l Z a0 hw [] a cb cs G u0 u1 h n0 Zn GG E F2 F3 A Ga nca hH.1 hH.2 o_u0.1 o_u0.2 o_u1.1 o_u1.2) own_pd30 rfl eT hml (argsL := [.ref cb]) (st := st) rfl (W := W) hW (Nat.le_trans (by decide) hf) (by first | omega | (dsimp only; omega)) (by first | omega | (dsimp only; omega)) (by first | omega | (dsimp only; omega)) hd hq (fun v T' L X' hQ => ?_)
    obtain ⟨b, rfl, N, K1, hge, Eb, Ab, E1, G1, G2, -⟩ := hQ
    refine K T' L b (X'.more (by first | omega | (dsimp only; omega)) (by first | omega | (dsimp only; omega))) N K1 ⟨E1, G1, ok, Or.inl ⟨G2, Ab, fun u hu => ?_⟩⟩
    simp only [List.mem_cons, List.not_mem_nil, or_false] at hu
    rcases hu with rfl | rfl
    · exact hH.1
    · exact hH.2
theorem own_iniT3 (X : Stand p l e R s m args below meth c T locs cells slots) (hx : p.tables.exec = Jvm.exec) {Z : State} {a0 : Array Value} {h : Heap} {own : String} {index W : Nat} {a : Addr} {cs : Int32} {G : Value} (hZ : Z.Warmed39 s.vm) (hown : s.vm.findClass own = some m.cls) (hw : ∀ d ∈ tables_1, d.before a0 Z = true) {n0 : Nat} {cb : Addr} {u0 u1 u2 : Int32} (w1 : (Cond.methodLink own index (⟨"java/lang/String", "<init>", "([C)V"⟩ : MethodName)).before a0 Z = true) (eT : T.heap = h) (Zn : n0 ≤ h.size) (GG : own_G Z h cs G) (E : Exa Z h a "java/lang/String") (F2 : Fld Z h a "java/lang/String" "value" "[B" .null) (F3 : Fld Z h a "java/lang/String" "coder" "B" (.int (0 : Int32))) (A : own_A Z h cb .char [.int u0, .int u1, .int u2]) (Ga : n0 ≤ a) (nca : cb ≠ a) (ok : ∀ u ∈ [u0, u1, u2], own_ok u) (hml : Ls.size = c.maxLocals) (hW : (st.map fun v => v.category).sum ≤ W) (hf : 6 ≤ R.frames) (hl : W + 87 ≤ R.locals) (hc : cells + 2 ≤ R.cells) (hs : slots + 9 ≤ R.slots) (hd : decode c.code pc = .ok (.invokespecial index, 3)) (hq : pc + 3 = q) (K : ∀ T' L b, Stand p l e R s m args below meth c T' (locs ++ L) (cells + 2) (slots + 9) → Fr n0 L → Keep h T'.heap [a] → own_Str Z T'.heap a b [u0, u1, u2] → own_Go p e below P (T'.setTop (mkF m q Ls st))) : own_Go p e below P (T.setTop (mkF m pc Ls (.ref cb :: .ref a :: st))) := by
  have o_u0 := ok u0 (by simp)
  have o_u1 := ok u1 (by simp)
  have o_u2 := ok u2 (by simp)
  by_cases hH : (255 : Int32) < u0 ∨ (255 : Int32) < u1 ∨ (255 : Int32) < u2
  · refine own_callC X hx hZ hown rfl w1 (own_h hw 5 rfl) (own_h hw 3 rfl) (own_h hw 6 rfl) (by decide) (rm1_3H l Z a0 hw [] a cb cs G u0 u1 u2 h n0 Zn GG E F2 F3 A Ga nca o_u0.1 o_u0.2 o_u1.1 o_u1.2 o_u2.1 o_u2.2 hH) own_pd30 rfl eT hml (argsL := [.ref cb]) (st := st) rfl (W := W) hW (Nat.le_trans (by decide) hf) (by first | omega | (dsimp only; omega)) (by first | omega | (dsimp only; omega)) (by first | omega | (dsimp only; omega)) hd hq (fun v T' L X' hQ => ?_)
    obtain ⟨b, rfl, N, K1, hge, Eb, Ab, E1, G1, G2, -⟩ := hQ
    exact K T' L b (X'.more (by first | omega | (dsimp only; omega)) (by first | omega | (dsimp only; omega))) N K1 ⟨E1, G1, ok, Or.inr ⟨G2, Ab⟩⟩
  · simp only [not_or] at hH
    refine own_callC X hx hZ hown rfl w1 (own_h hw 5 rfl) (own_h hw 3 rfl) (own_h hw 6 rfl) (by decide) (rm1_3L l Z a0 hw [] a cb cs G u0 u1 u2 h n0 Zn GG E F2 F3 A Ga nca hH.1 hH.2.1 hH.2.2 o_u0.1 o_u0.2 o_u1.1 o_u1.2 o_u2.1 o_u2.2) own_pd30 rfl eT hml (argsL := [.ref cb]) (st := st) rfl (W := W) hW (Nat.le_trans (by decide) hf) (by first | omega | (dsimp only; omega)) (by first | omega | (dsimp only; omega)) (by first | omega | (dsimp only; omega)) hd hq (fun v T' L X' hQ => ?_)
    obtain ⟨b, rfl, N, K1, hge, Eb, Ab, E1, G1, G2, -⟩ := hQ
    refine K T' L b (X'.more (by first | omega | (dsimp only; omega)) (by first | omega | (dsimp only; omega))) N K1 ⟨E1, G1, ok, Or.inl ⟨G2, Ab, fun u hu => ?_⟩⟩
    simp only [List.mem_cons, List.not_mem_nil, or_false] at hu
    rcases hu with rfl | rfl | rfl
    · exact hH.1
    · exact hH.2.1
    · exact hH.2.2
end OwnInit
theorem own_okI (x : Int32) : own_ok (x.toUInt32.toUInt16.toUInt32.toInt32) := by
  have := c_i2c x
  unfold own_ok
  rw [Int32.lt_iff_toInt_lt, Int32.lt_iff_toInt_lt]; simp only [Int32.reduceToInt]; omega
theorem own_k3 {x : Int32} (h0 : ¬ (x &&& (3 : Int32)) = (0 : Int32)) (h1 : ¬ (x &&& (3 : Int32)) = (1 : Int32)) (h2 : ¬ (x &&& (3 : Int32)) = (2 : Int32)) : (x &&& (3 : Int32)) = (3 : Int32) := by
  have h := c_mask x 3 2 (by decide) (by decide)
  simp only [← Int32.toInt_inj, h, Int32.reduceToInt] at *; omega
theorem own_staI {s : State} {args : Array Value} {C n d : String} {k : Int32} (h : (Cond.eq (Term.static C n d) (Term.int k)).before args s = true) (hi : (Cond.initializedFor C n d).before args s = true) : Sta s s.heap C n d (.int k) := by
  have h := Cond.before_iff.mp h
  obtain ⟨v, w, e1, e2, k1, k2⟩ := cmp_v (Or.inl h)
  obtain rfl : w = .int k := Option.some.inj (e2.symm.trans (Term.int_eval k))
  have e : v = .int k := by
    cases v <;> simp [Cond.value, e1, e2] at h
    rw [h]
  subst e
  exact Sta.start e1 (Or.inl hi)
theorem own_pd31 : parseMethodDescriptor "(Ljava/lang/String;)Ljava/lang/String;" = some ⟨[(.object "java/lang/String")], some (.object "java/lang/String")⟩ := by decide +kernel
theorem own_pd32 : parseMethodDescriptor "(CC)Z" = some ⟨[.char, .char], some .boolean⟩ := by decide +kernel
theorem own_ef0 (m : MethodId) (p1 : Int32) (p2 : Int32) (p3 : Int32) (p4 : Int32) : entryFrame m #[.int p1, .int p2, .int p3, .int p4] maxLocals = mkF m 0 #[.val (.int p1), .val (.int p2), .val (.int p3), .val (.int p4), .unset, .unset, .unset, .unset, .unset, .unset] [] := by first | (simp [entryFrame, mkF, argsToLocals, Value.category, maxLocals]; done) | rfl
def own_Q0 (n0 : Nat) (v : Option Value) (h : Heap) (L : List Loc) : Prop := v = some (.int 1) ∧ Fr n0 L
set_option maxRecDepth 65536 in
set_option maxHeartbeats 40000000 in
theorem rm0 (l : Launch) (Z : State) (a0 : Array Value) (hw : ∀ d ∈ tables_1, d.before a0 Z = true) (ws : List Jvm.Cond) (p1 : Int32) (p2 : Int32) (p3 : Int32) (p4 : Int32) (h0 : Heap) (n0 : Nat) (Z0 : n0 ≤ h0.size) {cs : Int32} {G : Value} (GG : own_G Z h0 cs G) (HZ : Z.heap = h0) (Hn : n0 = h0.size) (H32 : Jvm.Lit.constHeld Z "com/example/usher_frames/usherframes/text/AsciiToLowerCasePinLaw" 32) (H7 : Jvm.Lit.constHeld Z "java/lang/String" 7) (HCW : Jvm.Lit.compactW.before a0 Z = true) :
    MetFree l x (head1 (Jvm.Cond.code x code maxLocals ret :: ws) room_1) (fun a U => a = #[.int p1, .int p2, .int p3, .int p4] ∧ (Z.Warmed39 U.vm ∧ IB Z U.vm []) ∧ U.heap = h0) (fun _ _ _ _ _ => True) (fun _ U o U' => ∃ v L, o = .returned v ∧ own_Q0 n0 v U'.heap L ∧ FramedW U o U' L 32 2240) := by
  refine MetFree.of_bodySF (plainFor_of_name own_pn67) hisR ?_
  intro p e s m args below meth c s₁ Bd hml0 hP hK
  obtain ⟨rfl, ⟨hZ, hIB⟩, hh⟩ := hP
  have hx := Bd.exec
  have hby := Bd.bytes
  have hml : c.maxLocals = 10 := hml0
  have hown : s.vm.findClass "com/example/usher_frames/usherframes/text/AsciiToLowerCasePinLaw" = some m.cls := findClass_of_methodNamed Bd.named
  have hnm := (name_of_methodNamed Bd.named Bd.method).1
  have hlk : meth.locks = false := BodyLoose.notSynchronized Bd
  have X0 : Stand p l e room_1 s m #[.int p1, .int p2, .int p3, .int p4] below meth c s₁ [] 0 0 := Stand.of_body Bd
  have e0 : s₁.heap = h0 := by rw [← hh, Bd.state]; rfl
  have N0 := Fr.nil n0
  have own_wS : ∀ d ∈ Bundle.stringAtoms, d.before a0 Z = true := fun d hd => hw d (own_wSm d hd)
  show own_Go p e below (own_W s 32 2240 (own_Q0 n0)) (s₁.setTop (entryFrame m #[.int p1, .int p2, .int p3, .int p4] maxLocals))
  rw [own_ef0]
  refine own_iloadN X0 hx (hb hby at_0) (q := 1) rfl rfl ?_
  refine own_iconst X0 hx (v := (3 : Int32)) (hb hby at_1) (q := 2) rfl rfl ?_
  refine own_iand X0 hx (hb hby at_2) (q := 3) rfl ?_
  refine own_istore (L' := #[.val (.int p1), .val (.int p2), .val (.int p3), .val (.int p4), .val (.int (p1 &&& (3 : Int32))), .unset, .unset, .unset, .unset, .unset]) X0 hx (hb hby at_3) (q := 5) rfl rfl ?_
  refine own_iloadN X0 hx (hb hby at_5) (q := 6) rfl rfl ?_
  refine own_i2c X0 hx (hb hby at_6) (q := 7) rfl ?_
  refine own_istore (L' := #[.val (.int p1), .val (.int p2), .val (.int p3), .val (.int p4), .val (.int (p1 &&& (3 : Int32))), .val (.int p2.toUInt32.toUInt16.toUInt32.toInt32), .unset, .unset, .unset, .unset]) X0 hx (hb hby at_7) (q := 9) rfl rfl ?_
  refine own_iloadN X0 hx (hb hby at_9) (q := 10) rfl rfl ?_
  refine own_i2c X0 hx (hb hby at_10) (q := 11) rfl ?_
  refine own_istore (L' := #[.val (.int p1), .val (.int p2), .val (.int p3), .val (.int p4), .val (.int (p1 &&& (3 : Int32))), .val (.int p2.toUInt32.toUInt16.toUInt32.toInt32), .val (.int p3.toUInt32.toUInt16.toUInt32.toInt32), .unset, .unset, .unset]) X0 hx (hb hby at_11) (q := 13) rfl rfl ?_
  refine own_iloadN X0 hx (hb hby at_13) (q := 14) rfl rfl ?_
  refine own_i2c X0 hx (hb hby at_14) (q := 15) rfl ?_
  refine own_istore (L' := #[.val (.int p1), .val (.int p2), .val (.int p3), .val (.int p4), .val (.int (p1 &&& (3 : Int32))), .val (.int p2.toUInt32.toUInt16.toUInt32.toInt32), .val (.int p3.toUInt32.toUInt16.toUInt32.toInt32), .val (.int p4.toUInt32.toUInt16.toUInt32.toInt32), .unset, .unset]) X0 hx (hb hby at_15) (q := 17) rfl rfl ?_
  refine own_iload X0 hx (hb hby at_17) (q := 19) rfl rfl ?_
  refine own_if0M X0 hx (hb hby at_19) (cd := .ne) (x := p1 &&& (3 : Int32)) (pt := 30) (q := 22) (by decide) (by decide) rfl rfl (fun (c1 : ¬ ((p1 &&& (3 : Int32)) = (0 : Int32))) => ?_) (fun (c1 : (p1 &&& (3 : Int32)) = (0 : Int32)) => ?_)
  · refine own_iload X0 hx (hb hby at_30) (q := 32) rfl rfl ?_
    refine own_iconst X0 hx (v := (1 : Int32)) (hb hby at_32) (q := 33) rfl rfl ?_
    refine own_icmpM X0 hx (hb hby at_33) (cd := .ne) (x := p1 &&& (3 : Int32)) (y := (1 : Int32)) (pt := 49) (q := 36) (by decide) (by decide) rfl rfl (fun (c2 : ¬ ((p1 &&& (3 : Int32)) = (1 : Int32))) => ?_) (fun (c2 : (p1 &&& (3 : Int32)) = (1 : Int32)) => ?_)
    · refine own_iload X0 hx (hb hby at_49) (q := 51) rfl rfl ?_
      refine own_iconst X0 hx (v := (2 : Int32)) (hb hby at_51) (q := 52) rfl rfl ?_
      refine own_icmpM X0 hx (hb hby at_52) (cd := .ne) (x := p1 &&& (3 : Int32)) (y := (2 : Int32)) (pt := 73) (q := 55) (by decide) (by decide) rfl rfl (fun (c3 : ¬ ((p1 &&& (3 : Int32)) = (2 : Int32))) => ?_) (fun (c3 : (p1 &&& (3 : Int32)) = (2 : Int32)) => ?_)
      · refine own_iconst X0 hx (v := (3 : Int32)) (hb hby at_73) (q := 74) rfl rfl ?_
        refine own_newE X0 hx hZ (aty := .char) (ty := .char) (ad := "[C") (k := 3) (cap := 3) rfl rfl (own_h hw 0 rfl) e0 (by decide) (by decide) (by decide) (by decide) (by decide) (by decide) (hb hby at_74) (q := 76) rfl (fun T3000 h3003 a3004 X3001 e3002 g3005 E3006 A3007 E3008 => ?_)
        have L3009 := GG.ext E3006
        have Z3010 : n0 ≤ a3004 := by rw [g3005]; exact Z0
        have Z3011 : n0 ≤ h3003.size := Nat.le_trans Z0 E3006.1
        replace A3007 : own_A Z h3003 a3004 .char [.int (0 : Int32), .int (0 : Int32), .int (0 : Int32)] := A3007
        refine own_dup X3001 hx (hb hby at_76) (q := 77) rfl rfl ?_
        refine own_iconst X3001 hx (v := (0 : Int32)) (hb hby at_77) (q := 78) rfl rfl ?_
        refine own_iload X3001 hx (hb hby at_78) (q := 80) rfl rfl ?_
        refine own_castore X3001 hx hZ (i := 0) e3002 A3007 (by decide) (by decide) (Nat.le_of_ble_eq_true rfl) (hb hby at_80) (q := 81) rfl (fun T3012 h3015 X3013 e3014 W3016 A3017 => ?_)
        replace A3017 : own_A Z h3015 a3004 .char [.int (nar .char p2.toUInt32.toUInt16.toUInt32.toInt32), .int (0 : Int32), .int (0 : Int32)] := A3017
        have L3018 := L3009.wr W3016
        have E3019 := Exa.wr W3016 E3008
        have Z3020 : n0 ≤ h3015.size := W3016.size ▸ Z3011
        have N3021 := Fr.snoc X3013 N0 Z3010
        refine own_dup X3013 hx (hb hby at_81) (q := 82) rfl rfl ?_
        refine own_iconst X3013 hx (v := (1 : Int32)) (hb hby at_82) (q := 83) rfl rfl ?_
        refine own_iload X3013 hx (hb hby at_83) (q := 85) rfl rfl ?_
        refine own_castore X3013 hx hZ (i := 1) e3014 A3017 (by decide) (by decide) (Nat.le_of_ble_eq_true rfl) (hb hby at_85) (q := 86) rfl (fun T3022 h3025 X3023 e3024 W3026 A3027 => ?_)
        replace A3027 : own_A Z h3025 a3004 .char [.int (nar .char p2.toUInt32.toUInt16.toUInt32.toInt32), .int (nar .char p3.toUInt32.toUInt16.toUInt32.toInt32), .int (0 : Int32)] := A3027
        have L3028 := L3018.wr W3026
        have E3029 := Exa.wr W3026 E3019
        have Z3030 : n0 ≤ h3025.size := W3026.size ▸ Z3020
        have N3031 := Fr.snoc X3023 N3021 Z3010
        refine own_dup X3023 hx (hb hby at_86) (q := 87) rfl rfl ?_
        refine own_iconst X3023 hx (v := (2 : Int32)) (hb hby at_87) (q := 88) rfl rfl ?_
        refine own_iload X3023 hx (hb hby at_88) (q := 90) rfl rfl ?_
        refine own_castore X3023 hx hZ (i := 2) e3024 A3027 (by decide) (by decide) (Nat.le_of_ble_eq_true rfl) (hb hby at_90) (q := 91) rfl (fun T3032 h3035 X3033 e3034 W3036 A3037 => ?_)
        replace A3037 : own_A Z h3035 a3004 .char [.int (nar .char p2.toUInt32.toUInt16.toUInt32.toInt32), .int (nar .char p3.toUInt32.toUInt16.toUInt32.toInt32), .int (nar .char p4.toUInt32.toUInt16.toUInt32.toInt32)] := A3037
        have L3038 := L3028.wr W3036
        have E3039 := Exa.wr W3036 E3029
        have Z3040 : n0 ≤ h3035.size := W3036.size ▸ Z3030
        have N3041 := Fr.snoc X3033 N3031 Z3010
        refine own_astore (L' := #[.val (.int p1), .val (.int p2), .val (.int p3), .val (.int p4), .val (.int (p1 &&& (3 : Int32))), .val (.int p2.toUInt32.toUInt16.toUInt32.toInt32), .val (.int p3.toUInt32.toUInt16.toUInt32.toInt32), .val (.int p4.toUInt32.toUInt16.toUInt32.toInt32), .val (.ref a3004), .unset]) X3033 hx (hb hby at_91) (q := 93) rfl rfl rfl ?_
        refine own_new X3033 hx hZ hown (own_h hw 1 rfl) (own_h hw 2 rfl) (own_h hw 3 rfl) e3034 (hb hby at_93) (by decide) (by decide) (q := 96) rfl (fun T3042 h3045 a3046 X3043 e3044 g3047 E3048 A3049 D3050 => ?_)
        have L3051 := L3038.ext E3048
        have E3052 := Exa.ext E3048 E3039
        have A3053 := A3037.ext E3048
        have ne3054 : a3004 ≠ a3046 := by rw [g3047]; exact Nat.ne_of_lt A3037.lt
        have Z3055 : n0 ≤ a3046 := by rw [g3047]; exact Z3040
        have Z3056 : n0 ≤ h3045.size := Nat.le_trans Z3040 E3048.1
        have F3057 : Fld Z h3045 a3046 "java/lang/String" "value" "[B" (.null) := D3050 (Or.inr (own_h hw 16 rfl)) (ty := (.array .byte)) (by decide)
        have F3058 : Fld Z h3045 a3046 "java/lang/String" "coder" "B" (.int (0 : Int32)) := D3050 (Or.inr (own_h hw 17 rfl)) (ty := .byte) (by decide)
        refine own_dup X3043 hx (hb hby at_96) (q := 97) rfl rfl ?_
        refine own_aload X3043 hx (hb hby at_97) (q := 99) rfl rfl rfl ?_
        rw [own_nar (own_okI p2), own_nar (own_okI p3), own_nar (own_okI p4)] at A3053
        refine own_iniT3 X3043 hx hZ hown hw (W := 1) (own_h hw 4 rfl) e3044 Z3056 L3051 A3049 F3057 F3058 A3053 Z3055 ne3054 (fun u hu => by simp only [List.mem_cons, List.not_mem_nil, or_false] at hu; rcases hu with rfl | rfl | rfl <;> exact own_okI _) (by rw [hml]; rfl) (Nat.le_of_eq rfl) (by decide) (by decide) (by decide) (by decide) (hb hby at_99) (q := 102) rfl (fun T3059 L3061 b3065 X3060 N3062 K3063 S3064 => ?_)
        have N3066 := Fr.app N3041 N3062
        have G3067 := L3051.keep K3063 (allS (own_exaPlain A3049) all0)
        have Z3068 : n0 ≤ T3059.heap.size := Nat.le_trans Z3056 K3063.1
        show own_Go p e below (own_W s 32 2240 (own_Q0 n0)) (T3059.setTop (mkF m 102 #[.val (.int p1), .val (.int p2), .val (.int p3), .val (.int p4), .val (.int (p1 &&& (3 : Int32))), .val (.int p2.toUInt32.toUInt16.toUInt32.toInt32), .val (.int p3.toUInt32.toUInt16.toUInt32.toInt32), .val (.int p4.toUInt32.toUInt16.toUInt32.toInt32), .val (.ref a3004), .unset] [.ref a3046]))
        refine own_callS X3060 hx hZ hown (own_h hw 22 rfl) (own_h hw 23 rfl) (own_h hw 24 rfl) (own_h hw 25 rfl) (by decide) (rm4 l Z a0 hw [] a3046 b3065 [p2.toUInt32.toUInt16.toUInt32.toInt32, p3.toUInt32.toUInt16.toUInt32.toInt32, p4.toUInt32.toUInt16.toUInt32.toInt32] cs G T3059.heap n0 Z3068 G3067 S3064 (Nat.le_of_ble_eq_true rfl)) own_pd31 rfl rfl (by rw [hml]; rfl) (argsL := [.ref a3046]) (st := []) rfl (W := 0) (Nat.le_of_eq rfl) (by decide) (by decide) (by decide) (by decide) (hb hby at_102) (q := 105) rfl (fun v3069 T3070 L3071 X3072 hQ3073 => ?_)
        obtain ⟨a3074, b3075, rfl, N3076, K3077, S3078⟩ := hQ3073
        have N3079 := Fr.app N3066 N3076
        have G3080 := G3067.keep K3077 all0
        have Z3081 : n0 ≤ T3070.heap.size := Nat.le_trans Z3068 K3077.1
        replace S3078 : own_Str Z T3070.heap a3074 b3075 [own_lc (p2.toUInt32.toUInt16.toUInt32.toInt32), own_lc (p3.toUInt32.toUInt16.toUInt32.toInt32), own_lc (p4.toUInt32.toUInt16.toUInt32.toInt32)] := S3078
        show own_Go p e below (own_W s 32 2240 (own_Q0 n0)) (T3070.setTop (mkF m 105 #[.val (.int p1), .val (.int p2), .val (.int p3), .val (.int p4), .val (.int (p1 &&& (3 : Int32))), .val (.int p2.toUInt32.toUInt16.toUInt32.toInt32), .val (.int p3.toUInt32.toUInt16.toUInt32.toInt32), .val (.int p4.toUInt32.toUInt16.toUInt32.toInt32), .val (.ref a3004), .unset] [.ref a3074]))
        refine own_astore (L' := #[.val (.int p1), .val (.int p2), .val (.int p3), .val (.int p4), .val (.int (p1 &&& (3 : Int32))), .val (.int p2.toUInt32.toUInt16.toUInt32.toInt32), .val (.int p3.toUInt32.toUInt16.toUInt32.toInt32), .val (.int p4.toUInt32.toUInt16.toUInt32.toInt32), .val (.ref a3004), .val (.ref a3074)]) X3072 hx (hb hby at_105) (q := 107) rfl rfl rfl ?_
        refine own_aload X3072 hx (hb hby at_107) (q := 109) rfl rfl rfl ?_
        refine own_nullN X3072 hx (hb hby at_109) (q := 112) rfl ?_
        refine own_aload X3072 hx (hb hby at_112) (q := 114) rfl rfl rfl ?_
        refine own_lenT X3072 hx hZ hown hw (W := 0) (own_h hw 101 rfl) rfl G3080 S3078 (Nat.le_of_ble_eq_true rfl) (by rw [hml]; rfl) (Nat.le_of_eq rfl) (by decide) (by decide) (by decide) (by decide) (hb hby at_114) (q := 117) rfl (fun T3082 X3083 e3084 => ?_)
        show own_Go p e below (own_W s 32 2240 (own_Q0 n0)) (T3082.setTop (mkF m 117 #[.val (.int p1), .val (.int p2), .val (.int p3), .val (.int p4), .val (.int (p1 &&& (3 : Int32))), .val (.int p2.toUInt32.toUInt16.toUInt32.toInt32), .val (.int p3.toUInt32.toUInt16.toUInt32.toInt32), .val (.int p4.toUInt32.toUInt16.toUInt32.toInt32), .val (.ref a3004), .val (.ref a3074)] [.int (3 : Int32)]))
        refine own_iload X3083 hx (hb hby at_117) (q := 119) rfl rfl ?_
        rw [(own_k3 c1 c2 c3)]
        refine own_icmpP X3083 hx (hb hby at_119) (cd := .eq) (x := (3 : Int32)) (y := (3 : Int32)) (pt := 124) (q := 122) (by decide) (by decide) rfl rfl (fun _ => ?_) (fun h => False.elim (h ((by decide) : (3 : Int32) = (3 : Int32))))
        refine own_iload X3083 hx (hb hby at_124) (q := 126) rfl rfl ?_
        refine own_iconst X3083 hx (v := (1 : Int32)) (hb hby at_126) (q := 127) rfl rfl ?_
        refine own_icmpP X3083 hx (hb hby at_127) (cd := .lt) (x := (3 : Int32)) (y := (1 : Int32)) (pt := 146) (q := 130) (by decide) (by decide) rfl rfl (fun h => False.elim (((by decide) : ¬ ((3 : Int32) < (1 : Int32))) h)) (fun _ => ?_)
        refine own_iload X3083 hx (hb hby at_130) (q := 132) rfl rfl ?_
        refine own_aload X3083 hx (hb hby at_132) (q := 134) rfl rfl rfl ?_
        refine own_iconst X3083 hx (v := (0 : Int32)) (hb hby at_134) (q := 135) rfl rfl ?_
        refine own_chT (i := 0) (u := own_lc (p2.toUInt32.toUInt16.toUInt32.toInt32)) X3083 hx hZ hown hw (W := 1) (own_h hw 155 rfl) e3084 G3080 S3078 (Nat.le_of_ble_eq_true rfl) rfl (by rw [hml]; rfl) (Nat.le_of_eq rfl) (by decide) (by decide) (by decide) (by decide) (hb hby at_135) (q := 138) rfl (fun T3085 X3086 e3087 => ?_)
        have HK3102 : ∀ (b : Addr) (cl : Cell), Z.heap[b]? = some cl → T3070.heap[b]? = some cl := fun b cl q => by
          rw [← e3087]
          exact oldF X3086 (by show Fr s.heap.size _; rw [hh, ← Hn]; exact N3079) b cl (by show s.heap[b]? = _; rw [hh, ← HZ]; exact q)
        refine own_callSW X3086 hx hZ hown (PV := fun U => own_LS Z U T3070.heap) (fun U hU _ => (Or.inl (own_IB hIB hU.interned_eq))) (own_h hw 156 rfl) (own_h hw 157 rfl) (own_h hw 158 rfl) (own_h hw 159 rfl) (by decide) (rm30 l Z a0 hw [] p2.toUInt32.toUInt16.toUInt32.toInt32 (own_lc (p2.toUInt32.toUInt16.toUInt32.toInt32)) cs G T3070.heap n0 G3080 HK3102 H32 HCW (own_okI _) rfl) own_pd32 rfl e3087 (by rw [hml]; rfl) (argsL := [.int p2.toUInt32.toUInt16.toUInt32.toInt32, .int (own_lc (p2.toUInt32.toUInt16.toUInt32.toInt32))]) (st := []) rfl (W := 0) (Nat.le_of_eq rfl) (by decide) (by decide) (by decide) (by decide) (hb hby at_138) (q := 141) rfl (fun v3088 T3089 U3090 L3091 X3092 hS3093 hZ hown u3094 u3095 hQ3096 => ?_)
        obtain ⟨rfl, N3097, K3098, LS3099⟩ := hQ3096
        rw [u3095] at K3098 LS3099
        replace LS3099 : own_LS Z (s.setVm T3089.vm) T3089.heap := LS3099.vm u3094
        have N3100 := Fr.app N3079 N3097
        replace X3092 : Stand p l e room_1 (s.setVm T3089.vm) m _ below meth c T3089 _ _ _ := X3092
        replace hZ : Z.Warmed39 (s.setVm T3089.vm).vm := hZ
        replace hown : (s.setVm T3089.vm).vm.findClass "com/example/usher_frames/usherframes/text/AsciiToLowerCasePinLaw" = some m.cls := hown
        have G3101 := G3080.keep K3098 all0
        have S3105 := S3078.keep K3098 nin0 nin0
        have Z3103 : n0 ≤ T3089.heap.size := Nat.le_trans Z3081 K3098.1
        show own_Go p e below (own_W s 32 2240 (own_Q0 n0)) (T3089.setTop (mkF m 141 #[.val (.int p1), .val (.int p2), .val (.int p3), .val (.int p4), .val (.int (3 : Int32)), .val (.int p2.toUInt32.toUInt16.toUInt32.toInt32), .val (.int p3.toUInt32.toUInt16.toUInt32.toInt32), .val (.int p4.toUInt32.toUInt16.toUInt32.toInt32), .val (.ref a3004), .val (.ref a3074)] [.int (1 : Int32)]))
        refine own_if0M X3092 hx (hb hby at_141) (cd := .ne) (x := (1 : Int32)) (pt := 146) (q := 144) (by decide) (by decide) rfl rfl (fun _ => ?_) (fun h => False.elim (((by decide) : ¬ ((1 : Int32) = (0 : Int32))) h))
        refine own_iload X3092 hx (hb hby at_146) (q := 148) rfl rfl ?_
        refine own_iconst X3092 hx (v := (2 : Int32)) (hb hby at_148) (q := 149) rfl rfl ?_
        refine own_icmpP X3092 hx (hb hby at_149) (cd := .lt) (x := (3 : Int32)) (y := (2 : Int32)) (pt := 168) (q := 152) (by decide) (by decide) rfl rfl (fun h => False.elim (((by decide) : ¬ ((3 : Int32) < (2 : Int32))) h)) (fun _ => ?_)
        refine own_iload X3092 hx (hb hby at_152) (q := 154) rfl rfl ?_
        refine own_aload X3092 hx (hb hby at_154) (q := 156) rfl rfl rfl ?_
        refine own_iconst X3092 hx (v := (1 : Int32)) (hb hby at_156) (q := 157) rfl rfl ?_
        refine own_chT (i := 1) (u := own_lc (p3.toUInt32.toUInt16.toUInt32.toInt32)) X3092 hx hZ hown hw (W := 1) (own_h hw 155 rfl) rfl G3101 S3105 (Nat.le_of_ble_eq_true rfl) rfl (by rw [hml]; rfl) (Nat.le_of_eq rfl) (by decide) (by decide) (by decide) (by decide) (hb hby at_157) (q := 160) rfl (fun T3106 X3107 e3108 => ?_)
        have HK3123 : ∀ (b : Addr) (cl : Cell), Z.heap[b]? = some cl → T3089.heap[b]? = some cl := fun b cl q => by
          rw [← e3108]
          exact oldF X3107 (by show Fr s.heap.size _; rw [hh, ← Hn]; exact N3100) b cl (by show s.heap[b]? = _; rw [hh, ← HZ]; exact q)
        refine own_callSW X3107 hx hZ hown (PV := fun U => own_LS Z U T3089.heap) (fun U hU _ => (LS3099.mv hU)) (own_h hw 156 rfl) (own_h hw 157 rfl) (own_h hw 158 rfl) (own_h hw 159 rfl) (by decide) (rm30 l Z a0 hw [] p3.toUInt32.toUInt16.toUInt32.toInt32 (own_lc (p3.toUInt32.toUInt16.toUInt32.toInt32)) cs G T3089.heap n0 G3101 HK3123 H32 HCW (own_okI _) rfl) own_pd32 rfl e3108 (by rw [hml]; rfl) (argsL := [.int p3.toUInt32.toUInt16.toUInt32.toInt32, .int (own_lc (p3.toUInt32.toUInt16.toUInt32.toInt32))]) (st := []) rfl (W := 0) (Nat.le_of_eq rfl) (by decide) (by decide) (by decide) (by decide) (hb hby at_160) (q := 163) rfl (fun v3109 T3110 U3111 L3112 X3113 hS3114 hZ hown u3115 u3116 hQ3117 => ?_)
        obtain ⟨rfl, N3118, K3119, LS3120⟩ := hQ3117
        rw [u3116] at K3119 LS3120
        replace LS3120 : own_LS Z (s.setVm T3110.vm) T3110.heap := LS3120.vm u3115
        have N3121 := Fr.app N3100 N3118
        have hS3125 : s.Since T3110.vm T3110.heap.size := State.Since.trans hS3093 hS3114 (Nat.le_trans (Nat.le_refl _) K3119.1)
        replace X3113 : Stand p l e room_1 (s.setVm T3110.vm) m _ below meth c T3110 _ _ _ := X3113
        replace hZ : Z.Warmed39 (s.setVm T3110.vm).vm := hZ
        replace hown : (s.setVm T3110.vm).vm.findClass "com/example/usher_frames/usherframes/text/AsciiToLowerCasePinLaw" = some m.cls := hown
        have G3122 := G3101.keep K3119 all0
        have S3126 := S3105.keep K3119 nin0 nin0
        have Z3124 : n0 ≤ T3110.heap.size := Nat.le_trans Z3103 K3119.1
        show own_Go p e below (own_W s 32 2240 (own_Q0 n0)) (T3110.setTop (mkF m 163 #[.val (.int p1), .val (.int p2), .val (.int p3), .val (.int p4), .val (.int (3 : Int32)), .val (.int p2.toUInt32.toUInt16.toUInt32.toInt32), .val (.int p3.toUInt32.toUInt16.toUInt32.toInt32), .val (.int p4.toUInt32.toUInt16.toUInt32.toInt32), .val (.ref a3004), .val (.ref a3074)] [.int (1 : Int32)]))
        refine own_if0M X3113 hx (hb hby at_163) (cd := .ne) (x := (1 : Int32)) (pt := 168) (q := 166) (by decide) (by decide) rfl rfl (fun _ => ?_) (fun h => False.elim (((by decide) : ¬ ((1 : Int32) = (0 : Int32))) h))
        refine own_iload X3113 hx (hb hby at_168) (q := 170) rfl rfl ?_
        refine own_iconst X3113 hx (v := (3 : Int32)) (hb hby at_170) (q := 171) rfl rfl ?_
        refine own_icmpP X3113 hx (hb hby at_171) (cd := .lt) (x := (3 : Int32)) (y := (3 : Int32)) (pt := 190) (q := 174) (by decide) (by decide) rfl rfl (fun h => False.elim (((by decide) : ¬ ((3 : Int32) < (3 : Int32))) h)) (fun _ => ?_)
        refine own_iload X3113 hx (hb hby at_174) (q := 176) rfl rfl ?_
        refine own_aload X3113 hx (hb hby at_176) (q := 178) rfl rfl rfl ?_
        refine own_iconst X3113 hx (v := (2 : Int32)) (hb hby at_178) (q := 179) rfl rfl ?_
        refine own_chT (i := 2) (u := own_lc (p4.toUInt32.toUInt16.toUInt32.toInt32)) X3113 hx hZ hown hw (W := 1) (own_h hw 155 rfl) rfl G3122 S3126 (Nat.le_of_ble_eq_true rfl) rfl (by rw [hml]; rfl) (Nat.le_of_eq rfl) (by decide) (by decide) (by decide) (by decide) (hb hby at_179) (q := 182) rfl (fun T3127 X3128 e3129 => ?_)
        have HK3144 : ∀ (b : Addr) (cl : Cell), Z.heap[b]? = some cl → T3110.heap[b]? = some cl := fun b cl q => by
          rw [← e3129]
          exact oldF X3128 (by show Fr s.heap.size _; rw [hh, ← Hn]; exact N3121) b cl (by show s.heap[b]? = _; rw [hh, ← HZ]; exact q)
        refine own_callSW X3128 hx hZ hown (PV := fun U => own_LS Z U T3110.heap) (fun U hU _ => (LS3120.mv hU)) (own_h hw 156 rfl) (own_h hw 157 rfl) (own_h hw 158 rfl) (own_h hw 159 rfl) (by decide) (rm30 l Z a0 hw [] p4.toUInt32.toUInt16.toUInt32.toInt32 (own_lc (p4.toUInt32.toUInt16.toUInt32.toInt32)) cs G T3110.heap n0 G3122 HK3144 H32 HCW (own_okI _) rfl) own_pd32 rfl e3129 (by rw [hml]; rfl) (argsL := [.int p4.toUInt32.toUInt16.toUInt32.toInt32, .int (own_lc (p4.toUInt32.toUInt16.toUInt32.toInt32))]) (st := []) rfl (W := 0) (Nat.le_of_eq rfl) (by decide) (by decide) (by decide) (by decide) (hb hby at_182) (q := 185) rfl (fun v3130 T3131 U3132 L3133 X3134 hS3135 hZ hown u3136 u3137 hQ3138 => ?_)
        obtain ⟨rfl, N3139, K3140, LS3141⟩ := hQ3138
        rw [u3137] at K3140 LS3141
        replace LS3141 : own_LS Z (s.setVm T3131.vm) T3131.heap := LS3141.vm u3136
        have N3142 := Fr.app N3121 N3139
        have hS3146 : s.Since T3131.vm T3131.heap.size := State.Since.trans hS3125 hS3135 (Nat.le_trans (Nat.le_refl _) K3140.1)
        replace X3134 : Stand p l e room_1 (s.setVm T3131.vm) m _ below meth c T3131 _ _ _ := X3134
        replace hZ : Z.Warmed39 (s.setVm T3131.vm).vm := hZ
        replace hown : (s.setVm T3131.vm).vm.findClass "com/example/usher_frames/usherframes/text/AsciiToLowerCasePinLaw" = some m.cls := hown
        have G3143 := G3122.keep K3140 all0
        have S3147 := S3126.keep K3140 nin0 nin0
        have Z3145 : n0 ≤ T3131.heap.size := Nat.le_trans Z3124 K3140.1
        show own_Go p e below (own_W s 32 2240 (own_Q0 n0)) (T3131.setTop (mkF m 185 #[.val (.int p1), .val (.int p2), .val (.int p3), .val (.int p4), .val (.int (3 : Int32)), .val (.int p2.toUInt32.toUInt16.toUInt32.toInt32), .val (.int p3.toUInt32.toUInt16.toUInt32.toInt32), .val (.int p4.toUInt32.toUInt16.toUInt32.toInt32), .val (.ref a3004), .val (.ref a3074)] [.int (1 : Int32)]))
        refine own_if0M X3134 hx (hb hby at_185) (cd := .ne) (x := (1 : Int32)) (pt := 190) (q := 188) (by decide) (by decide) rfl rfl (fun _ => ?_) (fun h => False.elim (((by decide) : ¬ ((1 : Int32) = (0 : Int32))) h))
        refine own_iconst X3134 hx (v := (1 : Int32)) (hb hby at_190) (q := 191) rfl rfl ?_
        refine own_mono (fun o t h => own_EW' hS3146 h) ?_
        refine own_retN X3134 hx hlk (t := .boolean) (by simp) Bd.returns (hb hby at_191) ?_ (by decide) (by decide)
        exact ⟨⟨rfl, N3142⟩, (Nat.le_refl _)⟩
      · refine own_iconst X0 hx (v := (2 : Int32)) (hb hby at_55) (q := 56) rfl rfl ?_
        refine own_newE X0 hx hZ (aty := .char) (ty := .char) (ad := "[C") (k := 2) (cap := 2) rfl rfl (own_h hw 0 rfl) e0 (by decide) (by decide) (by decide) (by decide) (by decide) (by decide) (hb hby at_56) (q := 58) rfl (fun T3148 h3151 a3152 X3149 e3150 g3153 E3154 A3155 E3156 => ?_)
        have L3157 := GG.ext E3154
        have Z3158 : n0 ≤ a3152 := by rw [g3153]; exact Z0
        have Z3159 : n0 ≤ h3151.size := Nat.le_trans Z0 E3154.1
        replace A3155 : own_A Z h3151 a3152 .char [.int (0 : Int32), .int (0 : Int32)] := A3155
        refine own_dup X3149 hx (hb hby at_58) (q := 59) rfl rfl ?_
        refine own_iconst X3149 hx (v := (0 : Int32)) (hb hby at_59) (q := 60) rfl rfl ?_
        refine own_iload X3149 hx (hb hby at_60) (q := 62) rfl rfl ?_
        refine own_castore X3149 hx hZ (i := 0) e3150 A3155 (by decide) (by decide) (Nat.le_of_ble_eq_true rfl) (hb hby at_62) (q := 63) rfl (fun T3160 h3163 X3161 e3162 W3164 A3165 => ?_)
        replace A3165 : own_A Z h3163 a3152 .char [.int (nar .char p2.toUInt32.toUInt16.toUInt32.toInt32), .int (0 : Int32)] := A3165
        have L3166 := L3157.wr W3164
        have E3167 := Exa.wr W3164 E3156
        have Z3168 : n0 ≤ h3163.size := W3164.size ▸ Z3159
        have N3169 := Fr.snoc X3161 N0 Z3158
        refine own_dup X3161 hx (hb hby at_63) (q := 64) rfl rfl ?_
        refine own_iconst X3161 hx (v := (1 : Int32)) (hb hby at_64) (q := 65) rfl rfl ?_
        refine own_iload X3161 hx (hb hby at_65) (q := 67) rfl rfl ?_
        refine own_castore X3161 hx hZ (i := 1) e3162 A3165 (by decide) (by decide) (Nat.le_of_ble_eq_true rfl) (hb hby at_67) (q := 68) rfl (fun T3170 h3173 X3171 e3172 W3174 A3175 => ?_)
        replace A3175 : own_A Z h3173 a3152 .char [.int (nar .char p2.toUInt32.toUInt16.toUInt32.toInt32), .int (nar .char p3.toUInt32.toUInt16.toUInt32.toInt32)] := A3175
        have L3176 := L3166.wr W3174
        have E3177 := Exa.wr W3174 E3167
        have Z3178 : n0 ≤ h3173.size := W3174.size ▸ Z3168
        have N3179 := Fr.snoc X3171 N3169 Z3158
        refine own_astore (L' := #[.val (.int p1), .val (.int p2), .val (.int p3), .val (.int p4), .val (.int (p1 &&& (3 : Int32))), .val (.int p2.toUInt32.toUInt16.toUInt32.toInt32), .val (.int p3.toUInt32.toUInt16.toUInt32.toInt32), .val (.int p4.toUInt32.toUInt16.toUInt32.toInt32), .val (.ref a3152), .unset]) X3171 hx (hb hby at_68) (q := 70) rfl rfl rfl ?_
        refine own_goto X3171 hx (hb hby at_70) (q := 93) (by decide) (by decide) ?_
        refine own_new X3171 hx hZ hown (own_h hw 1 rfl) (own_h hw 2 rfl) (own_h hw 3 rfl) e3172 (hb hby at_93) (by decide) (by decide) (q := 96) rfl (fun T3180 h3183 a3184 X3181 e3182 g3185 E3186 A3187 D3188 => ?_)
        have L3189 := L3176.ext E3186
        have E3190 := Exa.ext E3186 E3177
        have A3191 := A3175.ext E3186
        have ne3192 : a3152 ≠ a3184 := by rw [g3185]; exact Nat.ne_of_lt A3175.lt
        have Z3193 : n0 ≤ a3184 := by rw [g3185]; exact Z3178
        have Z3194 : n0 ≤ h3183.size := Nat.le_trans Z3178 E3186.1
        have F3195 : Fld Z h3183 a3184 "java/lang/String" "value" "[B" (.null) := D3188 (Or.inr (own_h hw 16 rfl)) (ty := (.array .byte)) (by decide)
        have F3196 : Fld Z h3183 a3184 "java/lang/String" "coder" "B" (.int (0 : Int32)) := D3188 (Or.inr (own_h hw 17 rfl)) (ty := .byte) (by decide)
        refine own_dup X3181 hx (hb hby at_96) (q := 97) rfl rfl ?_
        refine own_aload X3181 hx (hb hby at_97) (q := 99) rfl rfl rfl ?_
        rw [own_nar (own_okI p2), own_nar (own_okI p3)] at A3191
        refine own_iniT2 X3181 hx hZ hown hw (W := 1) (own_h hw 4 rfl) e3182 Z3194 L3189 A3187 F3195 F3196 A3191 Z3193 ne3192 (fun u hu => by simp only [List.mem_cons, List.not_mem_nil, or_false] at hu; rcases hu with rfl | rfl <;> exact own_okI _) (by rw [hml]; rfl) (Nat.le_of_eq rfl) (by decide) (by decide) (by decide) (by decide) (hb hby at_99) (q := 102) rfl (fun T3197 L3199 b3203 X3198 N3200 K3201 S3202 => ?_)
        have N3204 := Fr.app N3179 N3200
        have G3205 := L3189.keep K3201 (allS (own_exaPlain A3187) all0)
        have Z3206 : n0 ≤ T3197.heap.size := Nat.le_trans Z3194 K3201.1
        show own_Go p e below (own_W s 32 2240 (own_Q0 n0)) (T3197.setTop (mkF m 102 #[.val (.int p1), .val (.int p2), .val (.int p3), .val (.int p4), .val (.int (p1 &&& (3 : Int32))), .val (.int p2.toUInt32.toUInt16.toUInt32.toInt32), .val (.int p3.toUInt32.toUInt16.toUInt32.toInt32), .val (.int p4.toUInt32.toUInt16.toUInt32.toInt32), .val (.ref a3152), .unset] [.ref a3184]))
        refine own_callS X3198 hx hZ hown (own_h hw 22 rfl) (own_h hw 23 rfl) (own_h hw 24 rfl) (own_h hw 25 rfl) (by decide) (rm4 l Z a0 hw [] a3184 b3203 [p2.toUInt32.toUInt16.toUInt32.toInt32, p3.toUInt32.toUInt16.toUInt32.toInt32] cs G T3197.heap n0 Z3206 G3205 S3202 (Nat.le_of_ble_eq_true rfl)) own_pd31 rfl rfl (by rw [hml]; rfl) (argsL := [.ref a3184]) (st := []) rfl (W := 0) (Nat.le_of_eq rfl) (by decide) (by decide) (by decide) (by decide) (hb hby at_102) (q := 105) rfl (fun v3207 T3208 L3209 X3210 hQ3211 => ?_)
        obtain ⟨a3212, b3213, rfl, N3214, K3215, S3216⟩ := hQ3211
        have N3217 := Fr.app N3204 N3214
        have G3218 := G3205.keep K3215 all0
        have Z3219 : n0 ≤ T3208.heap.size := Nat.le_trans Z3206 K3215.1
        replace S3216 : own_Str Z T3208.heap a3212 b3213 [own_lc (p2.toUInt32.toUInt16.toUInt32.toInt32), own_lc (p3.toUInt32.toUInt16.toUInt32.toInt32)] := S3216
        show own_Go p e below (own_W s 32 2240 (own_Q0 n0)) (T3208.setTop (mkF m 105 #[.val (.int p1), .val (.int p2), .val (.int p3), .val (.int p4), .val (.int (p1 &&& (3 : Int32))), .val (.int p2.toUInt32.toUInt16.toUInt32.toInt32), .val (.int p3.toUInt32.toUInt16.toUInt32.toInt32), .val (.int p4.toUInt32.toUInt16.toUInt32.toInt32), .val (.ref a3152), .unset] [.ref a3212]))
        refine own_astore (L' := #[.val (.int p1), .val (.int p2), .val (.int p3), .val (.int p4), .val (.int (p1 &&& (3 : Int32))), .val (.int p2.toUInt32.toUInt16.toUInt32.toInt32), .val (.int p3.toUInt32.toUInt16.toUInt32.toInt32), .val (.int p4.toUInt32.toUInt16.toUInt32.toInt32), .val (.ref a3152), .val (.ref a3212)]) X3210 hx (hb hby at_105) (q := 107) rfl rfl rfl ?_
        refine own_aload X3210 hx (hb hby at_107) (q := 109) rfl rfl rfl ?_
        refine own_nullN X3210 hx (hb hby at_109) (q := 112) rfl ?_
        refine own_aload X3210 hx (hb hby at_112) (q := 114) rfl rfl rfl ?_
        refine own_lenT X3210 hx hZ hown hw (W := 0) (own_h hw 101 rfl) rfl G3218 S3216 (Nat.le_of_ble_eq_true rfl) (by rw [hml]; rfl) (Nat.le_of_eq rfl) (by decide) (by decide) (by decide) (by decide) (hb hby at_114) (q := 117) rfl (fun T3220 X3221 e3222 => ?_)
        show own_Go p e below (own_W s 32 2240 (own_Q0 n0)) (T3220.setTop (mkF m 117 #[.val (.int p1), .val (.int p2), .val (.int p3), .val (.int p4), .val (.int (p1 &&& (3 : Int32))), .val (.int p2.toUInt32.toUInt16.toUInt32.toInt32), .val (.int p3.toUInt32.toUInt16.toUInt32.toInt32), .val (.int p4.toUInt32.toUInt16.toUInt32.toInt32), .val (.ref a3152), .val (.ref a3212)] [.int (2 : Int32)]))
        refine own_iload X3221 hx (hb hby at_117) (q := 119) rfl rfl ?_
        rw [c3]
        refine own_icmpP X3221 hx (hb hby at_119) (cd := .eq) (x := (2 : Int32)) (y := (2 : Int32)) (pt := 124) (q := 122) (by decide) (by decide) rfl rfl (fun _ => ?_) (fun h => False.elim (h ((by decide) : (2 : Int32) = (2 : Int32))))
        refine own_iload X3221 hx (hb hby at_124) (q := 126) rfl rfl ?_
        refine own_iconst X3221 hx (v := (1 : Int32)) (hb hby at_126) (q := 127) rfl rfl ?_
        refine own_icmpP X3221 hx (hb hby at_127) (cd := .lt) (x := (2 : Int32)) (y := (1 : Int32)) (pt := 146) (q := 130) (by decide) (by decide) rfl rfl (fun h => False.elim (((by decide) : ¬ ((2 : Int32) < (1 : Int32))) h)) (fun _ => ?_)
        refine own_iload X3221 hx (hb hby at_130) (q := 132) rfl rfl ?_
        refine own_aload X3221 hx (hb hby at_132) (q := 134) rfl rfl rfl ?_
        refine own_iconst X3221 hx (v := (0 : Int32)) (hb hby at_134) (q := 135) rfl rfl ?_
        refine own_chT (i := 0) (u := own_lc (p2.toUInt32.toUInt16.toUInt32.toInt32)) X3221 hx hZ hown hw (W := 1) (own_h hw 155 rfl) e3222 G3218 S3216 (Nat.le_of_ble_eq_true rfl) rfl (by rw [hml]; rfl) (Nat.le_of_eq rfl) (by decide) (by decide) (by decide) (by decide) (hb hby at_135) (q := 138) rfl (fun T3223 X3224 e3225 => ?_)
        have HK3240 : ∀ (b : Addr) (cl : Cell), Z.heap[b]? = some cl → T3208.heap[b]? = some cl := fun b cl q => by
          rw [← e3225]
          exact oldF X3224 (by show Fr s.heap.size _; rw [hh, ← Hn]; exact N3217) b cl (by show s.heap[b]? = _; rw [hh, ← HZ]; exact q)
        refine own_callSW X3224 hx hZ hown (PV := fun U => own_LS Z U T3208.heap) (fun U hU _ => (Or.inl (own_IB hIB hU.interned_eq))) (own_h hw 156 rfl) (own_h hw 157 rfl) (own_h hw 158 rfl) (own_h hw 159 rfl) (by decide) (rm30 l Z a0 hw [] p2.toUInt32.toUInt16.toUInt32.toInt32 (own_lc (p2.toUInt32.toUInt16.toUInt32.toInt32)) cs G T3208.heap n0 G3218 HK3240 H32 HCW (own_okI _) rfl) own_pd32 rfl e3225 (by rw [hml]; rfl) (argsL := [.int p2.toUInt32.toUInt16.toUInt32.toInt32, .int (own_lc (p2.toUInt32.toUInt16.toUInt32.toInt32))]) (st := []) rfl (W := 0) (Nat.le_of_eq rfl) (by decide) (by decide) (by decide) (by decide) (hb hby at_138) (q := 141) rfl (fun v3226 T3227 U3228 L3229 X3230 hS3231 hZ hown u3232 u3233 hQ3234 => ?_)
        obtain ⟨rfl, N3235, K3236, LS3237⟩ := hQ3234
        rw [u3233] at K3236 LS3237
        replace LS3237 : own_LS Z (s.setVm T3227.vm) T3227.heap := LS3237.vm u3232
        have N3238 := Fr.app N3217 N3235
        replace X3230 : Stand p l e room_1 (s.setVm T3227.vm) m _ below meth c T3227 _ _ _ := X3230
        replace hZ : Z.Warmed39 (s.setVm T3227.vm).vm := hZ
        replace hown : (s.setVm T3227.vm).vm.findClass "com/example/usher_frames/usherframes/text/AsciiToLowerCasePinLaw" = some m.cls := hown
        have G3239 := G3218.keep K3236 all0
        have S3243 := S3216.keep K3236 nin0 nin0
        have Z3241 : n0 ≤ T3227.heap.size := Nat.le_trans Z3219 K3236.1
        show own_Go p e below (own_W s 32 2240 (own_Q0 n0)) (T3227.setTop (mkF m 141 #[.val (.int p1), .val (.int p2), .val (.int p3), .val (.int p4), .val (.int (2 : Int32)), .val (.int p2.toUInt32.toUInt16.toUInt32.toInt32), .val (.int p3.toUInt32.toUInt16.toUInt32.toInt32), .val (.int p4.toUInt32.toUInt16.toUInt32.toInt32), .val (.ref a3152), .val (.ref a3212)] [.int (1 : Int32)]))
        refine own_if0M X3230 hx (hb hby at_141) (cd := .ne) (x := (1 : Int32)) (pt := 146) (q := 144) (by decide) (by decide) rfl rfl (fun _ => ?_) (fun h => False.elim (((by decide) : ¬ ((1 : Int32) = (0 : Int32))) h))
        refine own_iload X3230 hx (hb hby at_146) (q := 148) rfl rfl ?_
        refine own_iconst X3230 hx (v := (2 : Int32)) (hb hby at_148) (q := 149) rfl rfl ?_
        refine own_icmpP X3230 hx (hb hby at_149) (cd := .lt) (x := (2 : Int32)) (y := (2 : Int32)) (pt := 168) (q := 152) (by decide) (by decide) rfl rfl (fun h => False.elim (((by decide) : ¬ ((2 : Int32) < (2 : Int32))) h)) (fun _ => ?_)
        refine own_iload X3230 hx (hb hby at_152) (q := 154) rfl rfl ?_
        refine own_aload X3230 hx (hb hby at_154) (q := 156) rfl rfl rfl ?_
        refine own_iconst X3230 hx (v := (1 : Int32)) (hb hby at_156) (q := 157) rfl rfl ?_
        refine own_chT (i := 1) (u := own_lc (p3.toUInt32.toUInt16.toUInt32.toInt32)) X3230 hx hZ hown hw (W := 1) (own_h hw 155 rfl) rfl G3239 S3243 (Nat.le_of_ble_eq_true rfl) rfl (by rw [hml]; rfl) (Nat.le_of_eq rfl) (by decide) (by decide) (by decide) (by decide) (hb hby at_157) (q := 160) rfl (fun T3244 X3245 e3246 => ?_)
        have HK3261 : ∀ (b : Addr) (cl : Cell), Z.heap[b]? = some cl → T3227.heap[b]? = some cl := fun b cl q => by
          rw [← e3246]
          exact oldF X3245 (by show Fr s.heap.size _; rw [hh, ← Hn]; exact N3238) b cl (by show s.heap[b]? = _; rw [hh, ← HZ]; exact q)
        refine own_callSW X3245 hx hZ hown (PV := fun U => own_LS Z U T3227.heap) (fun U hU _ => (LS3237.mv hU)) (own_h hw 156 rfl) (own_h hw 157 rfl) (own_h hw 158 rfl) (own_h hw 159 rfl) (by decide) (rm30 l Z a0 hw [] p3.toUInt32.toUInt16.toUInt32.toInt32 (own_lc (p3.toUInt32.toUInt16.toUInt32.toInt32)) cs G T3227.heap n0 G3239 HK3261 H32 HCW (own_okI _) rfl) own_pd32 rfl e3246 (by rw [hml]; rfl) (argsL := [.int p3.toUInt32.toUInt16.toUInt32.toInt32, .int (own_lc (p3.toUInt32.toUInt16.toUInt32.toInt32))]) (st := []) rfl (W := 0) (Nat.le_of_eq rfl) (by decide) (by decide) (by decide) (by decide) (hb hby at_160) (q := 163) rfl (fun v3247 T3248 U3249 L3250 X3251 hS3252 hZ hown u3253 u3254 hQ3255 => ?_)
        obtain ⟨rfl, N3256, K3257, LS3258⟩ := hQ3255
        rw [u3254] at K3257 LS3258
        replace LS3258 : own_LS Z (s.setVm T3248.vm) T3248.heap := LS3258.vm u3253
        have N3259 := Fr.app N3238 N3256
        have hS3263 : s.Since T3248.vm T3248.heap.size := State.Since.trans hS3231 hS3252 (Nat.le_trans (Nat.le_refl _) K3257.1)
        replace X3251 : Stand p l e room_1 (s.setVm T3248.vm) m _ below meth c T3248 _ _ _ := X3251
        replace hZ : Z.Warmed39 (s.setVm T3248.vm).vm := hZ
        replace hown : (s.setVm T3248.vm).vm.findClass "com/example/usher_frames/usherframes/text/AsciiToLowerCasePinLaw" = some m.cls := hown
        have G3260 := G3239.keep K3257 all0
        have S3264 := S3243.keep K3257 nin0 nin0
        have Z3262 : n0 ≤ T3248.heap.size := Nat.le_trans Z3241 K3257.1
        show own_Go p e below (own_W s 32 2240 (own_Q0 n0)) (T3248.setTop (mkF m 163 #[.val (.int p1), .val (.int p2), .val (.int p3), .val (.int p4), .val (.int (2 : Int32)), .val (.int p2.toUInt32.toUInt16.toUInt32.toInt32), .val (.int p3.toUInt32.toUInt16.toUInt32.toInt32), .val (.int p4.toUInt32.toUInt16.toUInt32.toInt32), .val (.ref a3152), .val (.ref a3212)] [.int (1 : Int32)]))
        refine own_if0M X3251 hx (hb hby at_163) (cd := .ne) (x := (1 : Int32)) (pt := 168) (q := 166) (by decide) (by decide) rfl rfl (fun _ => ?_) (fun h => False.elim (((by decide) : ¬ ((1 : Int32) = (0 : Int32))) h))
        refine own_iload X3251 hx (hb hby at_168) (q := 170) rfl rfl ?_
        refine own_iconst X3251 hx (v := (3 : Int32)) (hb hby at_170) (q := 171) rfl rfl ?_
        refine own_icmpP X3251 hx (hb hby at_171) (cd := .lt) (x := (2 : Int32)) (y := (3 : Int32)) (pt := 190) (q := 174) (by decide) (by decide) rfl rfl (fun _ => ?_) (fun h => False.elim (h ((by decide) : (2 : Int32) < (3 : Int32))))
        refine own_iconst X3251 hx (v := (1 : Int32)) (hb hby at_190) (q := 191) rfl rfl ?_
        refine own_mono (fun o t h => own_EW' hS3263 h) ?_
        refine own_retN X3251 hx hlk (t := .boolean) (by simp) Bd.returns (hb hby at_191) ?_ (by decide) (by decide)
        exact ⟨⟨rfl, N3259⟩, (Nat.le_refl _)⟩
    · refine own_iconst X0 hx (v := (1 : Int32)) (hb hby at_36) (q := 37) rfl rfl ?_
      refine own_newE X0 hx hZ (aty := .char) (ty := .char) (ad := "[C") (k := 1) (cap := 1) rfl rfl (own_h hw 0 rfl) e0 (by decide) (by decide) (by decide) (by decide) (by decide) (by decide) (hb hby at_37) (q := 39) rfl (fun T3265 h3268 a3269 X3266 e3267 g3270 E3271 A3272 E3273 => ?_)
      have L3274 := GG.ext E3271
      have Z3275 : n0 ≤ a3269 := by rw [g3270]; exact Z0
      have Z3276 : n0 ≤ h3268.size := Nat.le_trans Z0 E3271.1
      replace A3272 : own_A Z h3268 a3269 .char [.int (0 : Int32)] := A3272
      refine own_dup X3266 hx (hb hby at_39) (q := 40) rfl rfl ?_
      refine own_iconst X3266 hx (v := (0 : Int32)) (hb hby at_40) (q := 41) rfl rfl ?_
      refine own_iload X3266 hx (hb hby at_41) (q := 43) rfl rfl ?_
      refine own_castore X3266 hx hZ (i := 0) e3267 A3272 (by decide) (by decide) (Nat.le_of_ble_eq_true rfl) (hb hby at_43) (q := 44) rfl (fun T3277 h3280 X3278 e3279 W3281 A3282 => ?_)
      replace A3282 : own_A Z h3280 a3269 .char [.int (nar .char p2.toUInt32.toUInt16.toUInt32.toInt32)] := A3282
      have L3283 := L3274.wr W3281
      have E3284 := Exa.wr W3281 E3273
      have Z3285 : n0 ≤ h3280.size := W3281.size ▸ Z3276
      have N3286 := Fr.snoc X3278 N0 Z3275
      refine own_astore (L' := #[.val (.int p1), .val (.int p2), .val (.int p3), .val (.int p4), .val (.int (p1 &&& (3 : Int32))), .val (.int p2.toUInt32.toUInt16.toUInt32.toInt32), .val (.int p3.toUInt32.toUInt16.toUInt32.toInt32), .val (.int p4.toUInt32.toUInt16.toUInt32.toInt32), .val (.ref a3269), .unset]) X3278 hx (hb hby at_44) (q := 46) rfl rfl rfl ?_
      refine own_goto X3278 hx (hb hby at_46) (q := 93) (by decide) (by decide) ?_
      refine own_new X3278 hx hZ hown (own_h hw 1 rfl) (own_h hw 2 rfl) (own_h hw 3 rfl) e3279 (hb hby at_93) (by decide) (by decide) (q := 96) rfl (fun T3287 h3290 a3291 X3288 e3289 g3292 E3293 A3294 D3295 => ?_)
      have L3296 := L3283.ext E3293
      have E3297 := Exa.ext E3293 E3284
      have A3298 := A3282.ext E3293
      have ne3299 : a3269 ≠ a3291 := by rw [g3292]; exact Nat.ne_of_lt A3282.lt
      have Z3300 : n0 ≤ a3291 := by rw [g3292]; exact Z3285
      have Z3301 : n0 ≤ h3290.size := Nat.le_trans Z3285 E3293.1
      have F3302 : Fld Z h3290 a3291 "java/lang/String" "value" "[B" (.null) := D3295 (Or.inr (own_h hw 16 rfl)) (ty := (.array .byte)) (by decide)
      have F3303 : Fld Z h3290 a3291 "java/lang/String" "coder" "B" (.int (0 : Int32)) := D3295 (Or.inr (own_h hw 17 rfl)) (ty := .byte) (by decide)
      refine own_dup X3288 hx (hb hby at_96) (q := 97) rfl rfl ?_
      refine own_aload X3288 hx (hb hby at_97) (q := 99) rfl rfl rfl ?_
      rw [own_nar (own_okI p2)] at A3298
      refine own_iniT1 X3288 hx hZ hown hw (W := 1) (own_h hw 4 rfl) e3289 Z3301 L3296 A3294 F3302 F3303 A3298 Z3300 ne3299 (fun u hu => by simp only [List.mem_cons, List.not_mem_nil, or_false] at hu; rcases hu with rfl <;> exact own_okI _) (by rw [hml]; rfl) (Nat.le_of_eq rfl) (by decide) (by decide) (by decide) (by decide) (hb hby at_99) (q := 102) rfl (fun T3304 L3306 b3310 X3305 N3307 K3308 S3309 => ?_)
      have N3311 := Fr.app N3286 N3307
      have G3312 := L3296.keep K3308 (allS (own_exaPlain A3294) all0)
      have Z3313 : n0 ≤ T3304.heap.size := Nat.le_trans Z3301 K3308.1
      show own_Go p e below (own_W s 32 2240 (own_Q0 n0)) (T3304.setTop (mkF m 102 #[.val (.int p1), .val (.int p2), .val (.int p3), .val (.int p4), .val (.int (p1 &&& (3 : Int32))), .val (.int p2.toUInt32.toUInt16.toUInt32.toInt32), .val (.int p3.toUInt32.toUInt16.toUInt32.toInt32), .val (.int p4.toUInt32.toUInt16.toUInt32.toInt32), .val (.ref a3269), .unset] [.ref a3291]))
      refine own_callS X3305 hx hZ hown (own_h hw 22 rfl) (own_h hw 23 rfl) (own_h hw 24 rfl) (own_h hw 25 rfl) (by decide) (rm4 l Z a0 hw [] a3291 b3310 [p2.toUInt32.toUInt16.toUInt32.toInt32] cs G T3304.heap n0 Z3313 G3312 S3309 (Nat.le_of_ble_eq_true rfl)) own_pd31 rfl rfl (by rw [hml]; rfl) (argsL := [.ref a3291]) (st := []) rfl (W := 0) (Nat.le_of_eq rfl) (by decide) (by decide) (by decide) (by decide) (hb hby at_102) (q := 105) rfl (fun v3314 T3315 L3316 X3317 hQ3318 => ?_)
      obtain ⟨a3319, b3320, rfl, N3321, K3322, S3323⟩ := hQ3318
      have N3324 := Fr.app N3311 N3321
      have G3325 := G3312.keep K3322 all0
      have Z3326 : n0 ≤ T3315.heap.size := Nat.le_trans Z3313 K3322.1
      replace S3323 : own_Str Z T3315.heap a3319 b3320 [own_lc (p2.toUInt32.toUInt16.toUInt32.toInt32)] := S3323
      show own_Go p e below (own_W s 32 2240 (own_Q0 n0)) (T3315.setTop (mkF m 105 #[.val (.int p1), .val (.int p2), .val (.int p3), .val (.int p4), .val (.int (p1 &&& (3 : Int32))), .val (.int p2.toUInt32.toUInt16.toUInt32.toInt32), .val (.int p3.toUInt32.toUInt16.toUInt32.toInt32), .val (.int p4.toUInt32.toUInt16.toUInt32.toInt32), .val (.ref a3269), .unset] [.ref a3319]))
      refine own_astore (L' := #[.val (.int p1), .val (.int p2), .val (.int p3), .val (.int p4), .val (.int (p1 &&& (3 : Int32))), .val (.int p2.toUInt32.toUInt16.toUInt32.toInt32), .val (.int p3.toUInt32.toUInt16.toUInt32.toInt32), .val (.int p4.toUInt32.toUInt16.toUInt32.toInt32), .val (.ref a3269), .val (.ref a3319)]) X3317 hx (hb hby at_105) (q := 107) rfl rfl rfl ?_
      refine own_aload X3317 hx (hb hby at_107) (q := 109) rfl rfl rfl ?_
      refine own_nullN X3317 hx (hb hby at_109) (q := 112) rfl ?_
      refine own_aload X3317 hx (hb hby at_112) (q := 114) rfl rfl rfl ?_
      refine own_lenT X3317 hx hZ hown hw (W := 0) (own_h hw 101 rfl) rfl G3325 S3323 (Nat.le_of_ble_eq_true rfl) (by rw [hml]; rfl) (Nat.le_of_eq rfl) (by decide) (by decide) (by decide) (by decide) (hb hby at_114) (q := 117) rfl (fun T3327 X3328 e3329 => ?_)
      show own_Go p e below (own_W s 32 2240 (own_Q0 n0)) (T3327.setTop (mkF m 117 #[.val (.int p1), .val (.int p2), .val (.int p3), .val (.int p4), .val (.int (p1 &&& (3 : Int32))), .val (.int p2.toUInt32.toUInt16.toUInt32.toInt32), .val (.int p3.toUInt32.toUInt16.toUInt32.toInt32), .val (.int p4.toUInt32.toUInt16.toUInt32.toInt32), .val (.ref a3269), .val (.ref a3319)] [.int (1 : Int32)]))
      refine own_iload X3328 hx (hb hby at_117) (q := 119) rfl rfl ?_
      rw [c2]
      refine own_icmpP X3328 hx (hb hby at_119) (cd := .eq) (x := (1 : Int32)) (y := (1 : Int32)) (pt := 124) (q := 122) (by decide) (by decide) rfl rfl (fun _ => ?_) (fun h => False.elim (h ((by decide) : (1 : Int32) = (1 : Int32))))
      refine own_iload X3328 hx (hb hby at_124) (q := 126) rfl rfl ?_
      refine own_iconst X3328 hx (v := (1 : Int32)) (hb hby at_126) (q := 127) rfl rfl ?_
      refine own_icmpP X3328 hx (hb hby at_127) (cd := .lt) (x := (1 : Int32)) (y := (1 : Int32)) (pt := 146) (q := 130) (by decide) (by decide) rfl rfl (fun h => False.elim (((by decide) : ¬ ((1 : Int32) < (1 : Int32))) h)) (fun _ => ?_)
      refine own_iload X3328 hx (hb hby at_130) (q := 132) rfl rfl ?_
      refine own_aload X3328 hx (hb hby at_132) (q := 134) rfl rfl rfl ?_
      refine own_iconst X3328 hx (v := (0 : Int32)) (hb hby at_134) (q := 135) rfl rfl ?_
      refine own_chT (i := 0) (u := own_lc (p2.toUInt32.toUInt16.toUInt32.toInt32)) X3328 hx hZ hown hw (W := 1) (own_h hw 155 rfl) e3329 G3325 S3323 (Nat.le_of_ble_eq_true rfl) rfl (by rw [hml]; rfl) (Nat.le_of_eq rfl) (by decide) (by decide) (by decide) (by decide) (hb hby at_135) (q := 138) rfl (fun T3330 X3331 e3332 => ?_)
      have HK3347 : ∀ (b : Addr) (cl : Cell), Z.heap[b]? = some cl → T3315.heap[b]? = some cl := fun b cl q => by
        rw [← e3332]
        exact oldF X3331 (by show Fr s.heap.size _; rw [hh, ← Hn]; exact N3324) b cl (by show s.heap[b]? = _; rw [hh, ← HZ]; exact q)
      refine own_callSW X3331 hx hZ hown (PV := fun U => own_LS Z U T3315.heap) (fun U hU _ => (Or.inl (own_IB hIB hU.interned_eq))) (own_h hw 156 rfl) (own_h hw 157 rfl) (own_h hw 158 rfl) (own_h hw 159 rfl) (by decide) (rm30 l Z a0 hw [] p2.toUInt32.toUInt16.toUInt32.toInt32 (own_lc (p2.toUInt32.toUInt16.toUInt32.toInt32)) cs G T3315.heap n0 G3325 HK3347 H32 HCW (own_okI _) rfl) own_pd32 rfl e3332 (by rw [hml]; rfl) (argsL := [.int p2.toUInt32.toUInt16.toUInt32.toInt32, .int (own_lc (p2.toUInt32.toUInt16.toUInt32.toInt32))]) (st := []) rfl (W := 0) (Nat.le_of_eq rfl) (by decide) (by decide) (by decide) (by decide) (hb hby at_138) (q := 141) rfl (fun v3333 T3334 U3335 L3336 X3337 hS3338 hZ hown u3339 u3340 hQ3341 => ?_)
      obtain ⟨rfl, N3342, K3343, LS3344⟩ := hQ3341
      rw [u3340] at K3343 LS3344
      replace LS3344 : own_LS Z (s.setVm T3334.vm) T3334.heap := LS3344.vm u3339
      have N3345 := Fr.app N3324 N3342
      replace X3337 : Stand p l e room_1 (s.setVm T3334.vm) m _ below meth c T3334 _ _ _ := X3337
      replace hZ : Z.Warmed39 (s.setVm T3334.vm).vm := hZ
      replace hown : (s.setVm T3334.vm).vm.findClass "com/example/usher_frames/usherframes/text/AsciiToLowerCasePinLaw" = some m.cls := hown
      have G3346 := G3325.keep K3343 all0
      have S3350 := S3323.keep K3343 nin0 nin0
      have Z3348 : n0 ≤ T3334.heap.size := Nat.le_trans Z3326 K3343.1
      show own_Go p e below (own_W s 32 2240 (own_Q0 n0)) (T3334.setTop (mkF m 141 #[.val (.int p1), .val (.int p2), .val (.int p3), .val (.int p4), .val (.int (1 : Int32)), .val (.int p2.toUInt32.toUInt16.toUInt32.toInt32), .val (.int p3.toUInt32.toUInt16.toUInt32.toInt32), .val (.int p4.toUInt32.toUInt16.toUInt32.toInt32), .val (.ref a3269), .val (.ref a3319)] [.int (1 : Int32)]))
      refine own_if0M X3337 hx (hb hby at_141) (cd := .ne) (x := (1 : Int32)) (pt := 146) (q := 144) (by decide) (by decide) rfl rfl (fun _ => ?_) (fun h => False.elim (((by decide) : ¬ ((1 : Int32) = (0 : Int32))) h))
      refine own_iload X3337 hx (hb hby at_146) (q := 148) rfl rfl ?_
      refine own_iconst X3337 hx (v := (2 : Int32)) (hb hby at_148) (q := 149) rfl rfl ?_
      refine own_icmpP X3337 hx (hb hby at_149) (cd := .lt) (x := (1 : Int32)) (y := (2 : Int32)) (pt := 168) (q := 152) (by decide) (by decide) rfl rfl (fun _ => ?_) (fun h => False.elim (h ((by decide) : (1 : Int32) < (2 : Int32))))
      refine own_iload X3337 hx (hb hby at_168) (q := 170) rfl rfl ?_
      refine own_iconst X3337 hx (v := (3 : Int32)) (hb hby at_170) (q := 171) rfl rfl ?_
      refine own_icmpP X3337 hx (hb hby at_171) (cd := .lt) (x := (1 : Int32)) (y := (3 : Int32)) (pt := 190) (q := 174) (by decide) (by decide) rfl rfl (fun _ => ?_) (fun h => False.elim (h ((by decide) : (1 : Int32) < (3 : Int32))))
      refine own_iconst X3337 hx (v := (1 : Int32)) (hb hby at_190) (q := 191) rfl rfl ?_
      refine own_mono (fun o t h => own_EW' hS3338 h) ?_
      refine own_retN X3337 hx hlk (t := .boolean) (by simp) Bd.returns (hb hby at_191) ?_ (by decide) (by decide)
      exact ⟨⟨rfl, N3345⟩, (Nat.le_refl _)⟩
  · refine own_iconst X0 hx (v := (0 : Int32)) (hb hby at_22) (q := 23) rfl rfl ?_
    refine own_newE X0 hx hZ (aty := .char) (ty := .char) (ad := "[C") (k := 0) (cap := 0) rfl rfl (own_h hw 0 rfl) e0 (by decide) (by decide) (by decide) (by decide) (by decide) (by decide) (hb hby at_23) (q := 25) rfl (fun T3351 h3354 a3355 X3352 e3353 g3356 E3357 A3358 E3359 => ?_)
    have L3360 := GG.ext E3357
    have Z3361 : n0 ≤ a3355 := by rw [g3356]; exact Z0
    have Z3362 : n0 ≤ h3354.size := Nat.le_trans Z0 E3357.1
    replace A3358 : own_A Z h3354 a3355 .char [] := A3358
    refine own_astore (L' := #[.val (.int p1), .val (.int p2), .val (.int p3), .val (.int p4), .val (.int (p1 &&& (3 : Int32))), .val (.int p2.toUInt32.toUInt16.toUInt32.toInt32), .val (.int p3.toUInt32.toUInt16.toUInt32.toInt32), .val (.int p4.toUInt32.toUInt16.toUInt32.toInt32), .val (.ref a3355), .unset]) X3352 hx (hb hby at_25) (q := 27) rfl rfl rfl ?_
    refine own_goto X3352 hx (hb hby at_27) (q := 93) (by decide) (by decide) ?_
    refine own_new X3352 hx hZ hown (own_h hw 1 rfl) (own_h hw 2 rfl) (own_h hw 3 rfl) e3353 (hb hby at_93) (by decide) (by decide) (q := 96) rfl (fun T3363 h3366 a3367 X3364 e3365 g3368 E3369 A3370 D3371 => ?_)
    have L3372 := L3360.ext E3369
    have A3373 := A3358.ext E3369
    have E3374 := Exa.ext E3369 E3359
    have ne3375 : a3355 ≠ a3367 := by rw [g3368]; exact Nat.ne_of_lt E3359.lt
    have Z3376 : n0 ≤ a3367 := by rw [g3368]; exact Z3362
    have Z3377 : n0 ≤ h3366.size := Nat.le_trans Z3362 E3369.1
    have F3378 : Fld Z h3366 a3367 "java/lang/String" "value" "[B" (.null) := D3371 (Or.inr (own_h hw 16 rfl)) (ty := (.array .byte)) (by decide)
    have F3379 : Fld Z h3366 a3367 "java/lang/String" "coder" "B" (.int (0 : Int32)) := D3371 (Or.inr (own_h hw 17 rfl)) (ty := .byte) (by decide)
    refine own_dup X3364 hx (hb hby at_96) (q := 97) rfl rfl ?_
    refine own_aload X3364 hx (hb hby at_97) (q := 99) rfl rfl rfl ?_
    have HK3395 : ∀ (b : Addr) (cl : Cell), Z.heap[b]? = some cl → h3366[b]? = some cl := fun b cl q => by
      rw [← e3365]
      exact oldF X3364 (by rw [hh, ← Hn]; exact N0) b cl (by rw [hh, ← HZ]; exact q)
    refine own_callCW X3364 hx hZ hown (PV := fun U => IB Z U.vm []) (fun U hU _ => own_IB hIB hU.interned_eq) rfl (own_h hw 4 rfl) (own_h hw 5 rfl) (own_h hw 3 rfl) (own_h hw 6 rfl) (by decide) (rm1E l Z a0 hw [] a3367 a3355 A3373 n0 A3370 F3378 F3379 Z3376 HK3395 H7 HCW) own_pd30 rfl e3365 (by rw [hml]; rfl) (argsL := [.ref a3355]) (st := [.ref a3367]) rfl (W := 1) (Nat.le_of_eq rfl) (by decide) (by decide) (by decide) (by decide) (hb hby at_99) (q := 102) rfl (fun v3389 T3380 U3390 L3382 X3381 hS3391 hZ hown u3392 u3393 hQ3394 => ?_)
    obtain ⟨rfl, N3383, K3384, b3386, S3385⟩ := hQ3394
    rw [u3393] at K3384 S3385
    have N3387 := Fr.app N0 N3383
    have G3388 := L3372.keep K3384 (allS (own_exaPlain A3370) all0)
    have Z3397 : n0 ≤ T3380.heap.size := Nat.le_trans Z3377 K3384.1
    show own_Go p e below (own_W s 32 2240 (own_Q0 n0)) (T3380.setTop (mkF m 102 #[.val (.int p1), .val (.int p2), .val (.int p3), .val (.int p4), .val (.int (p1 &&& (3 : Int32))), .val (.int p2.toUInt32.toUInt16.toUInt32.toInt32), .val (.int p3.toUInt32.toUInt16.toUInt32.toInt32), .val (.int p4.toUInt32.toUInt16.toUInt32.toInt32), .val (.ref a3355), .unset] [.ref a3367]))
    refine own_callS X3381 hx hZ hown (own_h hw 22 rfl) (own_h hw 23 rfl) (own_h hw 24 rfl) (own_h hw 25 rfl) (by decide) (rm4 l Z a0 hw [] a3367 b3386 [] cs G T3380.heap n0 Z3397 G3388 S3385 (Nat.le_of_ble_eq_true rfl)) own_pd31 rfl rfl (by rw [hml]; rfl) (argsL := [.ref a3367]) (st := []) rfl (W := 0) (Nat.le_of_eq rfl) (by decide) (by decide) (by decide) (by decide) (hb hby at_102) (q := 105) rfl (fun v3398 T3399 L3400 X3401 hQ3402 => ?_)
    obtain ⟨a3403, b3404, rfl, N3405, K3406, S3407⟩ := hQ3402
    have N3408 := Fr.app N3387 N3405
    have G3409 := G3388.keep K3406 all0
    have Z3410 : n0 ≤ T3399.heap.size := Nat.le_trans Z3397 K3406.1
    have Z3411 : T3380.heap.size ≤ T3399.heap.size := K3406.1
    replace S3407 : own_Str Z T3399.heap a3403 b3404 [] := S3407
    show own_Go p e below (own_W s 32 2240 (own_Q0 n0)) (T3399.setTop (mkF m 105 #[.val (.int p1), .val (.int p2), .val (.int p3), .val (.int p4), .val (.int (p1 &&& (3 : Int32))), .val (.int p2.toUInt32.toUInt16.toUInt32.toInt32), .val (.int p3.toUInt32.toUInt16.toUInt32.toInt32), .val (.int p4.toUInt32.toUInt16.toUInt32.toInt32), .val (.ref a3355), .unset] [.ref a3403]))
    refine own_astore (L' := #[.val (.int p1), .val (.int p2), .val (.int p3), .val (.int p4), .val (.int (p1 &&& (3 : Int32))), .val (.int p2.toUInt32.toUInt16.toUInt32.toInt32), .val (.int p3.toUInt32.toUInt16.toUInt32.toInt32), .val (.int p4.toUInt32.toUInt16.toUInt32.toInt32), .val (.ref a3355), .val (.ref a3403)]) X3401 hx (hb hby at_105) (q := 107) rfl rfl rfl ?_
    refine own_aload X3401 hx (hb hby at_107) (q := 109) rfl rfl rfl ?_
    refine own_nullN X3401 hx (hb hby at_109) (q := 112) rfl ?_
    refine own_aload X3401 hx (hb hby at_112) (q := 114) rfl rfl rfl ?_
    refine own_lenT X3401 hx hZ hown hw (W := 0) (own_h hw 101 rfl) rfl G3409 S3407 (Nat.le_of_ble_eq_true rfl) (by rw [hml]; rfl) (Nat.le_of_eq rfl) (by decide) (by decide) (by decide) (by decide) (hb hby at_114) (q := 117) rfl (fun T3412 X3413 e3414 => ?_)
    show own_Go p e below (own_W s 32 2240 (own_Q0 n0)) (T3412.setTop (mkF m 117 #[.val (.int p1), .val (.int p2), .val (.int p3), .val (.int p4), .val (.int (p1 &&& (3 : Int32))), .val (.int p2.toUInt32.toUInt16.toUInt32.toInt32), .val (.int p3.toUInt32.toUInt16.toUInt32.toInt32), .val (.int p4.toUInt32.toUInt16.toUInt32.toInt32), .val (.ref a3355), .val (.ref a3403)] [.int (0 : Int32)]))
    refine own_iload X3413 hx (hb hby at_117) (q := 119) rfl rfl ?_
    rw [c1]
    refine own_icmpP X3413 hx (hb hby at_119) (cd := .eq) (x := (0 : Int32)) (y := (0 : Int32)) (pt := 124) (q := 122) (by decide) (by decide) rfl rfl (fun _ => ?_) (fun h => False.elim (h ((by decide) : (0 : Int32) = (0 : Int32))))
    refine own_iload X3413 hx (hb hby at_124) (q := 126) rfl rfl ?_
    refine own_iconst X3413 hx (v := (1 : Int32)) (hb hby at_126) (q := 127) rfl rfl ?_
    refine own_icmpP X3413 hx (hb hby at_127) (cd := .lt) (x := (0 : Int32)) (y := (1 : Int32)) (pt := 146) (q := 130) (by decide) (by decide) rfl rfl (fun _ => ?_) (fun h => False.elim (h ((by decide) : (0 : Int32) < (1 : Int32))))
    refine own_iload X3413 hx (hb hby at_146) (q := 148) rfl rfl ?_
    refine own_iconst X3413 hx (v := (2 : Int32)) (hb hby at_148) (q := 149) rfl rfl ?_
    refine own_icmpP X3413 hx (hb hby at_149) (cd := .lt) (x := (0 : Int32)) (y := (2 : Int32)) (pt := 168) (q := 152) (by decide) (by decide) rfl rfl (fun _ => ?_) (fun h => False.elim (h ((by decide) : (0 : Int32) < (2 : Int32))))
    refine own_iload X3413 hx (hb hby at_168) (q := 170) rfl rfl ?_
    refine own_iconst X3413 hx (v := (3 : Int32)) (hb hby at_170) (q := 171) rfl rfl ?_
    refine own_icmpP X3413 hx (hb hby at_171) (cd := .lt) (x := (0 : Int32)) (y := (3 : Int32)) (pt := 190) (q := 174) (by decide) (by decide) rfl rfl (fun _ => ?_) (fun h => False.elim (h ((by decide) : (0 : Int32) < (3 : Int32))))
    refine own_iconst X3413 hx (v := (1 : Int32)) (hb hby at_190) (q := 191) rfl rfl ?_
    refine own_mono (fun o t h => own_EW' hS3391 h) ?_
    refine own_retN X3413 hx hlk (t := .boolean) (by simp) Bd.returns (hb hby at_191) ?_ (by decide) (by decide)
    exact ⟨⟨rfl, N3408⟩, e3414 ▸ Z3411⟩
set_option maxRecDepth 65536 in
set_option maxHeartbeats 40000000 in
theorem comes_1 {Post : Tables → Env → Array Value → State → Outcome → State → Prop} (hpost : ∀ tb e args s v u, (limb_1_1.after args s (.returned v) u = true ∧ limb_1_2.after args s (.returned v) u = true ∧ True) → FramedW s (.returned v) u (Jvm.fieldLocs frame_1_writes args s ++ Jvm.arrayLocs frame_1_arrays args s ++ Jvm.staticLocs frame_1_statics s) 32 2240 → Post tb e args s (.returned v) u) :
    ArmFor flags0 classFile x code maxLocals ret World_1 tables_1 room_1 Calls_1 rest_1 Pre_1 Post := by
  intro l hfl _ _ p e ha hc hk s m args below hf hA hF happ hP
  obtain ⟨hcalls, hrest, hpre⟩ := hP
  obtain ⟨-, -, -, hnamed, -, -, -, hat⟩ := (Spec.applies_iff hf).mp happ
  obtain ⟨hg, hn⟩ := and_e (Cond.before_iff.mp (show (Jvm.Cond.and given_1 narrow_1).before args s = true from hpre))
  obtain ⟨h1, g0⟩ := and_e hg
  obtain ⟨k0, g1⟩ := and_e g0
  obtain ⟨k1, g2⟩ := and_e g1
  obtain ⟨k2, g3⟩ := and_e g2
  have k3 := g3
  obtain ⟨w0, w1, w2, w3, rfl⟩ : ∃ w0 w1 w2 w3 : Value, args = #[w0, w1, w2, w3] := by
    have hs : args.size = 4 := by simpa [Cond.value, given_1] using h1
    obtain ⟨L⟩ := args
    match L, hs with
    | [w0, w1, w2, w3], _ => exact ⟨w0, w1, w2, w3, rfl⟩
  have hw := fun d (hd : d ∈ tables_1) => atoms_spec (ws := Jvm.Cond.code x code maxLocals ret :: tables_1) hat d (List.mem_cons_of_mem _ hd)
  have hfit : Fit s := fun {y c} hc i hi => by
    obtain ⟨ha, rfl⟩ := Array.getElem?_eq_some_iff.mp hc
    have q := List.all_eq_true.mp ((Array.all_eq_true_iff_forall_mem.mp hF) _ (Array.getElem_mem ha)) i (List.mem_range.mpr hi)
    simpa [Array.getElem?_eq_getElem hi] using q
  obtain ⟨i0, e0⟩ := is_v k0
  obtain rfl : w0 = (.int i0) := Option.some.inj e0
  obtain ⟨i1, e1⟩ := is_v k1
  obtain rfl : w1 = (.int i1) := Option.some.inj e1
  obtain ⟨i2, e2⟩ := is_v k2
  obtain rfl : w2 = (.int i2) := Option.some.inj e2
  obtain ⟨i3, e3⟩ := is_v k3
  obtain rfl : w3 = (.int i3) := Option.some.inj e3
  obtain ⟨hsets, hown0⟩ := atoms_of _ (rest_1_c_eq ▸ (show rest_1_c.before _ s = true from hrest))
  have n5 := not_v (Cond.before_iff.mp (hsets _ (List.mem_of_getElem? (i := 2) rfl)))
  obtain ⟨cs, ecs⟩ := is_v (Cond.before_iff.mp (hsets _ (List.mem_of_getElem? (i := 1) rfl)))
  have SCS : Sta s s.heap "java/lang/String" "COMPACT_STRINGS" "Z" (.int cs) := Sta.start ecs (Or.inl (hsets _ (List.mem_of_getElem? (i := 0) rfl)))
  have PCS : ¬ (cs = (0 : Int32)) := gotF (Cond.eq_ints ecs (Term.int_eval (0))) n5
  obtain ⟨G, eG, rG⟩ := isR_v (Cond.before_iff.mp (hsets _ (List.mem_of_getElem? (i := 8) rfl)))
  have SSG : Sta s s.heap "jdk/internal/util/Preconditions" "SIOOBE_FORMATTER" "Ljava/util/function/BiFunction;" G := Sta.start eG (Or.inl (hsets _ (List.mem_of_getElem? (i := 7) rfl)))
  have SAD := own_staI (hsets _ (List.mem_of_getElem? (i := 12) rfl)) (hsets _ (List.mem_of_getElem? (i := 11) rfl))
  have SHI := own_staI (hsets _ (List.mem_of_getElem? (i := 15) rfl)) (hsets _ (List.mem_of_getElem? (i := 14) rfl))
  have SLO := own_staI (hsets _ (List.mem_of_getElem? (i := 18) rfl)) (hsets _ (List.mem_of_getElem? (i := 17) rfl))
  have GG : own_G s s.heap cs G := ⟨PCS, rG, SCS, SSG, SAD, SHI, SLO⟩
  have H32 : Jvm.Lit.constHeld s "com/example/usher_frames/usherframes/text/AsciiToLowerCasePinLaw" 32 := hcalls.1 _ (List.mem_of_getElem? (i := 0) rfl)
  have H7 : Jvm.Lit.constHeld s "java/lang/String" 7 := hcalls.1 _ (List.mem_of_getElem? (i := 1) rfl)
  have HCW := hsets _ (List.mem_of_getElem? (i := 2) rfl)
  obtain ⟨n, o, h1, h2, h3, _, L, rfl, ⟨rfl, N⟩, hq⟩ := rm0 l s _ hw tables_1 i0 i1 i2 i3 s.heap s.heap.size (Nat.le_refl _) GG rfl rfl H32 H7 HCW p e ha hc hk s m _ below hf ((Spec.applies_iff_loose hf).mp happ).1 ⟨rfl, ⟨State.Warmed39.refl s, IB.start⟩, rfl⟩ trivial
  refine ⟨n, _, h1, h2, h3, hpost _ _ _ _ _ _ ⟨Cond.after_iff.mpr rfl, Cond.after_iff.mpr (eq_i res_at (Term.int_eval (1)) rfl), trivial⟩ ⟨hq.1, hq.2.1, hq.2.2.1, (hq.2.2.2.sift fun y hy => Or.inr (N y hy)).mono (by decide) (by decide)⟩⟩
theorem main_1_1 : Claimed_1_1 := comes_1 fun _ _ _ _ _ _ h hF => ⟨h.1, hF⟩
theorem main_1_2 : Claimed_1_2 := comes_1 fun _ _ _ _ _ _ h hF => ⟨h.2.1, hF⟩
end Jvm.Pilot.@@N@@
namespace Jvm.Pilot.@@N@@
open Jvm Jvm.ClassFile Sem Op Lib Jvm.Free Jvm.Stand Jvm.Pilot.@@N@@.Jvm.D
/-! MADE BY PROGRAM (witnessworld.py) out of the Statement's table words and the real class files: 24 classes; the members and pool entries that the words name. The judged class is class 1, her method 1. -/
namespace start1
open Jvm.ClassFile
def u (s : String) : CpInfo := .utf8 (stringToUtf16 s)
/-- a pool by its gaps: so many unusable entries, then the entry; so many at the end -/
def gap : Nat → List CpInfo → List CpInfo
  | 0, r => r
  | n + 1, r => .unusable :: gap n r
def poolList (es : List (Nat × CpInfo)) (last : Nat) : List CpInfo := es.foldr (fun e r => gap e.1 (e.2 :: r)) (gap last [])
def pool (es : List (Nat × CpInfo)) (last : Nat) : Array CpInfo := ⟨poolList es last⟩
def fileOf (pool : Array CpInfo) (this : Nat) (attrs : Array Attribute := #[]) (ms : Array MethodInfo := #[]) (fl : Nat := 33) (sup : Nat := 0) (ifs : Array Nat := #[]) (fds : Array FieldInfo := #[]) : ClassFile where
  minorVersion := 0
  majorVersion := 65
  constantPool := pool
  accessFlags := fl
  thisClass := this
  superClass := sup
  interfaces := ifs
  fields := fds
  methods := ms
  attributes := attrs
def plain (name : String) (sup : Option ClassId) : Class where
  name := name
  kind := .ordinary
  loader := none
  accessFlags := 33
  super := sup
  interfaces := #[]
  cf := none
  fields := #[]
  methods := #[]
  instanceTypes := #[]
  staticTypes := #[]
  resolved := #[]
  callSites := []
  init := .initialized
  statics := none
  mirror := none

def pool0 : Array CpInfo := pool [(5, u "<init>"), (0, u "()V"), (1, .class_ 10), (1, u "java/lang/Object"), (85, u "clone"), (0, u "()Ljava/lang/Object;")] 26

def k0c0 : Code := { maxStack := 0, maxLocals := 1, code := object_method_1_code, exceptionTable := #[], attributes := #[] }
def k0m0 : Method := { name := "<init>", desc := "()V", sig := { parameters := [], returnType := none }, accessFlags := 1, code := some k0c0 }
def k0m1 : Method := { name := "clone", desc := "()Ljava/lang/Object;", sig := { parameters := [], returnType := some (.object "java/lang/Object") }, accessFlags := 260, code := none }
/-- java/lang/Object -/
def k0 : Class := { plain "java/lang/Object" none with
  accessFlags := 33
  interfaces := #[]
  cf := some (fileOf pool0 8 #[] #[{ accessFlags := 1, nameIndex := 5, descriptorIndex := 6, attributes := #[] }, { accessFlags := 260, nameIndex := 96, descriptorIndex := 97, attributes := #[] }] 33 0 #[] #[])
  fields := #[]
  methods := #[k0m0, k0m1]
  instanceTypes := #[]
  staticTypes := #[]
  resolved := Array.replicate 124 none
  statics := none }

def pool1 : Array CpInfo := pool [(2, .class_ 4), (1, u "java/lang/Object"), (0, u "<init>"), (0, u "()V"), (0, .class_ 8), (0, u "java/lang/String"), (0, .methodref 7 10), (0, .nameAndType 5 11), (0, u "([C)V"), (0, .methodref 13 14), (0, .class_ 15), (0, .nameAndType 16 17), (0, u "com/example/usher_frames/usherframes/text/Ascii"), (0, u "toLowerCase"), (0, u "(Ljava/lang/String;)Ljava/lang/String;"), (0, .methodref 7 19), (0, .nameAndType 20 21), (0, u "length"), (0, u "()I"), (0, .methodref 7 23), (0, .nameAndType 24 25), (0, u "charAt"), (0, u "(I)C"), (0, .methodref 27 28), (0, .class_ 29), (0, .nameAndType 30 31), (0, u "com/example/usher_frames/usherframes/text/AsciiToLowerCasePinLaw"), (0, u "ok"), (0, u "(CC)Z"), (0, .string 33), (0, u "abcdefghijklmnopqrstuvwxyz"), (2, u "law"), (0, u "(IIII)Z")] 5

def k1m0 : Method := { name := "<init>", desc := "()V", sig := { parameters := [], returnType := none }, accessFlags := 1, code := none }
def k1c1 : Code := { maxStack := 4, maxLocals := 10, code := code, exceptionTable := #[], attributes := #[] }
def k1m1 : Method := { name := "law", desc := "(IIII)Z", sig := { parameters := [.int, .int, .int, .int], returnType := some .boolean }, accessFlags := 9, code := some k1c1 }
def k1c2 : Code := { maxStack := 4, maxLocals := 2, code := method_3_code, exceptionTable := #[], attributes := #[] }
def k1m2 : Method := { name := "ok", desc := "(CC)Z", sig := { parameters := [.char, .char], returnType := some .boolean }, accessFlags := 10, code := some k1c2 }
/-- com/example/usher_frames/usherframes/text/AsciiToLowerCasePinLaw -/
def k1 : Class := { plain "com/example/usher_frames/usherframes/text/AsciiToLowerCasePinLaw" (some 0) with
  accessFlags := 49
  interfaces := #[]
  cf := some (fileOf pool1 27 #[] #[{ accessFlags := 1, nameIndex := 5, descriptorIndex := 6, attributes := #[] }, { accessFlags := 9, nameIndex := 36, descriptorIndex := 37, attributes := #[] }, { accessFlags := 10, nameIndex := 30, descriptorIndex := 31, attributes := #[] }] 49 2 #[] #[])
  fields := #[]
  methods := #[k1m0, k1m1, k1m2]
  instanceTypes := #[]
  staticTypes := #[]
  resolved := Array.replicate 43 none
  statics := none }

def pool2 : Array CpInfo := pool [(1, .class_ 2), (0, u "java/io/Serializable"), (0, .class_ 4), (0, u "java/lang/Object")] 2

/-- java/io/Serializable -/
def k2 : Class := { plain "java/io/Serializable" (some 0) with
  accessFlags := 1537
  interfaces := #[]
  cf := some (fileOf pool2 1 #[] #[] 1537 3 #[] #[])
  fields := #[]
  methods := #[]
  instanceTypes := #[]
  staticTypes := #[]
  resolved := Array.replicate 7 none
  statics := none }

def pool3 : Array CpInfo := pool [(1, .class_ 2), (0, u "java/lang/Comparable"), (0, .class_ 4), (0, u "java/lang/Object")] 7

/-- java/lang/Comparable -/
def k3 : Class := { plain "java/lang/Comparable" (some 0) with
  accessFlags := 1537
  interfaces := #[]
  cf := some (fileOf pool3 1 #[] #[] 1537 3 #[] #[])
  fields := #[]
  methods := #[]
  instanceTypes := #[]
  staticTypes := #[]
  resolved := Array.replicate 12 none
  statics := none }

def pool4 : Array CpInfo := pool [(2, .class_ 4), (1, u "java/lang/CharSequence"), (42, .class_ 48), (0, u "java/lang/CharSequence$1CodePointIterator"), (10, .class_ 60), (0, u "java/lang/CharSequence$1CharIterator"), (5, .class_ 67), (0, u "java/lang/Object")] 63

/-- java/lang/CharSequence -/
def k4 : Class := { plain "java/lang/CharSequence" (some 0) with
  accessFlags := 1537
  interfaces := #[]
  cf := some (fileOf pool4 2 #[.nestMembers #[47, 59]] #[] 1537 66 #[] #[])
  fields := #[]
  methods := #[]
  instanceTypes := #[]
  staticTypes := #[]
  resolved := Array.replicate 131 none
  statics := none }

def pool5 : Array CpInfo := pool [(1, .class_ 2), (0, u "java/lang/constant/Constable"), (0, .class_ 4), (0, u "java/lang/Object")] 6

/-- java/lang/constant/Constable -/
def k5 : Class := { plain "java/lang/constant/Constable" (some 0) with
  accessFlags := 1537
  interfaces := #[]
  cf := some (fileOf pool5 1 #[] #[] 1537 3 #[] #[])
  fields := #[]
  methods := #[]
  instanceTypes := #[]
  staticTypes := #[]
  resolved := Array.replicate 11 none
  statics := none }

def pool6 : Array CpInfo := pool [(1, .class_ 2), (0, u "java/lang/constant/ConstantDesc"), (0, .class_ 4), (0, u "java/lang/Object")] 32

/-- java/lang/constant/ConstantDesc -/
def k6 : Class := { plain "java/lang/constant/ConstantDesc" (some 0) with
  accessFlags := 1537
  interfaces := #[]
  cf := some (fileOf pool6 1 #[] #[] 1537 3 #[] #[])
  fields := #[]
  methods := #[]
  instanceTypes := #[]
  staticTypes := #[]
  resolved := Array.replicate 37 none
  statics := none }

def pool7 : Array CpInfo := pool [(1, .methodref 2 3), (0, .class_ 4), (0, .nameAndType 5 6), (0, u "java/lang/Object"), (0, u "<init>"), (0, u "()V"), (0, .string 8), (0, u ""), (0, .fieldref 10 11), (0, .class_ 12), (0, .nameAndType 13 14), (0, u "java/lang/String"), (0, u "value"), (0, u "[B"), (0, .fieldref 10 16), (0, .nameAndType 17 18), (0, u "coder"), (0, u "B"), (2, u "hash"), (0, u "I"), (2, u "hashIsZero"), (0, u "Z"), (0, .methodref 10 28), (0, .nameAndType 5 29), (0, u "([CIILjava/lang/Void;)V"), (6, u "checkBoundsOffCount"), (0, u "(III)I"), (0, .fieldref 10 39), (0, .nameAndType 40 26), (0, u "COMPACT_STRINGS"), (1, .class_ 44), (1, u "java/lang/StringUTF16"), (0, u "compress"), (1, .methodref 42 48), (0, .nameAndType 49 50), (0, u "coderFromArrayLen"), (0, u "([BI)B"), (3, .methodref 55 56), (0, .class_ 57), (0, .nameAndType 58 59), (0, u "java/util/Arrays"), (0, u "copyOfRange"), (0, u "([BII)[B"), (47, .class_ 109), (1, u "java/lang/StringLatin1"), (32, u "()Z"), (34, .methodref 42 178), (0, .nameAndType 45 179), (0, u "([CII)[B"), (154, u "()I"), (0, .methodref 10 336), (0, .nameAndType 17 337), (0, u "()B"), (2, u "()[B"), (22, u "([BI)C"), (27, u "(II)V"), (35, u "(I)C"), (61, .methodref 10 490), (0, .nameAndType 5 491), (0, u "(Ljava/lang/AbstractStringBuilder;Ljava/lang/Void;)V"), (0, .methodref 10 493), (0, .nameAndType 494 142), (0, u "isLatin1"), (0, .methodref 107 496), (0, .nameAndType 497 363), (0, u "charAt"), (0, .methodref 42 496), (2, u "checkIndex"), (4, .nameAndType 507 334), (0, u "length"), (41, .methodref 550 506), (0, .class_ 551), (0, u "java/lang/AbstractStringBuilder"), (0, .methodref 550 553), (0, .nameAndType 554 340), (0, u "getValue"), (20, .class_ 576), (0, u "java/lang/CharSequence"), (22, u "CASE_INSENSITIVE_ORDER"), (0, u "Ljava/util/Comparator;"), (409, u "([C)V"), (36, .methodref 550 493), (0, .fieldref 550 1049), (0, .nameAndType 1050 26), (0, u "maybeLatin1"), (2, .fieldref 1054 1055), (0, .class_ 1056), (0, .nameAndType 1057 1058), (0, u "jdk/internal/util/Preconditions"), (0, u "SIOOBE_FORMATTER"), (0, u "Ljava/util/function/BiFunction;"), (0, .methodref 1054 1060), (0, .nameAndType 501 1061), (0, u "(IILjava/util/function/BiFunction;)I"), (2, u "(IIILjava/util/function/BiFunction;)I"), (0, .methodref 1054 1066), (0, .nameAndType 1067 1064), (0, u "checkFromIndexSize"), (33, u "serialPersistentFields"), (0, u "[Ljava/io/ObjectStreamField;"), (0, .class_ 1104), (0, u "java/lang/String$CaseInsensitiveComparator"), (1, .class_ 1107), (0, u "java/io/Serializable"), (0, .class_ 1109), (0, u "java/lang/Comparable"), (0, .class_ 1111), (0, u "java/lang/constant/Constable"), (0, .class_ 1113), (0, u "java/lang/constant/ConstantDesc"), (2, u "serialVersionUID"), (0, u "J"), (3, u "REPL"), (0, u "C"), (2, u "LATIN1"), (1, u "UTF16"), (105, u "(Ljava/lang/StringBuilder;)V")] 217

def k7m0 : Method := { name := "<init>", desc := "()V", sig := { parameters := [], returnType := none }, accessFlags := 1, code := none }
def k7c1 : Code := { maxStack := 5, maxLocals := 2, code := jdk_42_method_3_code, exceptionTable := #[], attributes := #[] }
def k7m1 : Method := { name := "<init>", desc := "([C)V", sig := { parameters := [(.array .char)], returnType := none }, accessFlags := 1, code := some k7c1 }
def k7c2 : Code := { maxStack := 3, maxLocals := 2, code := jdk_42_method_53_code, exceptionTable := #[], attributes := #[] }
def k7m2 : Method := { name := "<init>", desc := "(Ljava/lang/StringBuilder;)V", sig := { parameters := [(.object "java/lang/StringBuilder")], returnType := none }, accessFlags := 1, code := some k7c2 }
def k7c3 : Code := { maxStack := 2, maxLocals := 1, code := jdk_42_method_54_code, exceptionTable := #[], attributes := #[] }
def k7m3 : Method := { name := "length", desc := "()I", sig := { parameters := [], returnType := some .int }, accessFlags := 1, code := some k7c3 }
def k7c4 : Code := { maxStack := 2, maxLocals := 2, code := jdk_42_method_56_code, exceptionTable := #[], attributes := #[] }
def k7m4 : Method := { name := "charAt", desc := "(I)C", sig := { parameters := [.int], returnType := some .char }, accessFlags := 1, code := some k7c4 }
def k7c5 : Code := { maxStack := 4, maxLocals := 6, code := jdk_42_method_149_code, exceptionTable := #[], attributes := #[] }
def k7m5 : Method := { name := "<init>", desc := "([CIILjava/lang/Void;)V", sig := { parameters := [(.array .char), .int, .int, (.object "java/lang/Void")], returnType := none }, accessFlags := 2, code := some k7c5 }
def k7c6 : Code := { maxStack := 5, maxLocals := 5, code := jdk_42_method_150_code, exceptionTable := #[], attributes := #[] }
def k7m6 : Method := { name := "<init>", desc := "(Ljava/lang/AbstractStringBuilder;Ljava/lang/Void;)V", sig := { parameters := [(.object "java/lang/AbstractStringBuilder"), (.object "java/lang/Void")], returnType := none }, accessFlags := 0, code := some k7c6 }
def k7c7 : Code := { maxStack := 1, maxLocals := 1, code := jdk_42_method_152_code, exceptionTable := #[], attributes := #[] }
def k7m7 : Method := { name := "coder", desc := "()B", sig := { parameters := [], returnType := some .byte }, accessFlags := 0, code := some k7c7 }
def k7c8 : Code := { maxStack := 1, maxLocals := 1, code := jdk_42_method_154_code, exceptionTable := #[], attributes := #[] }
def k7m8 : Method := { name := "isLatin1", desc := "()Z", sig := { parameters := [], returnType := some .boolean }, accessFlags := 0, code := some k7c8 }
def k7c9 : Code := { maxStack := 3, maxLocals := 2, code := jdk_42_method_155_code, exceptionTable := #[], attributes := #[] }
def k7m9 : Method := { name := "checkIndex", desc := "(II)V", sig := { parameters := [.int, .int], returnType := none }, accessFlags := 8, code := some k7c9 }
def k7c10 : Code := { maxStack := 4, maxLocals := 3, code := jdk_42_method_157_code, exceptionTable := #[], attributes := #[] }
def k7m10 : Method := { name := "checkBoundsOffCount", desc := "(III)I", sig := { parameters := [.int, .int, .int], returnType := some .int }, accessFlags := 8, code := some k7c10 }
/-- java/lang/String -/
def k7 : Class := { plain "java/lang/String" (some 0) with
  accessFlags := 49
  interfaces := #[2, 3, 4, 5, 6]
  cf := some (fileOf pool7 10 #[.nestMembers #[1103]] #[{ accessFlags := 1, nameIndex := 5, descriptorIndex := 6, attributes := #[] }, { accessFlags := 1, nameIndex := 5, descriptorIndex := 1010, attributes := #[] }, { accessFlags := 1, nameIndex := 5, descriptorIndex := 1233, attributes := #[] }, { accessFlags := 1, nameIndex := 507, descriptorIndex := 334, attributes := #[] }, { accessFlags := 1, nameIndex := 497, descriptorIndex := 427, attributes := #[] }, { accessFlags := 2, nameIndex := 5, descriptorIndex := 29, attributes := #[] }, { accessFlags := 0, nameIndex := 5, descriptorIndex := 491, attributes := #[] }, { accessFlags := 0, nameIndex := 17, descriptorIndex := 337, attributes := #[] }, { accessFlags := 0, nameIndex := 494, descriptorIndex := 142, attributes := #[] }, { accessFlags := 8, nameIndex := 501, descriptorIndex := 391, attributes := #[] }, { accessFlags := 8, nameIndex := 36, descriptorIndex := 37, attributes := #[] }] 49 2 #[1106, 1108, 575, 1110, 1112] #[{ accessFlags := 18, nameIndex := 13, descriptorIndex := 14, attributes := #[] }, { accessFlags := 18, nameIndex := 17, descriptorIndex := 18, attributes := #[] }, { accessFlags := 2, nameIndex := 21, descriptorIndex := 22, attributes := #[] }, { accessFlags := 2, nameIndex := 25, descriptorIndex := 26, attributes := #[] }, { accessFlags := 26, nameIndex := 1116, descriptorIndex := 1117, attributes := #[] }, { accessFlags := 24, nameIndex := 40, descriptorIndex := 26, attributes := #[] }, { accessFlags := 26, nameIndex := 1101, descriptorIndex := 1102, attributes := #[] }, { accessFlags := 26, nameIndex := 1121, descriptorIndex := 1122, attributes := #[] }, { accessFlags := 25, nameIndex := 599, descriptorIndex := 600, attributes := #[] }, { accessFlags := 24, nameIndex := 1125, descriptorIndex := 18, attributes := #[] }, { accessFlags := 24, nameIndex := 1127, descriptorIndex := 18, attributes := #[] }])
  fields := #[{ name := "value", type := (.array .byte), accessFlags := 18, slot := 0, constantValue := 0 }, { name := "coder", type := .byte, accessFlags := 18, slot := 1, constantValue := 0 }, { name := "hash", type := .int, accessFlags := 2, slot := 2, constantValue := 0 }, { name := "hashIsZero", type := .boolean, accessFlags := 2, slot := 3, constantValue := 0 }, { name := "serialVersionUID", type := .long, accessFlags := 26, slot := 0, constantValue := 0 }, { name := "COMPACT_STRINGS", type := .boolean, accessFlags := 24, slot := 1, constantValue := 0 }, { name := "serialPersistentFields", type := (.array (.object "java/io/ObjectStreamField")), accessFlags := 26, slot := 2, constantValue := 0 }, { name := "REPL", type := .char, accessFlags := 26, slot := 3, constantValue := 0 }, { name := "CASE_INSENSITIVE_ORDER", type := (.object "java/util/Comparator"), accessFlags := 25, slot := 4, constantValue := 0 }, { name := "LATIN1", type := .byte, accessFlags := 24, slot := 5, constantValue := 0 }, { name := "UTF16", type := .byte, accessFlags := 24, slot := 6, constantValue := 0 }]
  methods := #[k7m0, k7m1, k7m2, k7m3, k7m4, k7m5, k7m6, k7m7, k7m8, k7m9, k7m10]
  instanceTypes := #[(.array .byte), .byte, .int, .boolean]
  staticTypes := #[.long, .boolean, (.array (.object "java/io/ObjectStreamField")), .char, (.object "java/util/Comparator"), .byte, .byte]
  resolved := Array.replicate 1451 none
  statics := some 0 }

def pool8 : Array CpInfo := pool [(2, .class_ 4), (1, u "java/lang/Object"), (0, u "<init>"), (0, u "()V"), (0, .class_ 8), (0, u "java/lang/StringBuilder"), (0, .methodref 10 11), (0, .class_ 12), (0, .nameAndType 13 14), (0, u "java/lang/String"), (0, u "length"), (0, u "()I"), (0, .methodref 7 16), (0, .nameAndType 5 17), (0, u "(I)V"), (0, .methodref 10 19), (0, .nameAndType 20 21), (0, u "charAt"), (0, u "(I)C"), (0, .methodref 23 24), (0, .class_ 25), (0, .nameAndType 26 27), (0, u "com/example/usher_frames/usherframes/text/Ascii"), (0, u "toLowerCase"), (0, u "(I)I"), (0, .methodref 7 29), (0, .nameAndType 30 31), (0, u "append"), (0, u "(C)Ljava/lang/StringBuilder;"), (0, .methodref 7 33), (0, .nameAndType 34 35), (0, u "toString"), (0, u "()Ljava/lang/String;"), (24, u "(Ljava/lang/String;)Ljava/lang/String;")] 10

def k8m0 : Method := { name := "<init>", desc := "()V", sig := { parameters := [], returnType := none }, accessFlags := 2, code := none }
def k8c1 : Code := { maxStack := 3, maxLocals := 4, code := prog_29_method_2_code, exceptionTable := #[], attributes := #[] }
def k8m1 : Method := { name := "toLowerCase", desc := "(Ljava/lang/String;)Ljava/lang/String;", sig := { parameters := [(.object "java/lang/String")], returnType := some (.object "java/lang/String") }, accessFlags := 9, code := some k8c1 }
def k8c2 : Code := { maxStack := 2, maxLocals := 1, code := prog_29_method_3_code, exceptionTable := #[], attributes := #[] }
def k8m2 : Method := { name := "toLowerCase", desc := "(I)I", sig := { parameters := [.int], returnType := some .int }, accessFlags := 9, code := some k8c2 }
/-- com/example/usher_frames/usherframes/text/Ascii -/
def k8 : Class := { plain "com/example/usher_frames/usherframes/text/Ascii" (some 0) with
  accessFlags := 33
  interfaces := #[]
  cf := some (fileOf pool8 23 #[] #[{ accessFlags := 2, nameIndex := 5, descriptorIndex := 6, attributes := #[] }, { accessFlags := 9, nameIndex := 26, descriptorIndex := 60, attributes := #[] }, { accessFlags := 9, nameIndex := 26, descriptorIndex := 27, attributes := #[] }] 33 2 #[] #[])
  fields := #[]
  methods := #[k8m0, k8m1, k8m2]
  instanceTypes := #[]
  staticTypes := #[]
  resolved := Array.replicate 71 none
  statics := none }

def pool9 : Array CpInfo := pool [(1, .class_ 2), (0, u "java/lang/Appendable"), (0, .class_ 4), (0, u "java/lang/Object")] 9

/-- java/lang/Appendable -/
def k9 : Class := { plain "java/lang/Appendable" (some 0) with
  accessFlags := 1537
  interfaces := #[]
  cf := some (fileOf pool9 1 #[] #[] 1537 3 #[] #[])
  fields := #[]
  methods := #[]
  instanceTypes := #[]
  staticTypes := #[]
  resolved := Array.replicate 14 none
  statics := none }

def pool10 : Array CpInfo := pool [(1, .class_ 2), (0, u "java/lang/String"), (0, .methodref 4 5), (0, .class_ 6), (0, .nameAndType 7 8), (0, u "java/lang/Object"), (0, u "<init>"), (0, u "()V"), (1, .class_ 12), (1, u "java/lang/AbstractStringBuilder"), (0, u "EMPTYVALUE"), (0, u "[B"), (0, .fieldref 10 16), (0, .nameAndType 17 14), (0, u "value"), (0, .fieldref 1 19), (0, .nameAndType 20 21), (0, u "COMPACT_STRINGS"), (0, u "Z"), (0, .fieldref 10 23), (0, .nameAndType 24 25), (0, u "coder"), (0, u "B"), (0, .methodref 27 28), (0, .class_ 29), (0, .nameAndType 30 31), (0, u "java/lang/StringUTF16"), (0, u "newBytesFor"), (0, u "(I)[B"), (2, u "length"), (0, u "()I"), (9, u "append"), (2, .class_ 49), (0, u "java/lang/CharSequence"), (25, u "maybeLatin1"), (3, .fieldref 10 80), (0, .nameAndType 81 82), (0, u "count"), (0, u "I"), (0, .methodref 10 84), (0, .nameAndType 85 86), (0, u "isLatin1"), (0, u "()Z"), (1, .class_ 90), (1, u "java/lang/StringLatin1"), (9, .methodref 10 101), (0, .nameAndType 102 103), (0, u "ensureCapacityInternal"), (0, u "(I)V"), (21, .methodref 88 126), (0, .nameAndType 127 128), (0, u "inflate"), (0, u "([BI[BII)V"), (7, u "([BII)V"), (54, .methodref 88 192), (0, .nameAndType 193 194), (0, u "canEncode"), (0, u "(C)Z"), (0, .methodref 10 196), (0, .nameAndType 127 8), (0, .methodref 27 198), (0, .nameAndType 199 136), (0, u "putCharSB"), (92, u "(C)Ljava/lang/AbstractStringBuilder;"), (110, u "()[B"), (40, .class_ 445), (0, u "java/lang/Appendable"), (106, u "getValue")] 56

def k10m0 : Method := { name := "<init>", desc := "()V", sig := { parameters := [], returnType := none }, accessFlags := 0, code := none }
def k10c1 : Code := { maxStack := 2, maxLocals := 2, code := jdk_68_method_2_code, exceptionTable := #[], attributes := #[] }
def k10m1 : Method := { name := "<init>", desc := "(I)V", sig := { parameters := [.int], returnType := none }, accessFlags := 0, code := some k10c1 }
def k10c2 : Code := { maxStack := 1, maxLocals := 1, code := jdk_68_method_6_code, exceptionTable := #[], attributes := #[] }
def k10m2 : Method := { name := "length", desc := "()I", sig := { parameters := [], returnType := some .int }, accessFlags := 1, code := some k10c2 }
def k10c3 : Code := { maxStack := 4, maxLocals := 3, code := jdk_68_method_9_code, exceptionTable := #[], attributes := #[] }
def k10m3 : Method := { name := "ensureCapacityInternal", desc := "(I)V", sig := { parameters := [.int], returnType := none }, accessFlags := 2, code := some k10c3 }
def k10c4 : Code := { maxStack := 5, maxLocals := 2, code := jdk_68_method_11_code, exceptionTable := #[], attributes := #[] }
def k10m4 : Method := { name := "inflate", desc := "()V", sig := { parameters := [], returnType := none }, accessFlags := 2, code := some k10c4 }
def k10c5 : Code := { maxStack := 5, maxLocals := 2, code := jdk_68_method_31_code, exceptionTable := #[], attributes := #[] }
def k10m5 : Method := { name := "append", desc := "(C)Ljava/lang/AbstractStringBuilder;", sig := { parameters := [.char], returnType := some (.object "java/lang/AbstractStringBuilder") }, accessFlags := 1, code := some k10c5 }
def k10c6 : Code := { maxStack := 1, maxLocals := 1, code := jdk_68_method_64_code, exceptionTable := #[], attributes := #[] }
def k10m6 : Method := { name := "getValue", desc := "()[B", sig := { parameters := [], returnType := some (.array .byte) }, accessFlags := 16, code := some k10c6 }
def k10c7 : Code := { maxStack := 1, maxLocals := 1, code := jdk_68_method_68_code, exceptionTable := #[], attributes := #[] }
def k10m7 : Method := { name := "isLatin1", desc := "()Z", sig := { parameters := [], returnType := some .boolean }, accessFlags := 16, code := some k10c7 }
/-- java/lang/AbstractStringBuilder -/
def k10 : Class := { plain "java/lang/AbstractStringBuilder" (some 0) with
  accessFlags := 1056
  interfaces := #[9, 4]
  cf := some (fileOf pool10 10 #[] #[{ accessFlags := 0, nameIndex := 7, descriptorIndex := 8, attributes := #[] }, { accessFlags := 0, nameIndex := 7, descriptorIndex := 103, attributes := #[] }, { accessFlags := 1, nameIndex := 34, descriptorIndex := 35, attributes := #[] }, { accessFlags := 2, nameIndex := 102, descriptorIndex := 103, attributes := #[] }, { accessFlags := 2, nameIndex := 127, descriptorIndex := 8, attributes := #[] }, { accessFlags := 1, nameIndex := 45, descriptorIndex := 292, attributes := #[] }, { accessFlags := 16, nameIndex := 552, descriptorIndex := 403, attributes := #[] }, { accessFlags := 16, nameIndex := 85, descriptorIndex := 86, attributes := #[] }] 1056 4 #[444, 48] #[{ accessFlags := 0, nameIndex := 17, descriptorIndex := 14, attributes := #[] }, { accessFlags := 0, nameIndex := 24, descriptorIndex := 25, attributes := #[] }, { accessFlags := 0, nameIndex := 75, descriptorIndex := 21, attributes := #[] }, { accessFlags := 0, nameIndex := 81, descriptorIndex := 82, attributes := #[] }, { accessFlags := 26, nameIndex := 13, descriptorIndex := 14, attributes := #[] }])
  fields := #[{ name := "value", type := (.array .byte), accessFlags := 0, slot := 0, constantValue := 0 }, { name := "coder", type := .byte, accessFlags := 0, slot := 1, constantValue := 0 }, { name := "maybeLatin1", type := .boolean, accessFlags := 0, slot := 2, constantValue := 0 }, { name := "count", type := .int, accessFlags := 0, slot := 3, constantValue := 0 }, { name := "EMPTYVALUE", type := (.array .byte), accessFlags := 26, slot := 0, constantValue := 0 }]
  methods := #[k10m0, k10m1, k10m2, k10m3, k10m4, k10m5, k10m6, k10m7]
  instanceTypes := #[(.array .byte), .byte, .boolean, .int]
  staticTypes := #[(.array .byte)]
  resolved := Array.replicate 609 none
  statics := none }

def pool11 : Array CpInfo := pool [(1, .methodref 2 3), (0, .class_ 4), (0, .nameAndType 5 6), (0, u "java/lang/AbstractStringBuilder"), (0, u "<init>"), (0, u "(I)V"), (11, .class_ 20), (1, u "java/lang/String"), (3, .class_ 26), (1, u "java/lang/StringBuilder"), (0, u "append"), (22, .methodref 2 51), (0, .nameAndType 27 52), (0, u "(C)Ljava/lang/AbstractStringBuilder;"), (84, .methodref 18 138), (0, .nameAndType 5 139), (0, u "(Ljava/lang/StringBuilder;)V"), (5, u "()V"), (10, u "()I"), (129, u "(C)Ljava/lang/StringBuilder;"), (56, .methodref 2 344), (0, .nameAndType 345 156), (0, u "length"), (3, .class_ 350), (0, u "java/lang/Appendable"), (0, .class_ 352), (0, u "java/io/Serializable"), (0, .class_ 354), (0, u "java/lang/Comparable"), (0, .class_ 356), (0, u "java/lang/CharSequence"), (0, u "serialVersionUID"), (0, u "J"), (40, u "toString"), (0, u "()Ljava/lang/String;")] 21

def k11m0 : Method := { name := "<init>", desc := "()V", sig := { parameters := [], returnType := none }, accessFlags := 1, code := none }
def k11c1 : Code := { maxStack := 2, maxLocals := 2, code := jdk_67_method_2_code, exceptionTable := #[], attributes := #[] }
def k11m1 : Method := { name := "<init>", desc := "(I)V", sig := { parameters := [.int], returnType := none }, accessFlags := 1, code := some k11c1 }
def k11c2 : Code := { maxStack := 2, maxLocals := 2, code := jdk_67_method_14_code, exceptionTable := #[], attributes := #[] }
def k11m2 : Method := { name := "append", desc := "(C)Ljava/lang/StringBuilder;", sig := { parameters := [.char], returnType := some (.object "java/lang/StringBuilder") }, accessFlags := 1, code := some k11c2 }
def k11c3 : Code := { maxStack := 3, maxLocals := 1, code := jdk_67_method_42_code, exceptionTable := #[], attributes := #[] }
def k11m3 : Method := { name := "toString", desc := "()Ljava/lang/String;", sig := { parameters := [], returnType := some (.object "java/lang/String") }, accessFlags := 1, code := some k11c3 }
def k11c4 : Code := { maxStack := 1, maxLocals := 1, code := jdk_67_method_93_code, exceptionTable := #[], attributes := #[] }
def k11m4 : Method := { name := "length", desc := "()I", sig := { parameters := [], returnType := some .int }, accessFlags := 4161, code := some k11c4 }
/-- java/lang/StringBuilder -/
def k11 : Class := { plain "java/lang/StringBuilder" (some 10) with
  accessFlags := 49
  interfaces := #[9, 2, 3, 4]
  cf := some (fileOf pool11 24 #[] #[{ accessFlags := 1, nameIndex := 5, descriptorIndex := 145, attributes := #[] }, { accessFlags := 1, nameIndex := 5, descriptorIndex := 6, attributes := #[] }, { accessFlags := 1, nameIndex := 27, descriptorIndex := 286, attributes := #[] }, { accessFlags := 1, nameIndex := 399, descriptorIndex := 400, attributes := #[] }, { accessFlags := 4161, nameIndex := 345, descriptorIndex := 156, attributes := #[] }] 49 2 #[349, 351, 353, 355] #[{ accessFlags := 24, nameIndex := 357, descriptorIndex := 358, attributes := #[] }])
  fields := #[{ name := "serialVersionUID", type := .long, accessFlags := 24, slot := 0, constantValue := 0 }]
  methods := #[k11m0, k11m1, k11m2, k11m3, k11m4]
  instanceTypes := #[(.array .byte), .byte, .boolean, .int]
  staticTypes := #[.long]
  resolved := Array.replicate 422 none
  statics := none }

def pool12 : Array CpInfo := pool [(2, .class_ 4), (1, u "java/lang/Object"), (0, u "<init>"), (0, u "()V"), (7, .class_ 16), (1, u "java/util/Arrays"), (57, .class_ 76), (1, u "java/util/Arrays$NaturalOrder"), (32, u "()Ljava/lang/Object;"), (3, .class_ 115), (1, u "java/util/Arrays$LegacyMergeSort"), (1, u "Z"), (10, .nameAndType 129 109), (0, u "clone"), (9, u "copyOfRange"), (170, .methodref 311 128), (0, .class_ 312), (0, u "[B"), (29, u "([BII)[B"), (32, .class_ 376), (0, u "java/util/Arrays$ArrayList"), (68, u "$assertionsDisabled"), (269, u "MIN_ARRAY_SORT_GRAN"), (0, u "I"), (2, u "INSERTIONSORT_THRESHOLD"), (255, .class_ 976), (0, u "java/util/Arrays$ArrayItr")] 52

def k12m0 : Method := { name := "<init>", desc := "()V", sig := { parameters := [], returnType := none }, accessFlags := 2, code := none }
def k12c1 : Code := { maxStack := 3, maxLocals := 3, code := jdk_65_method_132_code, exceptionTable := #[], attributes := #[] }
def k12m1 : Method := { name := "copyOfRange", desc := "([BII)[B", sig := { parameters := [(.array .byte), .int, .int], returnType := some (.array .byte) }, accessFlags := 9, code := some k12c1 }
/-- java/util/Arrays -/
def k12 : Class := { plain "java/util/Arrays" (some 0) with
  accessFlags := 49
  interfaces := #[]
  cf := some (fileOf pool12 14 #[.nestMembers #[975, 375, 113, 74]] #[{ accessFlags := 2, nameIndex := 5, descriptorIndex := 6, attributes := #[] }, { accessFlags := 9, nameIndex := 139, descriptorIndex := 342, attributes := #[] }] 49 2 #[] #[{ accessFlags := 26, nameIndex := 715, descriptorIndex := 716, attributes := #[] }, { accessFlags := 26, nameIndex := 719, descriptorIndex := 716, attributes := #[] }, { accessFlags := 4120, nameIndex := 445, descriptorIndex := 117, attributes := #[] }])
  fields := #[{ name := "MIN_ARRAY_SORT_GRAN", type := .int, accessFlags := 26, slot := 0, constantValue := 0 }, { name := "INSERTIONSORT_THRESHOLD", type := .int, accessFlags := 26, slot := 1, constantValue := 0 }, { name := "$assertionsDisabled", type := .boolean, accessFlags := 4120, slot := 2, constantValue := 0 }]
  methods := #[k12m0, k12m1]
  instanceTypes := #[]
  staticTypes := #[.int, .int, .boolean]
  resolved := Array.replicate 1029 none
  statics := none }

def pool13 : Array CpInfo := pool [(1, .class_ 2), (0, u "java/lang/Cloneable"), (0, .class_ 4), (0, u "java/lang/Object")] 2

/-- java/lang/Cloneable -/
def k13 : Class := { plain "java/lang/Cloneable" (some 0) with
  accessFlags := 1537
  interfaces := #[]
  cf := some (fileOf pool13 1 #[] #[] 1537 3 #[] #[])
  fields := #[]
  methods := #[]
  instanceTypes := #[]
  staticTypes := #[]
  resolved := Array.replicate 7 none
  statics := none }

def pool14 : Array CpInfo := pool [(3, .class_ 4), (0, u "java/lang/String"), (1, .class_ 8), (1, u "java/lang/Object"), (0, u "<init>"), (0, u "()V"), (0, .methodref 12 13), (0, .class_ 14), (0, .nameAndType 15 16), (0, u "java/lang/StringUTF16"), (0, u "newBytesLength"), (0, u "(I)I"), (3, .integer 1073741823), (23, .fieldref 12 45), (0, .nameAndType 46 47), (0, u "$assertionsDisabled"), (0, u "Z"), (0, .methodref 12 49), (0, .nameAndType 50 51), (0, u "length"), (0, u "([B)I"), (7, .fieldref 12 60), (0, .nameAndType 61 62), (0, u "HI_BYTE_SHIFT"), (0, u "I"), (0, .fieldref 12 64), (0, .nameAndType 65 62), (0, u "LO_BYTE_SHIFT"), (1, .methodref 12 68), (0, .nameAndType 69 70), (0, u "checkIndex"), (0, u "(I[B)V"), (0, .methodref 12 72), (0, .nameAndType 73 74), (0, u "getChar"), (0, u "([BI)C"), (24, u "(II[B)V"), (7, .methodref 12 108), (0, .nameAndType 109 110), (0, u "newBytesFor"), (0, u "(I)[B"), (0, .methodref 12 112), (0, .nameAndType 113 114), (0, u "putChar"), (0, u "([BII)V"), (0, .methodref 12 116), (0, .nameAndType 117 118), (0, u "compress"), (0, u "([CI[BII)I"), (0, .methodref 12 120), (0, .nameAndType 121 122), (0, u "toBytes"), (0, u "([CII)[B"), (17, u "inflate"), (0, u "([BI[BII)V"), (31, .methodref 12 174), (0, .nameAndType 175 99), (0, u "checkBoundsOffCount"), (85, u "coderFromArrayLen"), (0, u "([BI)B"), (18, u "(III)I"), (87, .class_ 371), (1, u "java/lang/StringUTF16$LinesSpliterator"), (20, u "charAt"), (21, .methodref 3 415), (0, .nameAndType 69 416), (0, u "(II)V"), (2, .methodref 3 420), (0, .nameAndType 175 281), (9, u "MAX_LENGTH"), (155, u "putCharSB"), (40, .class_ 628), (0, u "java/lang/StringUTF16$CodePointsSpliterator"), (0, .class_ 630), (0, u "java/lang/StringUTF16$CharsSpliterator")] 4

def k14m0 : Method := { name := "<init>", desc := "()V", sig := { parameters := [], returnType := none }, accessFlags := 0, code := none }
def k14c1 : Code := { maxStack := 1, maxLocals := 1, code := jdk_52_method_2_code, exceptionTable := #[], attributes := #[] }
def k14m1 : Method := { name := "newBytesFor", desc := "(I)[B", sig := { parameters := [.int], returnType := some (.array .byte) }, accessFlags := 9, code := some k14c1 }
def k14c2 : Code := { maxStack := 4, maxLocals := 1, code := jdk_52_method_3_code, exceptionTable := #[], attributes := #[] }
def k14m2 : Method := { name := "newBytesLength", desc := "(I)I", sig := { parameters := [.int], returnType := some .int }, accessFlags := 9, code := some k14c2 }
def k14c3 : Code := { maxStack := 4, maxLocals := 3, code := jdk_52_method_4_code, exceptionTable := #[], attributes := #[] }
def k14m3 : Method := { name := "putChar", desc := "([BII)V", sig := { parameters := [(.array .byte), .int, .int], returnType := none }, accessFlags := 8, code := some k14c3 }
def k14c4 : Code := { maxStack := 3, maxLocals := 2, code := jdk_52_method_5_code, exceptionTable := #[], attributes := #[] }
def k14m4 : Method := { name := "getChar", desc := "([BI)C", sig := { parameters := [(.array .byte), .int], returnType := some .char }, accessFlags := 8, code := some k14c4 }
def k14c5 : Code := { maxStack := 2, maxLocals := 1, code := jdk_52_method_6_code, exceptionTable := #[], attributes := #[] }
def k14m5 : Method := { name := "length", desc := "([B)I", sig := { parameters := [(.array .byte)], returnType := some .int }, accessFlags := 9, code := some k14c5 }
def k14c6 : Code := { maxStack := 4, maxLocals := 5, code := jdk_52_method_14_code, exceptionTable := #[], attributes := #[] }
def k14m6 : Method := { name := "toBytes", desc := "([CII)[B", sig := { parameters := [(.array .char), .int, .int], returnType := some (.array .byte) }, accessFlags := 9, code := some k14c6 }
def k14c7 : Code := { maxStack := 2, maxLocals := 2, code := jdk_52_method_15_code, exceptionTable := #[], attributes := #[] }
def k14m7 : Method := { name := "coderFromArrayLen", desc := "([BI)B", sig := { parameters := [(.array .byte), .int], returnType := some .byte }, accessFlags := 8, code := some k14c7 }
def k14c8 : Code := { maxStack := 5, maxLocals := 6, code := jdk_52_method_16_code, exceptionTable := #[], attributes := #[] }
def k14m8 : Method := { name := "compress", desc := "([CII)[B", sig := { parameters := [(.array .char), .int, .int], returnType := some (.array .byte) }, accessFlags := 9, code := some k14c8 }
def k14c9 : Code := { maxStack := 3, maxLocals := 7, code := jdk_52_method_21_code, exceptionTable := #[], attributes := #[] }
def k14m9 : Method := { name := "compress", desc := "([CI[BII)I", sig := { parameters := [(.array .char), .int, (.array .byte), .int, .int], returnType := some .int }, accessFlags := 9, code := some k14c9 }
def k14c10 : Code := { maxStack := 3, maxLocals := 3, code := jdk_52_method_71_code, exceptionTable := #[], attributes := #[] }
def k14m10 : Method := { name := "putCharSB", desc := "([BII)V", sig := { parameters := [(.array .byte), .int, .int], returnType := none }, accessFlags := 9, code := some k14c10 }
def k14c11 : Code := { maxStack := 2, maxLocals := 2, code := jdk_52_method_83_code, exceptionTable := #[], attributes := #[] }
def k14m11 : Method := { name := "charAt", desc := "([BI)C", sig := { parameters := [(.array .byte), .int], returnType := some .char }, accessFlags := 9, code := some k14c11 }
def k14c12 : Code := { maxStack := 4, maxLocals := 6, code := jdk_52_method_86_code, exceptionTable := #[], attributes := #[] }
def k14m12 : Method := { name := "inflate", desc := "([BI[BII)V", sig := { parameters := [(.array .byte), .int, (.array .byte), .int, .int], returnType := none }, accessFlags := 9, code := some k14c12 }
def k14c13 : Code := { maxStack := 2, maxLocals := 2, code := jdk_52_method_91_code, exceptionTable := #[], attributes := #[] }
def k14m13 : Method := { name := "checkIndex", desc := "(I[B)V", sig := { parameters := [.int, (.array .byte)], returnType := none }, accessFlags := 9, code := some k14c13 }
def k14c14 : Code := { maxStack := 3, maxLocals := 3, code := jdk_52_method_94_code, exceptionTable := #[], attributes := #[] }
def k14m14 : Method := { name := "checkBoundsOffCount", desc := "(II[B)V", sig := { parameters := [.int, .int, (.array .byte)], returnType := none }, accessFlags := 9, code := some k14c14 }
/-- java/lang/StringUTF16 -/
def k14 : Class := { plain "java/lang/StringUTF16" (some 0) with
  accessFlags := 48
  interfaces := #[]
  cf := some (fileOf pool14 12 #[.nestMembers #[627, 629, 369]] #[{ accessFlags := 0, nameIndex := 9, descriptorIndex := 10, attributes := #[] }, { accessFlags := 9, nameIndex := 109, descriptorIndex := 110, attributes := #[] }, { accessFlags := 9, nameIndex := 15, descriptorIndex := 16, attributes := #[] }, { accessFlags := 8, nameIndex := 113, descriptorIndex := 114, attributes := #[] }, { accessFlags := 8, nameIndex := 73, descriptorIndex := 74, attributes := #[] }, { accessFlags := 9, nameIndex := 50, descriptorIndex := 51, attributes := #[] }, { accessFlags := 9, nameIndex := 121, descriptorIndex := 122, attributes := #[] }, { accessFlags := 8, nameIndex := 261, descriptorIndex := 262, attributes := #[] }, { accessFlags := 9, nameIndex := 117, descriptorIndex := 122, attributes := #[] }, { accessFlags := 9, nameIndex := 117, descriptorIndex := 118, attributes := #[] }, { accessFlags := 9, nameIndex := 586, descriptorIndex := 114, attributes := #[] }, { accessFlags := 9, nameIndex := 392, descriptorIndex := 74, attributes := #[] }, { accessFlags := 9, nameIndex := 140, descriptorIndex := 141, attributes := #[] }, { accessFlags := 9, nameIndex := 69, descriptorIndex := 70, attributes := #[] }, { accessFlags := 9, nameIndex := 175, descriptorIndex := 99, attributes := #[] }] 48 6 #[] #[{ accessFlags := 26, nameIndex := 61, descriptorIndex := 62, attributes := #[] }, { accessFlags := 26, nameIndex := 65, descriptorIndex := 62, attributes := #[] }, { accessFlags := 24, nameIndex := 430, descriptorIndex := 62, attributes := #[] }, { accessFlags := 4120, nameIndex := 46, descriptorIndex := 47, attributes := #[] }])
  fields := #[{ name := "HI_BYTE_SHIFT", type := .int, accessFlags := 26, slot := 0, constantValue := 0 }, { name := "LO_BYTE_SHIFT", type := .int, accessFlags := 26, slot := 1, constantValue := 0 }, { name := "MAX_LENGTH", type := .int, accessFlags := 24, slot := 2, constantValue := 0 }, { name := "$assertionsDisabled", type := .boolean, accessFlags := 4120, slot := 3, constantValue := 0 }]
  methods := #[k14m0, k14m1, k14m2, k14m3, k14m4, k14m5, k14m6, k14m7, k14m8, k14m9, k14m10, k14m11, k14m12, k14m13, k14m14]
  instanceTypes := #[]
  staticTypes := #[.int, .int, .int, .boolean]
  resolved := Array.replicate 635 none
  statics := some 1 }

def pool15 : Array CpInfo := pool [(1, .class_ 2), (0, u "java/lang/String"), (1, .class_ 6), (1, u "java/lang/Object"), (0, u "<init>"), (0, u "()V"), (0, .methodref 1 10), (0, .nameAndType 11 12), (0, u "checkIndex"), (0, u "(II)V"), (1, .class_ 16), (1, u "java/lang/StringLatin1"), (0, u "inflate"), (2, .class_ 22), (1, u "java/lang/StringUTF16"), (3, .nameAndType 17 27), (0, u "([BI[BII)V"), (25, u "([BI)C"), (36, u "canEncode"), (14, u "(C)Z"), (15, u "$assertionsDisabled"), (0, u "Z"), (98, .class_ 223), (1, u "java/lang/StringLatin1$LinesSpliterator"), (16, .methodref 20 26), (11, u "charAt"), (137, .class_ 391), (0, u "java/lang/StringLatin1$CharsSpliterator")] 3

def k15m0 : Method := { name := "<init>", desc := "()V", sig := { parameters := [], returnType := none }, accessFlags := 0, code := none }
def k15c1 : Code := { maxStack := 2, maxLocals := 2, code := jdk_43_method_2_code, exceptionTable := #[], attributes := #[] }
def k15m1 : Method := { name := "charAt", desc := "([BI)C", sig := { parameters := [(.array .byte), .int], returnType := some .char }, accessFlags := 9, code := some k15c1 }
def k15c2 : Code := { maxStack := 2, maxLocals := 1, code := jdk_43_method_3_code, exceptionTable := #[], attributes := #[] }
def k15m2 : Method := { name := "canEncode", desc := "(C)Z", sig := { parameters := [.char], returnType := some .boolean }, accessFlags := 9, code := some k15c2 }
def k15c3 : Code := { maxStack := 5, maxLocals := 5, code := jdk_43_method_50_code, exceptionTable := #[], attributes := #[] }
def k15m3 : Method := { name := "inflate", desc := "([BI[BII)V", sig := { parameters := [(.array .byte), .int, (.array .byte), .int, .int], returnType := none }, accessFlags := 9, code := some k15c3 }
/-- java/lang/StringLatin1 -/
def k15 : Class := { plain "java/lang/StringLatin1" (some 0) with
  accessFlags := 48
  interfaces := #[]
  cf := some (fileOf pool15 14 #[.nestMembers #[390, 221]] #[{ accessFlags := 0, nameIndex := 7, descriptorIndex := 8, attributes := #[] }, { accessFlags := 9, nameIndex := 252, descriptorIndex := 53, attributes := #[] }, { accessFlags := 9, nameIndex := 90, descriptorIndex := 105, attributes := #[] }, { accessFlags := 9, nameIndex := 17, descriptorIndex := 27, attributes := #[] }] 48 4 #[] #[{ accessFlags := 4120, nameIndex := 121, descriptorIndex := 122, attributes := #[] }])
  fields := #[{ name := "$assertionsDisabled", type := .boolean, accessFlags := 4120, slot := 0, constantValue := 0 }]
  methods := #[k15m0, k15m1, k15m2, k15m3]
  instanceTypes := #[]
  staticTypes := #[.boolean]
  resolved := Array.replicate 395 none
  statics := none }

def pool16 : Array CpInfo := pool [(2, .class_ 4), (1, u "java/lang/Object"), (0, u "<init>"), (0, u "()V"), (17, .class_ 26), (1, u "jdk/internal/util/Preconditions"), (6, u "checkIndex"), (15, u "checkFromIndexSize"), (5, .class_ 56), (0, u "jdk/internal/util/Preconditions$4"), (57, .class_ 115), (0, u "jdk/internal/util/Preconditions$1"), (7, u "SIOOBE_FORMATTER"), (0, u "Ljava/util/function/BiFunction;"), (0, .class_ 126), (0, u "jdk/internal/util/Preconditions$2"), (3, u "AIOOBE_FORMATTER"), (0, .class_ 132), (0, u "jdk/internal/util/Preconditions$3"), (3, u "IOOBE_FORMATTER"), (41, u "(IILjava/util/function/BiFunction;)I"), (4, u "(IIILjava/util/function/BiFunction;)I")] 10

def k16m0 : Method := { name := "<init>", desc := "()V", sig := { parameters := [], returnType := none }, accessFlags := 1, code := none }
def k16c1 : Code := { maxStack := 3, maxLocals := 3, code := jdk_41_method_11_code, exceptionTable := #[], attributes := #[] }
def k16m1 : Method := { name := "checkIndex", desc := "(IILjava/util/function/BiFunction;)I", sig := { parameters := [.int, .int, (.object "java/util/function/BiFunction")], returnType := some .int }, accessFlags := 9, code := some k16c1 }
def k16c2 : Code := { maxStack := 4, maxLocals := 4, code := jdk_41_method_13_code, exceptionTable := #[], attributes := #[] }
def k16m2 : Method := { name := "checkFromIndexSize", desc := "(IIILjava/util/function/BiFunction;)I", sig := { parameters := [.int, .int, .int, (.object "java/util/function/BiFunction")], returnType := some .int }, accessFlags := 9, code := some k16c2 }
/-- jdk/internal/util/Preconditions -/
def k16 : Class := { plain "jdk/internal/util/Preconditions" (some 0) with
  accessFlags := 33
  interfaces := #[]
  cf := some (fileOf pool16 24 #[.nestMembers #[55, 131, 125, 114]] #[{ accessFlags := 1, nameIndex := 5, descriptorIndex := 6, attributes := #[] }, { accessFlags := 9, nameIndex := 33, descriptorIndex := 178, attributes := #[] }, { accessFlags := 9, nameIndex := 49, descriptorIndex := 183, attributes := #[] }] 33 2 #[] #[{ accessFlags := 25, nameIndex := 123, descriptorIndex := 124, attributes := #[] }, { accessFlags := 25, nameIndex := 130, descriptorIndex := 124, attributes := #[] }, { accessFlags := 25, nameIndex := 136, descriptorIndex := 124, attributes := #[] }])
  fields := #[{ name := "SIOOBE_FORMATTER", type := (.object "java/util/function/BiFunction"), accessFlags := 25, slot := 0, constantValue := 0 }, { name := "AIOOBE_FORMATTER", type := (.object "java/util/function/BiFunction"), accessFlags := 25, slot := 1, constantValue := 0 }, { name := "IOOBE_FORMATTER", type := (.object "java/util/function/BiFunction"), accessFlags := 25, slot := 2, constantValue := 0 }]
  methods := #[k16m0, k16m1, k16m2]
  instanceTypes := #[]
  staticTypes := #[(.object "java/util/function/BiFunction"), (.object "java/util/function/BiFunction"), (.object "java/util/function/BiFunction")]
  resolved := Array.replicate 194 none
  statics := some 2 }

def pool17 : Array CpInfo := pool [(9, u "<init>"), (6, .class_ 18), (1, u "java/lang/Object"), (0, u "()V"), (1, .class_ 23), (1, u "jdk/internal/util/ArraysSupport"), (0, u "LOG2_ARRAY_LONG_INDEX_SCALE"), (0, u "I"), (2, u "U"), (0, u "Ljdk/internal/misc/Unsafe;"), (8, u "BIG_ENDIAN"), (0, u "Z"), (8, u "LOG2_BYTE_BIT_SIZE"), (4, u "LOG2_ARRAY_INT_INDEX_SCALE"), (54, u "JLA"), (0, u "Ljdk/internal/access/JavaLangAccess;"), (11, u "LOG2_ARRAY_BOOLEAN_INDEX_SCALE"), (9, u "LOG2_ARRAY_BYTE_INDEX_SCALE"), (5, u "LOG2_ARRAY_CHAR_INDEX_SCALE"), (5, u "LOG2_ARRAY_SHORT_INDEX_SCALE"), (18, u "LOG2_ARRAY_FLOAT_INDEX_SCALE"), (24, u "LOG2_ARRAY_DOUBLE_INDEX_SCALE"), (89, u "T_BOOLEAN"), (2, u "T_CHAR"), (1, u "T_FLOAT"), (1, u "T_DOUBLE"), (1, u "T_BYTE"), (1, u "T_SHORT"), (1, u "T_INT"), (1, u "T_LONG"), (1, u "SOFT_MAX_ARRAY_LENGTH")] 83

def k17m0 : Method := { name := "<init>", desc := "()V", sig := { parameters := [], returnType := none }, accessFlags := 2, code := none }
/-- jdk/internal/util/ArraysSupport -/
def k17 : Class := { plain "jdk/internal/util/ArraysSupport" (some 0) with
  accessFlags := 33
  interfaces := #[]
  cf := some (fileOf pool17 21 #[] #[{ accessFlags := 2, nameIndex := 9, descriptorIndex := 19, attributes := #[] }] 33 16 #[] #[{ accessFlags := 24, nameIndex := 28, descriptorIndex := 29, attributes := #[] }, { accessFlags := 26, nameIndex := 38, descriptorIndex := 39, attributes := #[] }, { accessFlags := 25, nameIndex := 121, descriptorIndex := 25, attributes := #[] }, { accessFlags := 25, nameIndex := 131, descriptorIndex := 25, attributes := #[] }, { accessFlags := 25, nameIndex := 137, descriptorIndex := 25, attributes := #[] }, { accessFlags := 25, nameIndex := 143, descriptorIndex := 25, attributes := #[] }, { accessFlags := 25, nameIndex := 53, descriptorIndex := 25, attributes := #[] }, { accessFlags := 25, nameIndex := 24, descriptorIndex := 25, attributes := #[] }, { accessFlags := 25, nameIndex := 162, descriptorIndex := 25, attributes := #[] }, { accessFlags := 25, nameIndex := 187, descriptorIndex := 25, attributes := #[] }, { accessFlags := 26, nameIndex := 48, descriptorIndex := 25, attributes := #[] }, { accessFlags := 25, nameIndex := 277, descriptorIndex := 25, attributes := #[] }, { accessFlags := 25, nameIndex := 280, descriptorIndex := 25, attributes := #[] }, { accessFlags := 25, nameIndex := 282, descriptorIndex := 25, attributes := #[] }, { accessFlags := 25, nameIndex := 284, descriptorIndex := 25, attributes := #[] }, { accessFlags := 25, nameIndex := 286, descriptorIndex := 25, attributes := #[] }, { accessFlags := 25, nameIndex := 288, descriptorIndex := 25, attributes := #[] }, { accessFlags := 25, nameIndex := 290, descriptorIndex := 25, attributes := #[] }, { accessFlags := 25, nameIndex := 292, descriptorIndex := 25, attributes := #[] }, { accessFlags := 26, nameIndex := 108, descriptorIndex := 109, attributes := #[] }, { accessFlags := 25, nameIndex := 294, descriptorIndex := 25, attributes := #[] }])
  fields := #[{ name := "U", type := (.object "jdk/internal/misc/Unsafe"), accessFlags := 24, slot := 0, constantValue := 0 }, { name := "BIG_ENDIAN", type := .boolean, accessFlags := 26, slot := 1, constantValue := 0 }, { name := "LOG2_ARRAY_BOOLEAN_INDEX_SCALE", type := .int, accessFlags := 25, slot := 2, constantValue := 0 }, { name := "LOG2_ARRAY_BYTE_INDEX_SCALE", type := .int, accessFlags := 25, slot := 3, constantValue := 0 }, { name := "LOG2_ARRAY_CHAR_INDEX_SCALE", type := .int, accessFlags := 25, slot := 4, constantValue := 0 }, { name := "LOG2_ARRAY_SHORT_INDEX_SCALE", type := .int, accessFlags := 25, slot := 5, constantValue := 0 }, { name := "LOG2_ARRAY_INT_INDEX_SCALE", type := .int, accessFlags := 25, slot := 6, constantValue := 0 }, { name := "LOG2_ARRAY_LONG_INDEX_SCALE", type := .int, accessFlags := 25, slot := 7, constantValue := 0 }, { name := "LOG2_ARRAY_FLOAT_INDEX_SCALE", type := .int, accessFlags := 25, slot := 8, constantValue := 0 }, { name := "LOG2_ARRAY_DOUBLE_INDEX_SCALE", type := .int, accessFlags := 25, slot := 9, constantValue := 0 }, { name := "LOG2_BYTE_BIT_SIZE", type := .int, accessFlags := 26, slot := 10, constantValue := 0 }, { name := "T_BOOLEAN", type := .int, accessFlags := 25, slot := 11, constantValue := 0 }, { name := "T_CHAR", type := .int, accessFlags := 25, slot := 12, constantValue := 0 }, { name := "T_FLOAT", type := .int, accessFlags := 25, slot := 13, constantValue := 0 }, { name := "T_DOUBLE", type := .int, accessFlags := 25, slot := 14, constantValue := 0 }, { name := "T_BYTE", type := .int, accessFlags := 25, slot := 15, constantValue := 0 }, { name := "T_SHORT", type := .int, accessFlags := 25, slot := 16, constantValue := 0 }, { name := "T_INT", type := .int, accessFlags := 25, slot := 17, constantValue := 0 }, { name := "T_LONG", type := .int, accessFlags := 25, slot := 18, constantValue := 0 }, { name := "JLA", type := (.object "jdk/internal/access/JavaLangAccess"), accessFlags := 26, slot := 19, constantValue := 0 }, { name := "SOFT_MAX_ARRAY_LENGTH", type := .int, accessFlags := 25, slot := 20, constantValue := 0 }]
  methods := #[k17m0]
  instanceTypes := #[]
  staticTypes := #[(.object "jdk/internal/misc/Unsafe"), .boolean, .int, .int, .int, .int, .int, .int, .int, .int, .int, .int, .int, .int, .int, .int, .int, .int, .int, (.object "jdk/internal/access/JavaLangAccess"), .int]
  resolved := Array.replicate 378 none
  statics := none }

/-- the primitive byte -/
def k18 : Class := { plain "byte" none with kind := .primitive 'B', accessFlags := 0x411 }
/-- [B -/
def k19 : Class := { plain "[B" (some 0) with kind := .array 18 .byte, interfaces := #[13, 2], accessFlags := 1041 }

/-- the primitive char -/
def k20 : Class := { plain "char" none with kind := .primitive 'C', accessFlags := 0x411 }
/-- [C -/
def k21 : Class := { plain "[C" (some 0) with kind := .array 20 .char, interfaces := #[13, 2], accessFlags := 1041 }

/-- the primitive int -/
def k22 : Class := { plain "int" none with kind := .primitive 'I', accessFlags := 0x411 }
/-- [I -/
def k23 : Class := { plain "[I" (some 0) with kind := .array 22 .int, interfaces := #[13, 2], accessFlags := 1041 }

def heap : Heap := #[{ cls := 7, slots := #[.long 0, .int 1, .null, .int 0, .null, .int 0, .int 0], vm := .statics 7 },
  { cls := 14, slots := #[.int 0, .int 8, .int 0, .int 1], vm := .statics 14 },
  { cls := 16, slots := #[.null, .null, .null], vm := .statics 16 }]
def classes : Array Class := #[k0, k1, k2, k3, k4, k5, k6, k7, k8, k9, k10, k11, k12, k13, k14, k15, k16, k17, k18, k19, k20, k21, k22, k23]
def interned : List (Array UInt16 × Addr) := []
def slotsUsed : Nat := 14
def theMethod : MethodId := ⟨1, 1⟩
def args0 : Array Value := #[.int 5, .int 5, .int 5, .int 5]
def aboutOver (below : List Frame) : State where
  vm := { classes := classes, interned := interned.toArray }
  heap := heap
  slotsUsed := slotsUsed
  threads := #[{ frames := .invoking theMethod args0 :: below }]
def below0 : List Frame := [.native { method := ⟨0, 0⟩, args := #[] }]
def about1 : State := aboutOver below0
def p0 : Program := .bare "" "" ""
def e0 : Env := launch0.env 0 0 0
theorem w_frames : about1.frames = Frame.invoking theMethod args0 :: below0 := rfl
set_option maxRecDepth 65536 in
theorem w_args : argsFit about1.vm theMethod args0 = true := by decide +kernel
set_option maxRecDepth 65536 in
theorem w_heap : heapFits about1 = true := by decide +kernel
set_option maxRecDepth 65536 in
theorem w_runnable : about1.curStatus? = some .runnable := by decide +kernel
set_option maxRecDepth 65536 in
theorem w_alone : about1.alone = true := by decide +kernel
set_option maxRecDepth 65536 in
theorem w_named : about1.methodNamed? x = some theMethod := by decide +kernel
set_option maxRecDepth 65536 in
theorem w_hears : about1.hears theMethod below0 = true := by decide +kernel
set_option maxRecDepth 65536 in
theorem w_ripe : about1.ripe theMethod args0 below0 = true := by decide +kernel
theorem w_running : about1.status = .running := rfl
set_option maxRecDepth 65536 in
theorem w_room : about1.hasRoom e0.platform room_1 = true :=
  launch0.hasRoom_least _ room_1 (by decide +kernel) (by decide +kernel) (by decide +kernel) (by decide +kernel) (by decide +kernel) (by decide +kernel)
theorem allAtoms_all (ts : List Jvm.Cond) (a : Array Jvm.Value) (st : Jvm.State) : (allAtoms ts).before a st = ts.all (fun c => c.before a st) := by
  induction ts with
  | nil => rfl
  | cons c t ih =>
    show (Jvm.Cond.and c (allAtoms t)).before a st = _
    rw [Jvm.Cond.before_and, ih, List.all_cons]
def words1 : List Jvm.Cond := Jvm.Cond.code x code maxLocals ret :: tables_1
/-- a 'code' word, met by the world's own term for the bytes: nothing is compared byte by byte -/
theorem code_word {y : MethodName} {bytes : ByteArray} {mx : Nat} {rt : Option FieldType} {a : Array Value} {s : State} {m : MethodId} {meth : Method} {c : Code} (h1 : s.methodNamed? y = some m) (h2 : s.vm.method? m = some meth) (h3 : meth.code = some c) (h4 : c.code = bytes)
    (h5 : (c.maxLocals == mx && c.exceptionTable.isEmpty && decide (c.maxStack ≤ mostOperands) && decide (meth.sig.returnType = rt) && !meth.locks && decide (parseMethodDescriptor y.desc = some meth.sig)) = true) : (Jvm.Cond.code y bytes mx rt).before a s = true := by
  simp only [Bool.and_eq_true, beq_iff_eq, Bool.not_eq_true', decide_eq_true_eq] at h5
  obtain ⟨⟨⟨⟨⟨g1, g2⟩, g3⟩, g4⟩, g5⟩, g6⟩ := h5
  simp [Cond.before, Cond.holds, Cond.value, h1, h2, h3, h4, g1, g2, g3, g4, g5, g6]
def isCode : Jvm.Cond → Bool
  | .code _ _ _ _ => true
  | _ => false
theorem all_split {L : List Jvm.Cond} {P : Jvm.Cond → Bool} (h1 : L.all (fun c => isCode c || P c) = true) (h2 : ∀ c ∈ L.filter isCode, P c = true) : L.all P = true := by
  refine List.all_eq_true.mpr fun c hc => ?_
  have h := List.all_eq_true.mp h1 c hc
  rcases Bool.eq_false_or_eq_true (isCode c) with hi | hi
  · exact h2 c (List.mem_filter.mpr ⟨hc, hi⟩)
  · simpa [hi] using h
set_option maxRecDepth 65536 in
theorem w_c0 : (Jvm.Cond.code x code maxLocals ret).before args0 about1 = true := code_word (m := ⟨1, 1⟩) (meth := k1m1) (c := k1c1) (by decide +kernel) rfl rfl rfl (by decide +kernel)
set_option maxRecDepth 65536 in
theorem w_c1 : (Jvm.Cond.code ({ cls := "java/lang/String", name := "<init>", desc := "([C)V" } : Jvm.MethodName) jdk_42_method_3_code (2 : Nat) (Option.none : Option Jvm.ClassFile.FieldType)).before args0 about1 = true := code_word (m := ⟨7, 1⟩) (meth := k7m1) (c := k7c1) (by decide +kernel) rfl rfl rfl (by decide +kernel)
set_option maxRecDepth 65536 in
theorem w_c2 : (Jvm.Cond.code ({ cls := "java/lang/String", name := "<init>", desc := "([CIILjava/lang/Void;)V" } : Jvm.MethodName) jdk_42_method_149_code (6 : Nat) (Option.none : Option Jvm.ClassFile.FieldType)).before args0 about1 = true := code_word (m := ⟨7, 5⟩) (meth := k7m5) (c := k7c5) (by decide +kernel) rfl rfl rfl (by decide +kernel)
set_option maxRecDepth 65536 in
theorem w_c3 : (Jvm.Cond.code ({ cls := "java/lang/Object", name := "<init>", desc := "()V" } : Jvm.MethodName) object_method_1_code (1 : Nat) (Option.none : Option Jvm.ClassFile.FieldType)).before args0 about1 = true := code_word (m := ⟨0, 0⟩) (meth := k0m0) (c := k0c0) (by decide +kernel) rfl rfl rfl (by decide +kernel)
set_option maxRecDepth 65536 in
theorem w_c4 : (Jvm.Cond.code ({ cls := "com/example/usher_frames/usherframes/text/Ascii", name := "toLowerCase", desc := "(Ljava/lang/String;)Ljava/lang/String;" } : Jvm.MethodName) prog_29_method_2_code (4 : Nat) (Option.some (Jvm.ClassFile.FieldType.object "java/lang/String"))).before args0 about1 = true := code_word (m := ⟨8, 1⟩) (meth := k8m1) (c := k8c1) (by decide +kernel) rfl rfl rfl (by decide +kernel)
set_option maxRecDepth 65536 in
theorem w_c5 : (Jvm.Cond.code ({ cls := "java/lang/String", name := "length", desc := "()I" } : Jvm.MethodName) jdk_42_method_54_code (1 : Nat) (Option.some Jvm.ClassFile.FieldType.int)).before args0 about1 = true := code_word (m := ⟨7, 3⟩) (meth := k7m3) (c := k7c3) (by decide +kernel) rfl rfl rfl (by decide +kernel)
set_option maxRecDepth 65536 in
theorem w_c6 : (Jvm.Cond.code ({ cls := "java/lang/String", name := "coder", desc := "()B" } : Jvm.MethodName) jdk_42_method_152_code (1 : Nat) (Option.some Jvm.ClassFile.FieldType.byte)).before args0 about1 = true := code_word (m := ⟨7, 7⟩) (meth := k7m7) (c := k7c7) (by decide +kernel) rfl rfl rfl (by decide +kernel)
set_option maxRecDepth 65536 in
theorem w_c7 : (Jvm.Cond.code ({ cls := "java/lang/StringBuilder", name := "<init>", desc := "(I)V" } : Jvm.MethodName) jdk_67_method_2_code (2 : Nat) (Option.none : Option Jvm.ClassFile.FieldType)).before args0 about1 = true := code_word (m := ⟨11, 1⟩) (meth := k11m1) (c := k11c1) (by decide +kernel) rfl rfl rfl (by decide +kernel)
set_option maxRecDepth 65536 in
theorem w_c8 : (Jvm.Cond.code ({ cls := "java/lang/AbstractStringBuilder", name := "<init>", desc := "(I)V" } : Jvm.MethodName) jdk_68_method_2_code (2 : Nat) (Option.none : Option Jvm.ClassFile.FieldType)).before args0 about1 = true := code_word (m := ⟨10, 1⟩) (meth := k10m1) (c := k10c1) (by decide +kernel) rfl rfl rfl (by decide +kernel)
set_option maxRecDepth 65536 in
theorem w_c9 : (Jvm.Cond.code ({ cls := "java/lang/StringBuilder", name := "toString", desc := "()Ljava/lang/String;" } : Jvm.MethodName) jdk_67_method_42_code (1 : Nat) (Option.some (Jvm.ClassFile.FieldType.object "java/lang/String"))).before args0 about1 = true := code_word (m := ⟨11, 3⟩) (meth := k11m3) (c := k11c3) (by decide +kernel) rfl rfl rfl (by decide +kernel)
set_option maxRecDepth 65536 in
theorem w_c10 : (Jvm.Cond.code ({ cls := "java/lang/String", name := "<init>", desc := "(Ljava/lang/StringBuilder;)V" } : Jvm.MethodName) jdk_42_method_53_code (2 : Nat) (Option.none : Option Jvm.ClassFile.FieldType)).before args0 about1 = true := code_word (m := ⟨7, 2⟩) (meth := k7m2) (c := k7c2) (by decide +kernel) rfl rfl rfl (by decide +kernel)
set_option maxRecDepth 65536 in
theorem w_c11 : (Jvm.Cond.code ({ cls := "java/lang/String", name := "<init>", desc := "(Ljava/lang/AbstractStringBuilder;Ljava/lang/Void;)V" } : Jvm.MethodName) jdk_42_method_150_code (5 : Nat) (Option.none : Option Jvm.ClassFile.FieldType)).before args0 about1 = true := code_word (m := ⟨7, 6⟩) (meth := k7m6) (c := k7c6) (by decide +kernel) rfl rfl rfl (by decide +kernel)
set_option maxRecDepth 65536 in
theorem w_c12 : (Jvm.Cond.code ({ cls := "java/lang/AbstractStringBuilder", name := "getValue", desc := "()[B" } : Jvm.MethodName) jdk_68_method_64_code (1 : Nat) (Option.some (Jvm.ClassFile.FieldType.array Jvm.ClassFile.FieldType.byte))).before args0 about1 = true := code_word (m := ⟨10, 6⟩) (meth := k10m6) (c := k10c6) (by decide +kernel) rfl rfl rfl (by decide +kernel)
set_option maxRecDepth 65536 in
theorem w_c13 : (Jvm.Cond.code ({ cls := "java/lang/StringBuilder", name := "length", desc := "()I" } : Jvm.MethodName) jdk_67_method_93_code (1 : Nat) (Option.some Jvm.ClassFile.FieldType.int)).before args0 about1 = true := code_word (m := ⟨11, 4⟩) (meth := k11m4) (c := k11c4) (by decide +kernel) rfl rfl rfl (by decide +kernel)
set_option maxRecDepth 65536 in
theorem w_c14 : (Jvm.Cond.code ({ cls := "java/lang/AbstractStringBuilder", name := "length", desc := "()I" } : Jvm.MethodName) jdk_68_method_6_code (1 : Nat) (Option.some Jvm.ClassFile.FieldType.int)).before args0 about1 = true := code_word (m := ⟨10, 2⟩) (meth := k10m2) (c := k10c2) (by decide +kernel) rfl rfl rfl (by decide +kernel)
set_option maxRecDepth 65536 in
theorem w_c15 : (Jvm.Cond.code ({ cls := "java/lang/AbstractStringBuilder", name := "isLatin1", desc := "()Z" } : Jvm.MethodName) jdk_68_method_68_code (1 : Nat) (Option.some Jvm.ClassFile.FieldType.boolean)).before args0 about1 = true := code_word (m := ⟨10, 7⟩) (meth := k10m7) (c := k10c7) (by decide +kernel) rfl rfl rfl (by decide +kernel)
set_option maxRecDepth 65536 in
theorem w_c16 : (Jvm.Cond.code ({ cls := "java/util/Arrays", name := "copyOfRange", desc := "([BII)[B" } : Jvm.MethodName) jdk_65_method_132_code (3 : Nat) (Option.some (Jvm.ClassFile.FieldType.array Jvm.ClassFile.FieldType.byte))).before args0 about1 = true := code_word (m := ⟨12, 1⟩) (meth := k12m1) (c := k12c1) (by decide +kernel) rfl rfl rfl (by decide +kernel)
set_option maxRecDepth 65536 in
theorem w_c17 : (Jvm.Cond.code ({ cls := "java/lang/StringUTF16", name := "compress", desc := "([CII)[B" } : Jvm.MethodName) jdk_52_method_16_code (6 : Nat) (Option.some (Jvm.ClassFile.FieldType.array Jvm.ClassFile.FieldType.byte))).before args0 about1 = true := code_word (m := ⟨14, 8⟩) (meth := k14m8) (c := k14c8) (by decide +kernel) rfl rfl rfl (by decide +kernel)
set_option maxRecDepth 65536 in
theorem w_c18 : (Jvm.Cond.code ({ cls := "java/lang/StringUTF16", name := "compress", desc := "([CI[BII)I" } : Jvm.MethodName) jdk_52_method_21_code (7 : Nat) (Option.some Jvm.ClassFile.FieldType.int)).before args0 about1 = true := code_word (m := ⟨14, 9⟩) (meth := k14m9) (c := k14c9) (by decide +kernel) rfl rfl rfl (by decide +kernel)
set_option maxRecDepth 65536 in
theorem w_c19 : (Jvm.Cond.code ({ cls := "java/lang/StringUTF16", name := "coderFromArrayLen", desc := "([BI)B" } : Jvm.MethodName) jdk_52_method_15_code (2 : Nat) (Option.some Jvm.ClassFile.FieldType.byte)).before args0 about1 = true := code_word (m := ⟨14, 7⟩) (meth := k14m7) (c := k14c7) (by decide +kernel) rfl rfl rfl (by decide +kernel)
set_option maxRecDepth 65536 in
theorem w_c20 : (Jvm.Cond.code ({ cls := "java/lang/String", name := "charAt", desc := "(I)C" } : Jvm.MethodName) jdk_42_method_56_code (2 : Nat) (Option.some Jvm.ClassFile.FieldType.char)).before args0 about1 = true := code_word (m := ⟨7, 4⟩) (meth := k7m4) (c := k7c4) (by decide +kernel) rfl rfl rfl (by decide +kernel)
set_option maxRecDepth 65536 in
theorem w_c21 : (Jvm.Cond.code ({ cls := "java/lang/String", name := "isLatin1", desc := "()Z" } : Jvm.MethodName) jdk_42_method_154_code (1 : Nat) (Option.some Jvm.ClassFile.FieldType.boolean)).before args0 about1 = true := code_word (m := ⟨7, 8⟩) (meth := k7m8) (c := k7c8) (by decide +kernel) rfl rfl rfl (by decide +kernel)
set_option maxRecDepth 65536 in
theorem w_c22 : (Jvm.Cond.code ({ cls := "java/lang/StringLatin1", name := "charAt", desc := "([BI)C" } : Jvm.MethodName) jdk_43_method_2_code (2 : Nat) (Option.some Jvm.ClassFile.FieldType.char)).before args0 about1 = true := code_word (m := ⟨15, 1⟩) (meth := k15m1) (c := k15c1) (by decide +kernel) rfl rfl rfl (by decide +kernel)
set_option maxRecDepth 65536 in
theorem w_c23 : (Jvm.Cond.code ({ cls := "java/lang/String", name := "checkIndex", desc := "(II)V" } : Jvm.MethodName) jdk_42_method_155_code (2 : Nat) (Option.none : Option Jvm.ClassFile.FieldType)).before args0 about1 = true := code_word (m := ⟨7, 9⟩) (meth := k7m9) (c := k7c9) (by decide +kernel) rfl rfl rfl (by decide +kernel)
set_option maxRecDepth 65536 in
theorem w_c24 : (Jvm.Cond.code ({ cls := "jdk/internal/util/Preconditions", name := "checkIndex", desc := "(IILjava/util/function/BiFunction;)I" } : Jvm.MethodName) jdk_41_method_11_code (3 : Nat) (Option.some Jvm.ClassFile.FieldType.int)).before args0 about1 = true := code_word (m := ⟨16, 1⟩) (meth := k16m1) (c := k16c1) (by decide +kernel) rfl rfl rfl (by decide +kernel)
set_option maxRecDepth 65536 in
theorem w_c25 : (Jvm.Cond.code ({ cls := "com/example/usher_frames/usherframes/text/Ascii", name := "toLowerCase", desc := "(I)I" } : Jvm.MethodName) prog_29_method_3_code (1 : Nat) (Option.some Jvm.ClassFile.FieldType.int)).before args0 about1 = true := code_word (m := ⟨8, 2⟩) (meth := k8m2) (c := k8c2) (by decide +kernel) rfl rfl rfl (by decide +kernel)
set_option maxRecDepth 65536 in
theorem w_c26 : (Jvm.Cond.code ({ cls := "java/lang/StringBuilder", name := "append", desc := "(C)Ljava/lang/StringBuilder;" } : Jvm.MethodName) jdk_67_method_14_code (2 : Nat) (Option.some (Jvm.ClassFile.FieldType.object "java/lang/StringBuilder"))).before args0 about1 = true := code_word (m := ⟨11, 2⟩) (meth := k11m2) (c := k11c2) (by decide +kernel) rfl rfl rfl (by decide +kernel)
set_option maxRecDepth 65536 in
theorem w_c27 : (Jvm.Cond.code ({ cls := "java/lang/AbstractStringBuilder", name := "append", desc := "(C)Ljava/lang/AbstractStringBuilder;" } : Jvm.MethodName) jdk_68_method_31_code (2 : Nat) (Option.some (Jvm.ClassFile.FieldType.object "java/lang/AbstractStringBuilder"))).before args0 about1 = true := code_word (m := ⟨10, 5⟩) (meth := k10m5) (c := k10c5) (by decide +kernel) rfl rfl rfl (by decide +kernel)
set_option maxRecDepth 65536 in
theorem w_c28 : (Jvm.Cond.code ({ cls := "java/lang/AbstractStringBuilder", name := "ensureCapacityInternal", desc := "(I)V" } : Jvm.MethodName) jdk_68_method_9_code (3 : Nat) (Option.none : Option Jvm.ClassFile.FieldType)).before args0 about1 = true := code_word (m := ⟨10, 3⟩) (meth := k10m3) (c := k10c3) (by decide +kernel) rfl rfl rfl (by decide +kernel)
set_option maxRecDepth 65536 in
theorem w_c29 : (Jvm.Cond.code ({ cls := "java/lang/StringLatin1", name := "canEncode", desc := "(C)Z" } : Jvm.MethodName) jdk_43_method_3_code (1 : Nat) (Option.some Jvm.ClassFile.FieldType.boolean)).before args0 about1 = true := code_word (m := ⟨15, 2⟩) (meth := k15m2) (c := k15c2) (by decide +kernel) rfl rfl rfl (by decide +kernel)
set_option maxRecDepth 65536 in
theorem w_c30 : (Jvm.Cond.code ({ cls := "com/example/usher_frames/usherframes/text/AsciiToLowerCasePinLaw", name := "ok", desc := "(CC)Z" } : Jvm.MethodName) method_3_code (2 : Nat) (Option.some Jvm.ClassFile.FieldType.boolean)).before args0 about1 = true := code_word (m := ⟨1, 2⟩) (meth := k1m2) (c := k1c2) (by decide +kernel) rfl rfl rfl (by decide +kernel)
set_option maxRecDepth 65536 in
theorem w_c31 : (Jvm.Cond.code ({ cls := "java/lang/StringUTF16", name := "toBytes", desc := "([CII)[B" } : Jvm.MethodName) jdk_52_method_14_code (5 : Nat) (Option.some (Jvm.ClassFile.FieldType.array Jvm.ClassFile.FieldType.byte))).before args0 about1 = true := code_word (m := ⟨14, 6⟩) (meth := k14m6) (c := k14c6) (by decide +kernel) rfl rfl rfl (by decide +kernel)
set_option maxRecDepth 65536 in
theorem w_c32 : (Jvm.Cond.code ({ cls := "java/lang/StringUTF16", name := "newBytesFor", desc := "(I)[B" } : Jvm.MethodName) jdk_52_method_2_code (1 : Nat) (Option.some (Jvm.ClassFile.FieldType.array Jvm.ClassFile.FieldType.byte))).before args0 about1 = true := code_word (m := ⟨14, 1⟩) (meth := k14m1) (c := k14c1) (by decide +kernel) rfl rfl rfl (by decide +kernel)
set_option maxRecDepth 65536 in
theorem w_c33 : (Jvm.Cond.code ({ cls := "java/lang/StringUTF16", name := "newBytesLength", desc := "(I)I" } : Jvm.MethodName) jdk_52_method_3_code (1 : Nat) (Option.some Jvm.ClassFile.FieldType.int)).before args0 about1 = true := code_word (m := ⟨14, 2⟩) (meth := k14m2) (c := k14c2) (by decide +kernel) rfl rfl rfl (by decide +kernel)
set_option maxRecDepth 65536 in
theorem w_c34 : (Jvm.Cond.code ({ cls := "java/lang/StringUTF16", name := "putChar", desc := "([BII)V" } : Jvm.MethodName) jdk_52_method_4_code (3 : Nat) (Option.none : Option Jvm.ClassFile.FieldType)).before args0 about1 = true := code_word (m := ⟨14, 3⟩) (meth := k14m3) (c := k14c3) (by decide +kernel) rfl rfl rfl (by decide +kernel)
set_option maxRecDepth 65536 in
theorem w_c35 : (Jvm.Cond.code ({ cls := "java/lang/StringUTF16", name := "getChar", desc := "([BI)C" } : Jvm.MethodName) jdk_52_method_5_code (2 : Nat) (Option.some Jvm.ClassFile.FieldType.char)).before args0 about1 = true := code_word (m := ⟨14, 4⟩) (meth := k14m4) (c := k14c4) (by decide +kernel) rfl rfl rfl (by decide +kernel)
set_option maxRecDepth 65536 in
theorem w_c36 : (Jvm.Cond.code ({ cls := "java/lang/StringUTF16", name := "charAt", desc := "([BI)C" } : Jvm.MethodName) jdk_52_method_83_code (2 : Nat) (Option.some Jvm.ClassFile.FieldType.char)).before args0 about1 = true := code_word (m := ⟨14, 11⟩) (meth := k14m11) (c := k14c11) (by decide +kernel) rfl rfl rfl (by decide +kernel)
set_option maxRecDepth 65536 in
theorem w_c37 : (Jvm.Cond.code ({ cls := "java/lang/StringUTF16", name := "checkIndex", desc := "(I[B)V" } : Jvm.MethodName) jdk_52_method_91_code (2 : Nat) (Option.none : Option Jvm.ClassFile.FieldType)).before args0 about1 = true := code_word (m := ⟨14, 13⟩) (meth := k14m13) (c := k14c13) (by decide +kernel) rfl rfl rfl (by decide +kernel)
set_option maxRecDepth 65536 in
theorem w_c38 : (Jvm.Cond.code ({ cls := "java/lang/StringUTF16", name := "length", desc := "([B)I" } : Jvm.MethodName) jdk_52_method_6_code (1 : Nat) (Option.some Jvm.ClassFile.FieldType.int)).before args0 about1 = true := code_word (m := ⟨14, 5⟩) (meth := k14m5) (c := k14c5) (by decide +kernel) rfl rfl rfl (by decide +kernel)
set_option maxRecDepth 65536 in
theorem w_c39 : (Jvm.Cond.code ({ cls := "java/lang/AbstractStringBuilder", name := "inflate", desc := "()V" } : Jvm.MethodName) jdk_68_method_11_code (2 : Nat) (Option.none : Option Jvm.ClassFile.FieldType)).before args0 about1 = true := code_word (m := ⟨10, 4⟩) (meth := k10m4) (c := k10c4) (by decide +kernel) rfl rfl rfl (by decide +kernel)
set_option maxRecDepth 65536 in
theorem w_c40 : (Jvm.Cond.code ({ cls := "java/lang/StringLatin1", name := "inflate", desc := "([BI[BII)V" } : Jvm.MethodName) jdk_43_method_50_code (5 : Nat) (Option.none : Option Jvm.ClassFile.FieldType)).before args0 about1 = true := code_word (m := ⟨15, 3⟩) (meth := k15m3) (c := k15c3) (by decide +kernel) rfl rfl rfl (by decide +kernel)
set_option maxRecDepth 65536 in
theorem w_c41 : (Jvm.Cond.code ({ cls := "java/lang/StringUTF16", name := "inflate", desc := "([BI[BII)V" } : Jvm.MethodName) jdk_52_method_86_code (6 : Nat) (Option.none : Option Jvm.ClassFile.FieldType)).before args0 about1 = true := code_word (m := ⟨14, 12⟩) (meth := k14m12) (c := k14c12) (by decide +kernel) rfl rfl rfl (by decide +kernel)
set_option maxRecDepth 65536 in
theorem w_c42 : (Jvm.Cond.code ({ cls := "java/lang/StringUTF16", name := "checkBoundsOffCount", desc := "(II[B)V" } : Jvm.MethodName) jdk_52_method_94_code (3 : Nat) (Option.none : Option Jvm.ClassFile.FieldType)).before args0 about1 = true := code_word (m := ⟨14, 14⟩) (meth := k14m14) (c := k14c14) (by decide +kernel) rfl rfl rfl (by decide +kernel)
set_option maxRecDepth 65536 in
theorem w_c43 : (Jvm.Cond.code ({ cls := "java/lang/String", name := "checkBoundsOffCount", desc := "(III)I" } : Jvm.MethodName) jdk_42_method_157_code (3 : Nat) (Option.some Jvm.ClassFile.FieldType.int)).before args0 about1 = true := code_word (m := ⟨7, 10⟩) (meth := k7m10) (c := k7c10) (by decide +kernel) rfl rfl rfl (by decide +kernel)
set_option maxRecDepth 65536 in
theorem w_c44 : (Jvm.Cond.code ({ cls := "jdk/internal/util/Preconditions", name := "checkFromIndexSize", desc := "(IIILjava/util/function/BiFunction;)I" } : Jvm.MethodName) jdk_41_method_13_code (4 : Nat) (Option.some Jvm.ClassFile.FieldType.int)).before args0 about1 = true := code_word (m := ⟨16, 2⟩) (meth := k16m2) (c := k16c2) (by decide +kernel) rfl rfl rfl (by decide +kernel)
set_option maxRecDepth 65536 in
theorem w_c45 : (Jvm.Cond.code ({ cls := "java/lang/StringUTF16", name := "putCharSB", desc := "([BII)V" } : Jvm.MethodName) jdk_52_method_71_code (3 : Nat) (Option.none : Option Jvm.ClassFile.FieldType)).before args0 about1 = true := code_word (m := ⟨14, 10⟩) (meth := k14m10) (c := k14c10) (by decide +kernel) rfl rfl rfl (by decide +kernel)
def codes1 : List Jvm.Cond := [Jvm.Cond.code x code maxLocals ret, Jvm.Cond.code ({ cls := "java/lang/String", name := "<init>", desc := "([C)V" } : Jvm.MethodName) jdk_42_method_3_code (2 : Nat) (Option.none : Option Jvm.ClassFile.FieldType), Jvm.Cond.code ({ cls := "java/lang/String", name := "<init>", desc := "([CIILjava/lang/Void;)V" } : Jvm.MethodName) jdk_42_method_149_code (6 : Nat) (Option.none : Option Jvm.ClassFile.FieldType), Jvm.Cond.code ({ cls := "java/lang/Object", name := "<init>", desc := "()V" } : Jvm.MethodName) object_method_1_code (1 : Nat) (Option.none : Option Jvm.ClassFile.FieldType), Jvm.Cond.code ({ cls := "com/example/usher_frames/usherframes/text/Ascii", name := "toLowerCase", desc := "(Ljava/lang/String;)Ljava/lang/String;" } : Jvm.MethodName) prog_29_method_2_code (4 : Nat) (Option.some (Jvm.ClassFile.FieldType.object "java/lang/String")), Jvm.Cond.code ({ cls := "java/lang/String", name := "length", desc := "()I" } : Jvm.MethodName) jdk_42_method_54_code (1 : Nat) (Option.some Jvm.ClassFile.FieldType.int), Jvm.Cond.code ({ cls := "java/lang/String", name := "coder", desc := "()B" } : Jvm.MethodName) jdk_42_method_152_code (1 : Nat) (Option.some Jvm.ClassFile.FieldType.byte), Jvm.Cond.code ({ cls := "java/lang/StringBuilder", name := "<init>", desc := "(I)V" } : Jvm.MethodName) jdk_67_method_2_code (2 : Nat) (Option.none : Option Jvm.ClassFile.FieldType), Jvm.Cond.code ({ cls := "java/lang/AbstractStringBuilder", name := "<init>", desc := "(I)V" } : Jvm.MethodName) jdk_68_method_2_code (2 : Nat) (Option.none : Option Jvm.ClassFile.FieldType), Jvm.Cond.code ({ cls := "java/lang/StringBuilder", name := "toString", desc := "()Ljava/lang/String;" } : Jvm.MethodName) jdk_67_method_42_code (1 : Nat) (Option.some (Jvm.ClassFile.FieldType.object "java/lang/String")), Jvm.Cond.code ({ cls := "java/lang/String", name := "<init>", desc := "(Ljava/lang/StringBuilder;)V" } : Jvm.MethodName) jdk_42_method_53_code (2 : Nat) (Option.none : Option Jvm.ClassFile.FieldType), Jvm.Cond.code ({ cls := "java/lang/String", name := "<init>", desc := "(Ljava/lang/AbstractStringBuilder;Ljava/lang/Void;)V" } : Jvm.MethodName) jdk_42_method_150_code (5 : Nat) (Option.none : Option Jvm.ClassFile.FieldType), Jvm.Cond.code ({ cls := "java/lang/AbstractStringBuilder", name := "getValue", desc := "()[B" } : Jvm.MethodName) jdk_68_method_64_code (1 : Nat) (Option.some (Jvm.ClassFile.FieldType.array Jvm.ClassFile.FieldType.byte)), Jvm.Cond.code ({ cls := "java/lang/StringBuilder", name := "length", desc := "()I" } : Jvm.MethodName) jdk_67_method_93_code (1 : Nat) (Option.some Jvm.ClassFile.FieldType.int), Jvm.Cond.code ({ cls := "java/lang/AbstractStringBuilder", name := "length", desc := "()I" } : Jvm.MethodName) jdk_68_method_6_code (1 : Nat) (Option.some Jvm.ClassFile.FieldType.int), Jvm.Cond.code ({ cls := "java/lang/AbstractStringBuilder", name := "isLatin1", desc := "()Z" } : Jvm.MethodName) jdk_68_method_68_code (1 : Nat) (Option.some Jvm.ClassFile.FieldType.boolean), Jvm.Cond.code ({ cls := "java/util/Arrays", name := "copyOfRange", desc := "([BII)[B" } : Jvm.MethodName) jdk_65_method_132_code (3 : Nat) (Option.some (Jvm.ClassFile.FieldType.array Jvm.ClassFile.FieldType.byte)), Jvm.Cond.code ({ cls := "java/lang/StringUTF16", name := "compress", desc := "([CII)[B" } : Jvm.MethodName) jdk_52_method_16_code (6 : Nat) (Option.some (Jvm.ClassFile.FieldType.array Jvm.ClassFile.FieldType.byte)), Jvm.Cond.code ({ cls := "java/lang/StringUTF16", name := "compress", desc := "([CI[BII)I" } : Jvm.MethodName) jdk_52_method_21_code (7 : Nat) (Option.some Jvm.ClassFile.FieldType.int), Jvm.Cond.code ({ cls := "java/lang/StringUTF16", name := "coderFromArrayLen", desc := "([BI)B" } : Jvm.MethodName) jdk_52_method_15_code (2 : Nat) (Option.some Jvm.ClassFile.FieldType.byte), Jvm.Cond.code ({ cls := "java/lang/String", name := "charAt", desc := "(I)C" } : Jvm.MethodName) jdk_42_method_56_code (2 : Nat) (Option.some Jvm.ClassFile.FieldType.char), Jvm.Cond.code ({ cls := "java/lang/String", name := "isLatin1", desc := "()Z" } : Jvm.MethodName) jdk_42_method_154_code (1 : Nat) (Option.some Jvm.ClassFile.FieldType.boolean), Jvm.Cond.code ({ cls := "java/lang/StringLatin1", name := "charAt", desc := "([BI)C" } : Jvm.MethodName) jdk_43_method_2_code (2 : Nat) (Option.some Jvm.ClassFile.FieldType.char), Jvm.Cond.code ({ cls := "java/lang/String", name := "checkIndex", desc := "(II)V" } : Jvm.MethodName) jdk_42_method_155_code (2 : Nat) (Option.none : Option Jvm.ClassFile.FieldType), Jvm.Cond.code ({ cls := "jdk/internal/util/Preconditions", name := "checkIndex", desc := "(IILjava/util/function/BiFunction;)I" } : Jvm.MethodName) jdk_41_method_11_code (3 : Nat) (Option.some Jvm.ClassFile.FieldType.int), Jvm.Cond.code ({ cls := "com/example/usher_frames/usherframes/text/Ascii", name := "toLowerCase", desc := "(I)I" } : Jvm.MethodName) prog_29_method_3_code (1 : Nat) (Option.some Jvm.ClassFile.FieldType.int), Jvm.Cond.code ({ cls := "java/lang/StringBuilder", name := "append", desc := "(C)Ljava/lang/StringBuilder;" } : Jvm.MethodName) jdk_67_method_14_code (2 : Nat) (Option.some (Jvm.ClassFile.FieldType.object "java/lang/StringBuilder")), Jvm.Cond.code ({ cls := "java/lang/AbstractStringBuilder", name := "append", desc := "(C)Ljava/lang/AbstractStringBuilder;" } : Jvm.MethodName) jdk_68_method_31_code (2 : Nat) (Option.some (Jvm.ClassFile.FieldType.object "java/lang/AbstractStringBuilder")), Jvm.Cond.code ({ cls := "java/lang/AbstractStringBuilder", name := "ensureCapacityInternal", desc := "(I)V" } : Jvm.MethodName) jdk_68_method_9_code (3 : Nat) (Option.none : Option Jvm.ClassFile.FieldType), Jvm.Cond.code ({ cls := "java/lang/StringLatin1", name := "canEncode", desc := "(C)Z" } : Jvm.MethodName) jdk_43_method_3_code (1 : Nat) (Option.some Jvm.ClassFile.FieldType.boolean), Jvm.Cond.code ({ cls := "com/example/usher_frames/usherframes/text/AsciiToLowerCasePinLaw", name := "ok", desc := "(CC)Z" } : Jvm.MethodName) method_3_code (2 : Nat) (Option.some Jvm.ClassFile.FieldType.boolean), Jvm.Cond.code ({ cls := "java/lang/StringUTF16", name := "toBytes", desc := "([CII)[B" } : Jvm.MethodName) jdk_52_method_14_code (5 : Nat) (Option.some (Jvm.ClassFile.FieldType.array Jvm.ClassFile.FieldType.byte)), Jvm.Cond.code ({ cls := "java/lang/StringUTF16", name := "newBytesFor", desc := "(I)[B" } : Jvm.MethodName) jdk_52_method_2_code (1 : Nat) (Option.some (Jvm.ClassFile.FieldType.array Jvm.ClassFile.FieldType.byte)), Jvm.Cond.code ({ cls := "java/lang/StringUTF16", name := "newBytesLength", desc := "(I)I" } : Jvm.MethodName) jdk_52_method_3_code (1 : Nat) (Option.some Jvm.ClassFile.FieldType.int), Jvm.Cond.code ({ cls := "java/lang/StringUTF16", name := "putChar", desc := "([BII)V" } : Jvm.MethodName) jdk_52_method_4_code (3 : Nat) (Option.none : Option Jvm.ClassFile.FieldType), Jvm.Cond.code ({ cls := "java/lang/StringUTF16", name := "getChar", desc := "([BI)C" } : Jvm.MethodName) jdk_52_method_5_code (2 : Nat) (Option.some Jvm.ClassFile.FieldType.char), Jvm.Cond.code ({ cls := "java/lang/StringUTF16", name := "charAt", desc := "([BI)C" } : Jvm.MethodName) jdk_52_method_83_code (2 : Nat) (Option.some Jvm.ClassFile.FieldType.char), Jvm.Cond.code ({ cls := "java/lang/StringUTF16", name := "checkIndex", desc := "(I[B)V" } : Jvm.MethodName) jdk_52_method_91_code (2 : Nat) (Option.none : Option Jvm.ClassFile.FieldType), Jvm.Cond.code ({ cls := "java/lang/StringUTF16", name := "length", desc := "([B)I" } : Jvm.MethodName) jdk_52_method_6_code (1 : Nat) (Option.some Jvm.ClassFile.FieldType.int), Jvm.Cond.code ({ cls := "java/lang/AbstractStringBuilder", name := "inflate", desc := "()V" } : Jvm.MethodName) jdk_68_method_11_code (2 : Nat) (Option.none : Option Jvm.ClassFile.FieldType), Jvm.Cond.code ({ cls := "java/lang/StringLatin1", name := "inflate", desc := "([BI[BII)V" } : Jvm.MethodName) jdk_43_method_50_code (5 : Nat) (Option.none : Option Jvm.ClassFile.FieldType), Jvm.Cond.code ({ cls := "java/lang/StringUTF16", name := "inflate", desc := "([BI[BII)V" } : Jvm.MethodName) jdk_52_method_86_code (6 : Nat) (Option.none : Option Jvm.ClassFile.FieldType), Jvm.Cond.code ({ cls := "java/lang/StringUTF16", name := "checkBoundsOffCount", desc := "(II[B)V" } : Jvm.MethodName) jdk_52_method_94_code (3 : Nat) (Option.none : Option Jvm.ClassFile.FieldType), Jvm.Cond.code ({ cls := "java/lang/String", name := "checkBoundsOffCount", desc := "(III)I" } : Jvm.MethodName) jdk_42_method_157_code (3 : Nat) (Option.some Jvm.ClassFile.FieldType.int), Jvm.Cond.code ({ cls := "jdk/internal/util/Preconditions", name := "checkFromIndexSize", desc := "(IIILjava/util/function/BiFunction;)I" } : Jvm.MethodName) jdk_41_method_13_code (4 : Nat) (Option.some Jvm.ClassFile.FieldType.int), Jvm.Cond.code ({ cls := "java/lang/StringUTF16", name := "putCharSB", desc := "([BII)V" } : Jvm.MethodName) jdk_52_method_71_code (3 : Nat) (Option.none : Option Jvm.ClassFile.FieldType)]
set_option maxRecDepth 65536 in
theorem codes_eq : words1.filter isCode = codes1 := rfl
theorem w_codes : ∀ c ∈ words1.filter isCode, c.before args0 about1 = true := by
  rw [codes_eq]
  intro c hc
  simp only [codes1, List.mem_cons, List.not_mem_nil, or_false] at hc
  rcases hc with rfl | rfl | rfl | rfl | rfl | rfl | rfl | rfl | rfl | rfl | rfl | rfl | rfl | rfl | rfl | rfl | rfl | rfl | rfl | rfl | rfl | rfl | rfl | rfl | rfl | rfl | rfl | rfl | rfl | rfl | rfl | rfl | rfl | rfl | rfl | rfl | rfl | rfl | rfl | rfl | rfl | rfl | rfl | rfl | rfl | rfl
  · exact w_c0
  · exact w_c1
  · exact w_c2
  · exact w_c3
  · exact w_c4
  · exact w_c5
  · exact w_c6
  · exact w_c7
  · exact w_c8
  · exact w_c9
  · exact w_c10
  · exact w_c11
  · exact w_c12
  · exact w_c13
  · exact w_c14
  · exact w_c15
  · exact w_c16
  · exact w_c17
  · exact w_c18
  · exact w_c19
  · exact w_c20
  · exact w_c21
  · exact w_c22
  · exact w_c23
  · exact w_c24
  · exact w_c25
  · exact w_c26
  · exact w_c27
  · exact w_c28
  · exact w_c29
  · exact w_c30
  · exact w_c31
  · exact w_c32
  · exact w_c33
  · exact w_c34
  · exact w_c35
  · exact w_c36
  · exact w_c37
  · exact w_c38
  · exact w_c39
  · exact w_c40
  · exact w_c41
  · exact w_c42
  · exact w_c43
  · exact w_c44
  · exact w_c45
set_option maxRecDepth 65536 in
theorem w_t1 : (words1.take 24).all (fun c => isCode c || c.before args0 about1) = true := by decide +kernel
set_option maxRecDepth 65536 in
theorem w_t2 : ((words1.drop 24).take 24).all (fun c => isCode c || c.before args0 about1) = true := by decide +kernel
set_option maxRecDepth 65536 in
theorem w_t3 : (((words1.drop 24).drop 24).take 24).all (fun c => isCode c || c.before args0 about1) = true := by decide +kernel
set_option maxRecDepth 65536 in
theorem w_t4 : ((((words1.drop 24).drop 24).drop 24).take 24).all (fun c => isCode c || c.before args0 about1) = true := by decide +kernel
set_option maxRecDepth 65536 in
theorem w_t5 : (((((words1.drop 24).drop 24).drop 24).drop 24).take 24).all (fun c => isCode c || c.before args0 about1) = true := by decide +kernel
set_option maxRecDepth 65536 in
theorem w_t6 : ((((((words1.drop 24).drop 24).drop 24).drop 24).drop 24).take 24).all (fun c => isCode c || c.before args0 about1) = true := by decide +kernel
set_option maxRecDepth 65536 in
theorem w_t7 : (((((((words1.drop 24).drop 24).drop 24).drop 24).drop 24).drop 24).take 24).all (fun c => isCode c || c.before args0 about1) = true := by decide +kernel
set_option maxRecDepth 65536 in
theorem w_t8 : ((((((((words1.drop 24).drop 24).drop 24).drop 24).drop 24).drop 24).drop 24).take 24).all (fun c => isCode c || c.before args0 about1) = true := by decide +kernel
set_option maxRecDepth 65536 in
theorem w_t9 : (((((((((words1.drop 24).drop 24).drop 24).drop 24).drop 24).drop 24).drop 24).drop 24).take 24).all (fun c => isCode c || c.before args0 about1) = true := by decide +kernel
set_option maxRecDepth 65536 in
theorem w_t10 : (((((((((words1.drop 24).drop 24).drop 24).drop 24).drop 24).drop 24).drop 24).drop 24).drop 24).all (fun c => isCode c || c.before args0 about1) = true := by decide +kernel
theorem w_tables : (allAtoms (Jvm.Cond.code x code maxLocals ret :: tables_1)).before args0 about1 = true := by
  rw [allAtoms_all]
  show words1.all (fun c => c.before args0 about1) = true
  refine all_split ?_ w_codes
  rw [← List.take_append_drop 24 words1, List.all_append, w_t1, ← List.take_append_drop 24 (words1.drop 24), List.all_append, w_t2, ← List.take_append_drop 24 ((words1.drop 24).drop 24), List.all_append, w_t3, ← List.take_append_drop 24 (((words1.drop 24).drop 24).drop 24), List.all_append, w_t4, ← List.take_append_drop 24 ((((words1.drop 24).drop 24).drop 24).drop 24), List.all_append, w_t5, ← List.take_append_drop 24 (((((words1.drop 24).drop 24).drop 24).drop 24).drop 24), List.all_append, w_t6, ← List.take_append_drop 24 ((((((words1.drop 24).drop 24).drop 24).drop 24).drop 24).drop 24), List.all_append, w_t7, ← List.take_append_drop 24 (((((((words1.drop 24).drop 24).drop 24).drop 24).drop 24).drop 24).drop 24), List.all_append, w_t8, ← List.take_append_drop 24 ((((((((words1.drop 24).drop 24).drop 24).drop 24).drop 24).drop 24).drop 24).drop 24), List.all_append, w_t9, w_t10]
  rfl
set_option maxRecDepth 65536 in
theorem w_rest : rest_1_c.before args0 about1 = true := by decide +kernel
set_option maxRecDepth 65536 in
theorem w_case : (Jvm.Cond.and given_1 narrow_1).before args0 about1 = true := by decide +kernel
set_option maxRecDepth 65536 in
theorem w_consts : constsHeld consts_1 about1 := Jvm.Lit.constsHeldB_iff.mp (by decide +kernel)
theorem w_applies : (headSpec (Jvm.Cond.code x code maxLocals ret :: tables_1) room_1).applies x e0.platform about1 = true :=
  (Spec.applies_iff w_frames).mpr ⟨w_running, w_runnable, w_alone, w_named, w_hears, w_ripe, w_room, w_tables⟩
theorem atStart : AtStart classFile x code maxLocals ret World_1 tables_1 room_1 Calls_1 rest_1 Pre_1 launch0 p0 e0 about1 theMethod args0 below0 :=
  ⟨lists_1, trivial, launch0.admits_env _ _ _, launch0.least_env, fairChoices_fair.cas, fairChoices_fair.clock, w_frames, w_args, w_heap, w_applies, ⟨w_consts, trivial⟩, w_rest, w_case⟩
end start1
theorem witness_1 : WitnessClaimed_1 := ⟨start1.p0, start1.e0, start1.about1, start1.theMethod, start1.args0, start1.below0, start1.atStart⟩
end Jvm.Pilot.@@N@@
