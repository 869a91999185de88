import JvmDerived
import JvmDerived.Pilot.@@N@@Statement
import JvmDerived.Pilot.@@N@@Code
set_option linter.unusedVariables false
set_option linter.unusedSimpArgs false
/- laws to paste: Road.backV (cut by pick.py; bodies as the Statement names them) -/
namespace Jvm.Pilot.@@N@@
namespace StrChars
open Jvm Sem ClassFile Op Lib Jvm.Stand Jvm.Free.XT Jvm.Free.ALB Jvm.Free.JM Jvm.Free
open Jvm.Lib.Cold (StaticIs)
/-- a char array whose places are chars -/
def Ch (a : Addr) (A : Cell) (U : State) : Prop := Arr .char a A U ∧ Typed .char A
theorem Ch.mv {a : Addr} {A : Cell} {U U' : State} (h : Ch a A U) (hal : U.vm.Alike U'.vm) (hh : U'.heap = U.heap) : Ch a A U' := ⟨h.1.mv hal hh, h.2⟩
theorem Ch.keep {a : Addr} {A : Cell} {U U' : State} (h : Ch a A U) (hal : U.vm.Alike U'.vm) (hk : U'.heap[a]? = some A) : Ch a A U' := ⟨h.1.keep hal hk, h.2⟩
/-- what place i of a char[]'s cell holds -/
def cv (A : Cell) (i : Nat) : Int32 := match A.slots[i]? with | some (.int x) => x | _ => 0
theorem Ch.get {a : Addr} {A : Cell} {U : State} (h : Ch a A U) {i : Nat} (hi : i < A.slots.size) : A.slots[i]? = some (.int (cv A i)) := by
  have e := Array.getElem?_eq_getElem hi
  have f := h.2 i _ e
  unfold cv; rw [e]
  generalize A.slots[i] = v at f
  cases v <;> simp [fits] at f ⊢
/-- the byte that i2b leaves of a char -/
def lo8 (x : Int32) : Int32 := x.toInt8.toInt32
theorem fits_lo8 (y : Int32) : fits .byte (.int (lo8 y)) = true := by
  have h1 := y.toInt8.le_toInt
  have h2 := y.toInt8.toInt_lt
  simp only [lo8, fits, Bool.and_eq_true, decide_eq_true_eq, Int32.le_iff_toInt_le, Int8.toInt_toInt32, show (-128 : Int32).toInt = -128 from by decide, show (127 : Int32).toInt = 127 from by decide]
  omega
/-- A' is A but that each place j of lo .. hi - 1 holds f j -/
def Laid (A A' : Cell) (lo hi : Nat) (f : Nat → Value) : Prop := A'.cls = A.cls ∧ A'.vm = A.vm ∧ A'.slots.size = A.slots.size ∧ ∀ i, A'.slots[i]? = if lo ≤ i ∧ i < hi then some (f i) else A.slots[i]?
theorem Laid.zero (A : Cell) (lo : Nat) (f : Nat → Value) : Laid A A lo (lo + 0) f := ⟨rfl, rfl, rfl, fun i => by rw [if_neg (by omega)]⟩
theorem Laid.step {A Ak : Cell} {lo k : Nat} {f : Nat → Value} {v : Value} (h : Laid A Ak lo k f) (hlo : lo ≤ k) (hk : k < Ak.slots.size) (hv : v = f k) : Laid A (Ak.setSlot k v) lo (k + 1) f := by
  refine ⟨h.1, h.2.1, by simpa [Cell.setSlot] using h.2.2.1, fun i => ?_⟩
  by_cases e : k = i
  · subst e; rw [Cell.slots_setSlot_self v hk, if_pos (by omega), hv]
  · rw [Cell.slots_setSlot_ne v e, h.2.2.2 i]
    by_cases q : lo ≤ i ∧ i < k
    · rw [if_pos q, if_pos (by omega)]
    · rw [if_neg q, if_neg (by omega)]
def U16 : String := "java/lang/StringUTF16"
namespace Cmp5
def yN : MethodName := ⟨"java/lang/StringUTF16", "compress", "([CI[BII)I"⟩
abbrev yB : ByteArray := jdk_52_method_21_code
theorem d0 : decode yB 0 = .ok (.iconst 0, 1) := by decide +kernel
theorem d1 : decode yB 1 = .ok (.istore 5, 2) := by decide +kernel
theorem d3 : decode yB 3 = .ok (.iload 5, 2) := by decide +kernel
theorem d5 : decode yB 5 = .ok (.iload 4, 2) := by decide +kernel
theorem d7 : decode yB 7 = .ok (.if_icmp (.ge) 37, 3) := by decide +kernel
theorem d10 : decode yB 10 = .ok (.aload_n 0, 1) := by decide +kernel
theorem d11 : decode yB 11 = .ok (.iload_n 1, 1) := by decide +kernel
theorem d12 : decode yB 12 = .ok (.caload, 1) := by decide +kernel
theorem d13 : decode yB 13 = .ok (.istore 6, 2) := by decide +kernel
theorem d15 : decode yB 15 = .ok (.iload 6, 2) := by decide +kernel
theorem d17 : decode yB 17 = .ok (.sipush 255, 3) := by decide +kernel
theorem d20 : decode yB 20 = .ok (.if_icmp (.le) 6, 3) := by decide +kernel
theorem d26 : decode yB 26 = .ok (.aload_n 2, 1) := by decide +kernel
theorem d27 : decode yB 27 = .ok (.iload_n 3, 1) := by decide +kernel
theorem d28 : decode yB 28 = .ok (.iload 6, 2) := by decide +kernel
theorem d30 : decode yB 30 = .ok (.i2b, 1) := by decide +kernel
theorem d31 : decode yB 31 = .ok (.bastore, 1) := by decide +kernel
theorem d32 : decode yB 32 = .ok (.iinc 1 1, 3) := by decide +kernel
theorem d35 : decode yB 35 = .ok (.iinc 3 1, 3) := by decide +kernel
theorem d38 : decode yB 38 = .ok (.iinc 5 1, 3) := by decide +kernel
theorem d41 : decode yB 41 = .ok (.goto (-38), 3) := by decide +kernel
theorem d44 : decode yB 44 = .ok (.iload 4, 2) := by decide +kernel
theorem d46 : decode yB 46 = .ok (.ireturn, 1) := by decide +kernel
def site : List Cond := []
def tab : Cond := tabOf yN yB 7 (some .int) site
def P (b : Addr) (A : Cell) (d : Addr) (B : Cell) (o q len : Nat) (args : Array Value) (s : State) : Prop := args = #[.ref b, .int (Int32.ofNat o), .ref d, .int (Int32.ofNat q), .int (Int32.ofNat len)] ∧ Ch b A s ∧ Arr .byte d B s ∧ b ≠ d ∧ o + len ≤ A.slots.size ∧ q + len ≤ B.slots.size ∧ ∀ i, i < len → ¬ 255 < cv A (o + i)
def E (b : Addr) (A : Cell) (d : Addr) (B : Cell) (o q len : Nat) (r : Option Value) (s u : State) : Prop := r = some (.int (Int32.ofNat len)) ∧ ∃ B', Put d B' s u ∧ Laid B B' q (q + len) (fun j => Value.int (lo8 (cv A (o + (j - q)))))
/-- no char of the range above 255: len; the places written hold each char's low byte -/
theorem law (l : Launch) (b : Addr) (A : Cell) (d : Addr) (B : Cell) (o q len : Nat) : Law l yN 5 5 0 0 yB 7 (some .int) site (P b A d B o q len) (E b A d B o q len) (copyLocs d q len) 0 0 := by
  refine Law.of_walk (plainFor_of_name (by decide +kernel)) (by decide +kernel) (by decide +kernel) (by decide) (fun _ _ h => by rw [h.1]; rfl) (fun _ U U' hal hh h => ⟨h.1, h.2.1.mv hal hh, h.2.2.1.mv hal hh, h.2.2.2⟩) (fun r U U' V V' h1 hal h2 h => ⟨h.1, h.2.elim fun B' q => ⟨B', q.1.mv h1 h2, q.2⟩⟩) ?_
  intro p e s m args below meth c s₁ X0 hexec hbytes hml hret hlk hnm hown hh0 W hP
  obtain ⟨rfl, hA, hB, hne, l1, l2, hp⟩ := hP
  have c1 : Steps p.tables e below (s₁.setTop (entryFrame m #[.ref b, .int (Int32.ofNat o), .ref d, .int (Int32.ofNat q), .int (Int32.ofNat len)] 7)) (s₁.setTop (mkF m 0 #[.val (.ref b), .val (.int (Int32.ofNat o)), .val (.ref d), .val (.int (Int32.ofNat q)), .val (.int (Int32.ofNat len)), .unset, .unset] [])) := entry rfl
  have hA0 := hA.1.mv X0.warmed.alike hh0
  have hB0 := hB.mv X0.warmed.alike hh0
  have a31 := hA.1.2.2.2
  have c2 : Steps p.tables e below (s₁.setTop (entryFrame m #[.ref b, .int (Int32.ofNat o), .ref d, .int (Int32.ofNat q), .int (Int32.ofNat len)] 7)) (s₁.setTop (mkF m 3 #[.val (.ref b), .val (.int (Int32.ofNat o)), .val (.ref d), .val (.int (Int32.ofNat q)), .val (.int (Int32.ofNat len)), .val (.int 0), .unset] [])) := c1.trans (by
    refine iconstV X0.here hexec rfl 0 (hb hbytes d0) (by decide) ?_
    refine XS.istore X0.here hexec rfl (hb hbytes d1) rfl rfl ?_
    exact Steps.refl _)
  have loop : ∀ (r i : Nat), i + r = len → ∀ (z : Slot), (z = .unset ∨ ∃ w, z = .val w ∧ w.category = 1) → ∀ (Tl : State) (Bk : Cell), Stand p l e { frames := 0, locals := 0, cells := 0, slots := 0 } s m #[.ref b, .int (Int32.ofNat o), .ref d, .int (Int32.ofNat q), .int (Int32.ofNat len)] below meth c Tl ([] ++ copyLocs d q i) 0 0 → Put d Bk s₁ Tl → Laid B Bk q (q + i) (fun j => Value.int (lo8 (cv A (o + (j - q))))) →
      Steps p.tables e below (s₁.setTop (entryFrame m #[.ref b, .int (Int32.ofNat o), .ref d, .int (Int32.ofNat q), .int (Int32.ofNat len)] 7)) (Tl.setTop (mkF m 3 #[.val (.ref b), .val (.int (Int32.ofNat (o + i))), .val (.ref d), .val (.int (Int32.ofNat (q + i))), .val (.int (Int32.ofNat len)), .val (.int (Int32.ofNat i)), z] [])) → ∃ (T' : State) (B' : Cell) (z' : Slot), Stand p l e { frames := 0, locals := 0, cells := 0, slots := 0 } s m #[.ref b, .int (Int32.ofNat o), .ref d, .int (Int32.ofNat q), .int (Int32.ofNat len)] below meth c T' ([] ++ copyLocs d q len) 0 0 ∧ Put d B' s₁ T' ∧ Laid B B' q (q + len) (fun j => Value.int (lo8 (cv A (o + (j - q))))) ∧
      Steps p.tables e below (s₁.setTop (entryFrame m #[.ref b, .int (Int32.ofNat o), .ref d, .int (Int32.ofNat q), .int (Int32.ofNat len)] 7)) (T'.setTop (mkF m 3 #[.val (.ref b), .val (.int (Int32.ofNat (o + len))), .val (.ref d), .val (.int (Int32.ofNat (q + len))), .val (.int (Int32.ofNat len)), .val (.int (Int32.ofNat len)), z'] [])) := by
    intro r
    induction r with
    | zero =>
      intro i hi z hz Tl Bk Xl pl fl cl
      have hil : i = len := by omega
      rw [hil] at Xl fl cl
      exact ⟨Tl, Bk, z, Xl, pl, fl, cl⟩
    | succ r ih =>
      intro i hi z hz Tl Bk Xl pl fl cl
      have all := X0.warmed.alike.symm.trans Xl.warmed.alike
      have hAl := hA0.keep all (pl.other hne hA0.1)
      have hBk := hB0.like all pl.1 fl.1 fl.2.1 fl.2.2.1
      have hlt : q + i < Bk.slots.size := by rw [fl.2.2.1]; omega
      have c3 : Steps p.tables e below (s₁.setTop (entryFrame m #[.ref b, .int (Int32.ofNat o), .ref d, .int (Int32.ofNat q), .int (Int32.ofNat len)] 7)) (Tl.setTop (mkF m 12 #[.val (.ref b), .val (.int (Int32.ofNat (o + i))), .val (.ref d), .val (.int (Int32.ofNat (q + i))), .val (.int (Int32.ofNat len)), .val (.int (Int32.ofNat i)), z] [.int (Int32.ofNat (o + i)), .ref b])) := cl.trans (by
        refine XS.iload Xl.here hexec rfl (hb hbytes d3) rfl ?_
        refine XS.iload Xl.here hexec rfl (hb hbytes d5) rfl ?_
        refine XS.icmpNo Xl.here hexec rfl (hb hbytes d7) rfl (ii_ge_f (lt32 (by omega) (by omega))) ?_
        refine XS.aloadN Xl.here hexec rfl (hb hbytes d10) rfl rfl ?_
        refine XS.iloadN Xl.here hexec rfl (hb hbytes d11) rfl ?_
        exact Steps.refl _)
      have c4 : Steps p.tables e below (s₁.setTop (entryFrame m #[.ref b, .int (Int32.ofNat o), .ref d, .int (Int32.ofNat q), .int (Int32.ofNat len)] 7)) (Tl.setTop (mkF m 13 #[.val (.ref b), .val (.int (Int32.ofNat (o + i))), .val (.ref d), .val (.int (Int32.ofNat (q + i))), .val (.int (Int32.ofNat len)), .val (.int (Int32.ofNat i)), z] [.int (cv A (o + i))])) := c3.trans (by
        refine Xl.aget hexec hAl rfl (hA.get (i := o + i) (by omega)) rfl rfl (hb hbytes d12) ?_
        exact Steps.refl _)
      have c5 : Steps p.tables e below (s₁.setTop (entryFrame m #[.ref b, .int (Int32.ofNat o), .ref d, .int (Int32.ofNat q), .int (Int32.ofNat len)] 7)) (Tl.setTop (mkF m 15 #[.val (.ref b), .val (.int (Int32.ofNat (o + i))), .val (.ref d), .val (.int (Int32.ofNat (q + i))), .val (.int (Int32.ofNat len)), .val (.int (Int32.ofNat i)), .val (.int (cv A (o + i)))] [])) := c4.trans (by
        refine XS.istoreS Xl.here hexec rfl (hb hbytes d13) rfl rfl hz ?_
        exact Steps.refl _)
      have c6 : Steps p.tables e below (s₁.setTop (entryFrame m #[.ref b, .int (Int32.ofNat o), .ref d, .int (Int32.ofNat q), .int (Int32.ofNat len)] 7)) (Tl.setTop (mkF m 31 #[.val (.ref b), .val (.int (Int32.ofNat (o + i))), .val (.ref d), .val (.int (Int32.ofNat (q + i))), .val (.int (Int32.ofNat len)), .val (.int (Int32.ofNat i)), .val (.int (cv A (o + i)))] [.int (lo8 (cv A (o + i))), .int (Int32.ofNat (q + i)), .ref d])) := c5.trans (by
        refine XS.iload Xl.here hexec rfl (hb hbytes d15) rfl ?_
        refine sipushV Xl.here hexec rfl 255 (hb hbytes d17) (by decide) ?_
        refine XS.icmpYes Xl.here hexec rfl (pc0 := 20) rfl (hb hbytes d20) rfl (ii_le_t (hp i (by omega))) (by decide) rfl ?_
        refine XS.aloadN Xl.here hexec rfl (hb hbytes d26) rfl rfl ?_
        refine XS.iloadN Xl.here hexec rfl (hb hbytes d27) rfl ?_
        refine XS.iload Xl.here hexec rfl (hb hbytes d28) rfl ?_
        refine i2b Xl.here hexec rfl (hb hbytes d30) rfl ?_
        exact Steps.refl _)
      obtain ⟨T7, X7, p7, st7⟩ := Xl.aput hexec hBk rfl hlt rfl (fits_lo8 (cv A (o + i))) (g := (mkF m 31 #[.val (.ref b), .val (.int (Int32.ofNat (o + i))), .val (.ref d), .val (.int (Int32.ofNat (q + i))), .val (.int (Int32.ofNat len)), .val (.int (Int32.ofNat i)), .val (.int (cv A (o + i)))] [.int (lo8 (cv A (o + i))), .int (Int32.ofNat (q + i)), .ref d])) rfl (rest := []) rfl (hb hbytes d31)
      have c8 : Steps p.tables e below (s₁.setTop (entryFrame m #[.ref b, .int (Int32.ofNat o), .ref d, .int (Int32.ofNat q), .int (Int32.ofNat len)] 7)) (T7.setTop (mkF m 32 #[.val (.ref b), .val (.int (Int32.ofNat (o + i))), .val (.ref d), .val (.int (Int32.ofNat (q + i))), .val (.int (Int32.ofNat len)), .val (.int (Int32.ofNat i)), .val (.int (cv A (o + i)))] [])) := c6.trans (st7 _ (Steps.refl _))
      have c9 : Steps p.tables e below (s₁.setTop (entryFrame m #[.ref b, .int (Int32.ofNat o), .ref d, .int (Int32.ofNat q), .int (Int32.ofNat len)] 7)) (T7.setTop (mkF m 3 #[.val (.ref b), .val (.int (Int32.ofNat (o + i) + 1)), .val (.ref d), .val (.int (Int32.ofNat (q + i) + 1)), .val (.int (Int32.ofNat len)), .val (.int (Int32.ofNat i + 1)), .val (.int (cv A (o + i)))] [])) := c8.trans (by
        refine iincV X7.here hexec rfl 1 (hb hbytes d32) (by decide) rfl rfl ?_
        refine iincV X7.here hexec rfl 1 (hb hbytes d35) (by decide) rfl rfl ?_
        refine iincV X7.here hexec rfl 1 (hb hbytes d38) (by decide) rfl rfl ?_
        refine XS.goto X7.here hexec rfl (pc0 := 41) rfl (hb hbytes d41) (by decide) rfl ?_
        exact Steps.refl _)
      have c10 : Steps p.tables e below (s₁.setTop (entryFrame m #[.ref b, .int (Int32.ofNat o), .ref d, .int (Int32.ofNat q), .int (Int32.ofNat len)] 7)) (T7.setTop (mkF m 3 #[.val (.ref b), .val (.int (Int32.ofNat (o + (i + 1)))), .val (.ref d), .val (.int (Int32.ofNat (q + (i + 1)))), .val (.int (Int32.ofNat len)), .val (.int (Int32.ofNat (i + 1))), .val (.int (cv A (o + i)))] [])) := by
        have := c9
        rw [succ32, succ32, succ32] at this
        exact this
      exact ih (i + 1) (by omega) _ (Or.inr ⟨_, rfl, rfl⟩) T7 _ (by rw [copyLocs_step, ← List.append_assoc]; exact X7) (pl.trans p7) (fl.step (by omega) hlt (by simp)) c10
  obtain ⟨T9, B9, z9, X9, p9, f9, g9⟩ := loop len 0 (by omega) .unset (Or.inl rfl) s₁ B (by simpa [copyLocs] using X0) ⟨hB0.1, fun _ _ => rfl, rfl⟩ (Laid.zero _ _ _) c2
  have c11 : Steps p.tables e below (s₁.setTop (entryFrame m #[.ref b, .int (Int32.ofNat o), .ref d, .int (Int32.ofNat q), .int (Int32.ofNat len)] 7)) (T9.setTop (mkF m 46 #[.val (.ref b), .val (.int (Int32.ofNat (o + len))), .val (.ref d), .val (.int (Int32.ofNat (q + len))), .val (.int (Int32.ofNat len)), .val (.int (Int32.ofNat len)), z9] [.int (Int32.ofNat len)])) := g9.trans (by
    refine XS.iload X9.here hexec rfl (hb hbytes d3) rfl ?_
    refine XS.iload X9.here hexec rfl (hb hbytes d5) rfl ?_
    refine XS.icmpYes X9.here hexec rfl (pc0 := 7) rfl (hb hbytes d7) rfl (ii_ge_t (nlt32 (by omega) (Nat.le_refl _))) (by decide) rfl ?_
    refine XS.iload X9.here hexec rfl (hb hbytes d44) rfl ?_
    exact Steps.refl _)
  exact ⟨T9, some (.int (Int32.ofNat len)), _, _, _, X9, by simp, rfl, rfl, (fun h => by cases h), ⟨rfl, B9, p9.from hh0, f9⟩, fun fs hl => c11.trans (X9.ireturnOut hexec hret rfl (Or.inl rfl) (hb hbytes d46) hl)⟩
end Cmp5
namespace Cmp3
def yN : MethodName := ⟨"java/lang/StringUTF16", "compress", "([CII)[B"⟩
abbrev yB : ByteArray := jdk_52_method_16_code
theorem d0 : decode yB 0 = .ok (.iload_n 2, 1) := by decide +kernel
theorem d1 : decode yB 1 = .ok (.newarray .byte, 2) := by decide +kernel
theorem d3 : decode yB 3 = .ok (.astore_n 3, 1) := by decide +kernel
theorem d4 : decode yB 4 = .ok (.aload_n 0, 1) := by decide +kernel
theorem d5 : decode yB 5 = .ok (.iload_n 1, 1) := by decide +kernel
theorem d6 : decode yB 6 = .ok (.aload_n 3, 1) := by decide +kernel
theorem d7 : decode yB 7 = .ok (.iconst 0, 1) := by decide +kernel
theorem d8 : decode yB 8 = .ok (.iload_n 2, 1) := by decide +kernel
theorem d9 : decode yB 9 = .ok (.invokestatic 115, 3) := by decide +kernel
theorem d12 : decode yB 12 = .ok (.istore 4, 2) := by decide +kernel
theorem d14 : decode yB 14 = .ok (.iload 4, 2) := by decide +kernel
theorem d16 : decode yB 16 = .ok (.iload_n 2, 1) := by decide +kernel
theorem d17 : decode yB 17 = .ok (.if_icmp (.eq) 40, 3) := by decide +kernel
theorem d57 : decode yB 57 = .ok (.aload_n 3, 1) := by decide +kernel
theorem d58 : decode yB 58 = .ok (.areturn, 1) := by decide +kernel
def site : List Cond := [.arrayClass .byte, Cmp5.tab] ++ staticW U16 115 Cmp5.yN
def tab : Cond := tabOf yN yB 6 (some (.array .byte)) site
def P (b : Addr) (A : Cell) (o len : Nat) (args : Array Value) (s : State) : Prop := args = #[.ref b, .int (Int32.ofNat o), .int (Int32.ofNat len)] ∧ Ch b A s ∧ o + len ≤ A.slots.size ∧ len ≤ 536870912 ∧ ∀ i, i < len → ¬ 255 < cv A (o + i)
def E (b : Addr) (A : Cell) (o len : Nat) (r : Option Value) (s u : State) : Prop := NewArr .byte "[B" len (fun j => .int (lo8 (cv A (o + j)))) r s u ∧ u.heap.size = s.heap.size + 1
/-- no char of the range above 255: a new byte[] of their low bytes -/
theorem law (l : Launch) (b : Addr) (A : Cell) (o len : Nat) : Law l yN 3 3 1 18 yB 6 (some (.array .byte)) site (P b A o len) (E b A o len) [] 1 len := by
  refine Law.of_walk (plainFor_of_name (by decide +kernel)) (by decide +kernel) (by decide +kernel) (by decide) (fun _ _ h => by rw [h.1]; rfl) (fun _ U U' hal hh h => ⟨h.1, h.2.1.mv hal hh, h.2.2⟩) (fun r U U' V V' h1 hal h2 h => ⟨NewArr.mv r U U' V V' h1 hal h2 h.1, by rw [h1, h2]; exact h.2⟩) ?_
  intro p e s m args below meth c s₁ X0 hexec hbytes hml hret hlk hnm hown hh0 W hP
  obtain ⟨rfl, hA, l1, l2, hp⟩ := hP
  have a31 := hA.1.2.2.2
  have c1 : Steps p.tables e below (s₁.setTop (entryFrame m #[.ref b, .int (Int32.ofNat o), .int (Int32.ofNat len)] 6)) (s₁.setTop (mkF m 0 #[.val (.ref b), .val (.int (Int32.ofNat o)), .val (.int (Int32.ofNat len)), .unset, .unset, .unset] [])) := entry rfl
  have c2 : Steps p.tables e below (s₁.setTop (entryFrame m #[.ref b, .int (Int32.ofNat o), .int (Int32.ofNat len)] 6)) (s₁.setTop (mkF m 1 #[.val (.ref b), .val (.int (Int32.ofNat o)), .val (.int (Int32.ofNat len)), .unset, .unset, .unset] [.int (Int32.ofNat len)])) := c1.trans (by
    refine XS.iloadN X0.here hexec rfl (hb hbytes d0) rfl ?_
    exact Steps.refl _)
  obtain ⟨T3, B3, X3, ba3, bs3, bv3, bh3, bf3, st3⟩ := X0.anew hexec (atype := .byte) (wk W (.arrayClass .byte)) rfl (by show len * 1 ≤ _; omega) (by omega) (g := (mkF m 1 #[.val (.ref b), .val (.int (Int32.ofNat o)), .val (.int (Int32.ofNat len)), .unset, .unset, .unset] [.int (Int32.ofNat len)])) rfl (hb hbytes d1) (rest := []) rfl (Nat.le_refl _) (by show 0 + len ≤ len; omega)
  rw [hh0] at ba3 st3
  have kp3 : XT.Kept s T3 := (XT.Kept.of_eq hh0).push bh3
  have hA3 := hA.keep X3.warmed.alike (kp3 _ _ hA.1.1)
  have hne : b ≠ s.heap.size := hA.1.ne
  have c4 : Steps p.tables e below (s₁.setTop (entryFrame m #[.ref b, .int (Int32.ofNat o), .int (Int32.ofNat len)] 6)) (T3.setTop (mkF m 3 #[.val (.ref b), .val (.int (Int32.ofNat o)), .val (.int (Int32.ofNat len)), .unset, .unset, .unset] [.ref s.heap.size])) := c2.trans (st3 _ (Steps.refl _))
  have c5 : Steps p.tables e below (s₁.setTop (entryFrame m #[.ref b, .int (Int32.ofNat o), .int (Int32.ofNat len)] 6)) (T3.setTop (mkF m 9 #[.val (.ref b), .val (.int (Int32.ofNat o)), .val (.int (Int32.ofNat len)), .val (.ref s.heap.size), .unset, .unset] [.int (Int32.ofNat len), .int 0, .ref s.heap.size, .int (Int32.ofNat o), .ref b])) := c4.trans (by
    refine XS.astoreN X3.here hexec rfl (hb hbytes d3) rfl rfl rfl ?_
    refine XS.aloadN X3.here hexec rfl (hb hbytes d4) rfl rfl ?_
    refine XS.iloadN X3.here hexec rfl (hb hbytes d5) rfl ?_
    refine XS.aloadN X3.here hexec rfl (hb hbytes d6) rfl rfl ?_
    refine iconstV X3.here hexec rfl 0 (hb hbytes d7) (by decide) ?_
    refine XS.iloadN X3.here hexec rfl (hb hbytes d8) rfl ?_
    exact Steps.refl _)
  obtain ⟨v6, T6, X6, E6, g6⟩ := X3.callS hexec (Cmp5.law l b A s.heap.size B3 o 0 len) hown (wks W (staticW U16 115 Cmp5.yN)) (wk W Cmp5.tab) (W := 0) (Nat.le_of_ble_eq_true rfl) (Nat.le_of_ble_eq_true rfl) (Nat.le_refl _) (by show 0 + len + 0 ≤ len; omega) (g := (mkF m 9 #[.val (.ref b), .val (.int (Int32.ofNat o)), .val (.int (Int32.ofNat len)), .val (.ref s.heap.size), .unset, .unset] [.int (Int32.ofNat len), .int (Int32.ofNat 0), .ref s.heap.size, .int (Int32.ofNat o), .ref b])) rfl (by rw [hml]; rfl) c5 (argsL := [.ref b, .int (Int32.ofNat o), .ref s.heap.size, .int (Int32.ofNat 0), .int (Int32.ofNat len)]) (rest := []) rfl rfl (by show 2 * 0 + 0 ≤ _; decide) (hb hbytes d9) (⟨rfl, hA3, ba3, hne, l1, by rw [bs3]; simp, hp⟩)
  obtain ⟨rfl, B6, p6, f6⟩ := E6
  have c7 : Steps p.tables e below (s₁.setTop (entryFrame m #[.ref b, .int (Int32.ofNat o), .int (Int32.ofNat len)] 6)) (T6.setTop (mkF m 12 #[.val (.ref b), .val (.int (Int32.ofNat o)), .val (.int (Int32.ofNat len)), .val (.ref s.heap.size), .unset, .unset] [.int (Int32.ofNat len)])) := g6
  have c8 : Steps p.tables e below (s₁.setTop (entryFrame m #[.ref b, .int (Int32.ofNat o), .int (Int32.ofNat len)] 6)) (T6.setTop (mkF m 58 #[.val (.ref b), .val (.int (Int32.ofNat o)), .val (.int (Int32.ofNat len)), .val (.ref s.heap.size), .val (.int (Int32.ofNat len)), .unset] [.ref s.heap.size])) := c7.trans (by
    refine XS.istore X6.here hexec rfl (hb hbytes d12) rfl rfl ?_
    refine XS.iload X6.here hexec rfl (hb hbytes d14) rfl ?_
    refine XS.iloadN X6.here hexec rfl (hb hbytes d16) rfl ?_
    refine XS.icmpYes X6.here hexec rfl (pc0 := 17) rfl (hb hbytes d17) rfl (ii_eq_t rfl) (by decide) rfl ?_
    refine XS.aloadN X6.here hexec rfl (hb hbytes d57) rfl rfl ?_
    exact Steps.refl _)
  have X8 := X6.wide (L' := []) (cells' := 1) (slots' := len) (fun x hx hlt => by
    simp only [List.nil_append, copyLocs, List.mem_map, List.mem_range] at hx
    obtain ⟨i, -, rfl⟩ := hx
    exact absurd hlt (Nat.lt_irrefl _)) (Nat.le_refl _) (by omega)
  exact ⟨T6, some (.ref s.heap.size), _, _, _, X8, rfl, rfl, rfl, (fun h => by cases h), ⟨⟨rfl, B6, ba3.like (X3.warmed.alike.symm.trans X6.warmed.alike) p6.1 f6.1 f6.2.1 f6.2.2.1, f6.2.1.trans bv3, by rw [X6.warmed.alike.findClass, f6.1]; exact bf3, by rw [f6.2.2.1, bs3]; simp, fun j hj => by rw [f6.2.2.2 j, if_pos (by omega)]; rfl, kp3.put p6 (Nat.le_refl _)⟩, by rw [p6.2.2, bh3, hh0]; simp⟩, fun fs hl => c8.trans (X8.areturnOut hexec rfl hret rfl (hb hbytes d58) hl)⟩
end Cmp3
namespace CodL
def yN : MethodName := ⟨"java/lang/StringUTF16", "coderFromArrayLen", "([BI)B"⟩
abbrev yB : ByteArray := jdk_52_method_15_code
theorem d0 : decode yB 0 = .ok (.iload_n 1, 1) := by decide +kernel
theorem d1 : decode yB 1 = .ok (.aload_n 0, 1) := by decide +kernel
theorem d2 : decode yB 2 = .ok (.arraylength, 1) := by decide +kernel
theorem d3 : decode yB 3 = .ok (.isub, 1) := by decide +kernel
theorem d4 : decode yB 4 = .ok (.bipush 31, 2) := by decide +kernel
theorem d6 : decode yB 6 = .ok (.iushr, 1) := by decide +kernel
theorem d7 : decode yB 7 = .ok (.i2b, 1) := by decide +kernel
theorem d8 : decode yB 8 = .ok (.ireturn, 1) := by decide +kernel
def site : List Cond := []
def tab : Cond := tabOf yN yB 2 (some .byte) site
def P (d : Addr) (B : Cell) (args : Array Value) (s : State) : Prop := args = #[.ref d, .int (Int32.ofNat B.slots.size)] ∧ Arr .byte d B s
def E (r : Option Value) (s u : State) : Prop := XT.PureE (some (.int 0)) r s u
/-- an array as long as the number of chars: LATIN1 -/
theorem law (l : Launch) (d : Addr) (B : Cell) : Law l yN 2 2 0 0 yB 2 (some .byte) site (P d B) E [] 0 0 := by
  refine Law.of_walk (plainFor_of_name (by decide +kernel)) (by decide +kernel) (by decide +kernel) (by decide) (fun _ _ h => by rw [h.1]; rfl) (fun _ U U' hal hh h => ⟨h.1, h.2.mv hal hh⟩) (fun r U U' V V' h1 hal h2 h => XT.PureE.mv r U U' V V' h1 hal h2 h) ?_
  intro p e s m args below meth c s₁ X0 hexec hbytes hml hret hlk hnm hown hh0 W hP
  obtain ⟨rfl, hB⟩ := hP
  have hB0 := hB.mv X0.warmed.alike hh0
  have c1 : Steps p.tables e below (s₁.setTop (entryFrame m #[.ref d, .int (Int32.ofNat B.slots.size)] 2)) (s₁.setTop (mkF m 0 #[.val (.ref d), .val (.int (Int32.ofNat B.slots.size))] [])) := entry rfl
  have c2 : Steps p.tables e below (s₁.setTop (entryFrame m #[.ref d, .int (Int32.ofNat B.slots.size)] 2)) (s₁.setTop (mkF m 2 #[.val (.ref d), .val (.int (Int32.ofNat B.slots.size))] [.ref d, .int (Int32.ofNat B.slots.size)])) := c1.trans (by
    refine XS.iloadN X0.here hexec rfl (hb hbytes d0) rfl ?_
    refine XS.aloadN X0.here hexec rfl (hb hbytes d1) rfl rfl ?_
    exact Steps.refl _)
  have c3 : Steps p.tables e below (s₁.setTop (entryFrame m #[.ref d, .int (Int32.ofNat B.slots.size)] 2)) (s₁.setTop (mkF m 8 #[.val (.ref d), .val (.int (Int32.ofNat B.slots.size))] [.int (lo8 (ushr (Int32.ofNat B.slots.size - Int32.ofNat B.slots.size) 31))])) := c2.trans (by
    refine X0.alen hexec hB0 rfl rfl (hb hbytes d2) ?_
    refine XS.isub X0.here hexec rfl (hb hbytes d3) rfl ?_
    refine bipushV X0.here hexec rfl 31 (hb hbytes d4) (by decide) ?_
    refine iushr X0.here hexec rfl (hb hbytes d6) rfl ?_
    refine i2b X0.here hexec rfl (hb hbytes d7) rfl ?_
    exact Steps.refl _)
  have e0 : lo8 (ushr (Int32.ofNat B.slots.size - Int32.ofNat B.slots.size) 31) = 0 := by rw [Int32.sub_self]; decide
  rw [e0] at c3
  exact ⟨s₁, some (.int 0), _, _, _, X0, rfl, rfl, rfl, (fun h => by cases h), ⟨rfl, hh0⟩, fun fs hl => c3.trans (X0.ireturnOut hexec hret rfl (Or.inr (Or.inr (Or.inl rfl))) (hb hbytes d8) hl)⟩
end CodL
/-- the String at a is Latin-1 over a new byte[] (the heap's one new cell): the low bytes of the len chars of A from o on; every cell but a is kept -/
def Got (a : Addr) (D : Cell) (fV fC : Field) (A : Cell) (o len : Nat) (r : Option Value) (s u : State) : Prop := r = none ∧ ∃ D' V : Cell, Blank "java/lang/String" a D' u ∧ Same D D' [fV.slot, fC.slot] ∧ D'.slots[fV.slot]? = some (.ref s.heap.size) ∧ D'.slots[fC.slot]? = some (.int 0) ∧ Arr .byte s.heap.size V u ∧ V.vm = .none ∧ u.vm.findClass "[B" = some V.cls ∧ V.slots.size = len ∧ (∀ j, j < len → V.slots[j]? = some (.int (lo8 (cv A (o + j))))) ∧ (∀ (y : Addr) (c : Cell), y ≠ a → s.heap[y]? = some c → u.heap[y]? = some c) ∧ u.heap.size = s.heap.size + 1
theorem Got.mv {a : Addr} {D A : Cell} {fV fC : Field} {o len : Nat} : ∀ r (U U' V V' : State), U'.heap = U.heap → V.vm.Alike V'.vm → V'.heap = V.heap → Got a D fV fC A o len r U V → Got a D fV fC A o len r U' V' :=
  fun r U U' V V' h1 hal h2 ⟨e0, D', X, a1, a2, a3, a4, a5, a6, a7, a8, a9, a10, a11⟩ => ⟨e0, D', X, a1.mv hal h2, a2, by rw [h1]; exact a3, a4, by rw [h1]; exact a5.mv hal h2, a6, by rw [hal.findClass]; exact a7, a8, a9, by rw [h1, h2]; exact a10, by rw [h1, h2]; exact a11⟩
namespace New4
def yN : MethodName := ⟨"java/lang/String", "<init>", "([CIILjava/lang/Void;)V"⟩
abbrev yB : ByteArray := jdk_42_method_149_code
theorem d0 : decode yB 0 = .ok (.aload_n 0, 1) := by decide +kernel
theorem d1 : decode yB 1 = .ok (.invokespecial 1, 3) := by decide +kernel
theorem d4 : decode yB 4 = .ok (.iload_n 3, 1) := by decide +kernel
theorem d5 : decode yB 5 = .ok (.ifCond (.ne) 22, 3) := by decide +kernel
theorem d27 : decode yB 27 = .ok (.getstatic 38, 3) := by decide +kernel
theorem d30 : decode yB 30 = .ok (.ifCond (.eq) 28, 3) := by decide +kernel
theorem d33 : decode yB 33 = .ok (.aload_n 1, 1) := by decide +kernel
theorem d34 : decode yB 34 = .ok (.iload_n 2, 1) := by decide +kernel
theorem d35 : decode yB 35 = .ok (.iload_n 3, 1) := by decide +kernel
theorem d36 : decode yB 36 = .ok (.invokestatic 177, 3) := by decide +kernel
theorem d39 : decode yB 39 = .ok (.astore 5, 2) := by decide +kernel
theorem d41 : decode yB 41 = .ok (.aload_n 0, 1) := by decide +kernel
theorem d42 : decode yB 42 = .ok (.aload 5, 2) := by decide +kernel
theorem d44 : decode yB 44 = .ok (.iload_n 3, 1) := by decide +kernel
theorem d45 : decode yB 45 = .ok (.invokestatic 47, 3) := by decide +kernel
theorem d48 : decode yB 48 = .ok (.putfield 15, 3) := by decide +kernel
theorem d51 : decode yB 51 = .ok (.aload_n 0, 1) := by decide +kernel
theorem d52 : decode yB 52 = .ok (.aload 5, 2) := by decide +kernel
theorem d54 : decode yB 54 = .ok (.putfield 9, 3) := by decide +kernel
theorem d57 : decode yB 57 = .ok (.return_, 1) := by decide +kernel
def site : List Cond := [.fieldLink "java/lang/String" 38 "java/lang/String" "COMPACT_STRINGS" "Z", Cmp3.tab, CodL.tab, .laysFinal "java/lang/String" "java/lang/String" "value" "[B", .fieldLink "java/lang/String" 9 "java/lang/String" "value" "[B", .laysFinal "java/lang/String" "java/lang/String" "coder" "B", .fieldLink "java/lang/String" 15 "java/lang/String" "coder" "B"] ++ objW "java/lang/String" 1 ++ staticW "java/lang/String" 177 Cmp3.yN ++ staticW "java/lang/String" 47 CodL.yN
def tab : Cond := tabOf yN yB 6 none site
def P (a : Addr) (D : Cell) (fV fC : Field) (b : Addr) (A : Cell) (z : Int32) (o len : Nat) (args : Array Value) (s : State) : Prop := args = #[.ref a, .ref b, .int (Int32.ofNat o), .int (Int32.ofNat len), .null] ∧ Blank "java/lang/String" a D s ∧ Found "java/lang/String" "value" "[B" fV s ∧ Found "java/lang/String" "coder" "B" fC s ∧ Ch b A s ∧ StaticIs s "java/lang/String" "COMPACT_STRINGS" "Z" (.int z) ∧ ¬ z = 0 ∧ 0 < len ∧ o + len ≤ A.slots.size ∧ len ≤ 536870912 ∧ ∀ i, i < len → ¬ 255 < cv A (o + i)
def E (a : Addr) (D : Cell) (fV fC : Field) (A : Cell) (o len : Nat) (r : Option Value) (s u : State) : Prop := Got a D fV fC A o len r s u
/-- len > 0, no char of the range above 255: a Latin-1 String of their low bytes -/
theorem law (l : Launch) (a : Addr) (D : Cell) (fV fC : Field) (b : Addr) (A : Cell) (z : Int32) (o len : Nat) : Law l yN 5 4 2 35 yB 6 none site (P a D fV fC b A z o len) (E a D fV fC A o len) [⟨a, fC.slot⟩, ⟨a, fV.slot⟩] 1 len := by
  refine Law.of_walk (plainFor_of_name (by decide +kernel)) (by decide +kernel) (by decide +kernel) (by decide) (fun _ _ h => by rw [h.1]; rfl) (fun _ U U' hal hh h => ⟨h.1, h.2.1.mv hal hh, h.2.2.1.al hal, h.2.2.2.1.al hal, h.2.2.2.2.1.mv hal hh, h.2.2.2.2.2.1.there hal hh, h.2.2.2.2.2.2⟩) (fun r U U' V V' h1 hal h2 h => Got.mv r U U' V V' h1 hal h2 h) ?_
  intro p e s m args below meth c s₁ X0 hexec hbytes hml hret hlk hnm hown hh0 W hP
  obtain ⟨rfl, hB, f1, f2, hA, s1, hz, l0, l1, l2, hp⟩ := hP
  have a31 := hA.1.2.2.2
  have c1 : Steps p.tables e below (s₁.setTop (entryFrame m #[.ref a, .ref b, .int (Int32.ofNat o), .int (Int32.ofNat len), .null] 6)) (s₁.setTop (mkF m 0 #[.val (.ref a), .val (.ref b), .val (.int (Int32.ofNat o)), .val (.int (Int32.ofNat len)), .val .null, .unset] [])) := entry rfl
  have c2 : Steps p.tables e below (s₁.setTop (entryFrame m #[.ref a, .ref b, .int (Int32.ofNat o), .int (Int32.ofNat len), .null] 6)) (s₁.setTop (mkF m 1 #[.val (.ref a), .val (.ref b), .val (.int (Int32.ofNat o)), .val (.int (Int32.ofNat len)), .val .null, .unset] [.ref a])) := c1.trans (by
    refine XS.aloadN X0.here hexec rfl (hb hbytes d0) rfl rfl ?_
    exact Steps.refl _)
  obtain ⟨T3, X3, q3, st3⟩ := X0.oinit hexec hown (wks W (objW "java/lang/String" 1)) (g := (mkF m 1 #[.val (.ref a), .val (.ref b), .val (.int (Int32.ofNat o)), .val (.int (Int32.ofNat len)), .val .null, .unset] [.ref a])) rfl (by rw [hml]; rfl) (rest := []) rfl (hb hbytes d1) (W := 0) (by show 2 * 0 + 0 ≤ _; decide) (Nat.le_of_ble_eq_true rfl) (Nat.le_of_ble_eq_true rfl)
  have hh3 := q3.trans hh0
  have c4 : Steps p.tables e below (s₁.setTop (entryFrame m #[.ref a, .ref b, .int (Int32.ofNat o), .int (Int32.ofNat len), .null] 6)) (T3.setTop (mkF m 27 #[.val (.ref a), .val (.ref b), .val (.int (Int32.ofNat o)), .val (.int (Int32.ofNat len)), .val .null, .unset] [])) := (c2.trans (st3 _ (Steps.refl _))).trans (by
    refine XS.iloadN X3.here hexec rfl (hb hbytes d4) rfl ?_
    refine XS.ifYes X3.here hexec rfl (pc0 := 5) rfl (hb hbytes d5) rfl (i0_ne_t (nz32 (by omega) l0)) (by decide) rfl ?_
    exact Steps.refl _)
  obtain ⟨T5, X5, q5, st5⟩ := X3.sget hexec hown (wk W (.fieldLink "java/lang/String" 38 "java/lang/String" "COMPACT_STRINGS" "Z")) s1 (fun _ _ h => by rw [hh3]; exact h) (g := (mkF m 27 #[.val (.ref a), .val (.ref b), .val (.int (Int32.ofNat o)), .val (.int (Int32.ofNat len)), .val .null, .unset] [])) rfl (hb hbytes d27)
  have hh5 := q5.trans hh3
  have c6 : Steps p.tables e below (s₁.setTop (entryFrame m #[.ref a, .ref b, .int (Int32.ofNat o), .int (Int32.ofNat len), .null] 6)) (T5.setTop (mkF m 30 #[.val (.ref a), .val (.ref b), .val (.int (Int32.ofNat o)), .val (.int (Int32.ofNat len)), .val .null, .unset] [.int z])) := c4.trans (st5 _ (Steps.refl _))
  have c7 : Steps p.tables e below (s₁.setTop (entryFrame m #[.ref a, .ref b, .int (Int32.ofNat o), .int (Int32.ofNat len), .null] 6)) (T5.setTop (mkF m 36 #[.val (.ref a), .val (.ref b), .val (.int (Int32.ofNat o)), .val (.int (Int32.ofNat len)), .val .null, .unset] [.int (Int32.ofNat len), .int (Int32.ofNat o), .ref b])) := c6.trans (by
    refine XS.ifNo X5.here hexec rfl (hb hbytes d30) rfl (i0_eq_f hz) ?_
    refine XS.aloadN X5.here hexec rfl (hb hbytes d33) rfl rfl ?_
    refine XS.iloadN X5.here hexec rfl (hb hbytes d34) rfl ?_
    refine XS.iloadN X5.here hexec rfl (hb hbytes d35) rfl ?_
    exact Steps.refl _)
  obtain ⟨v8, T8, X8, E8, g8⟩ := X5.callS hexec (Cmp3.law l b A o len) hown (wks W (staticW "java/lang/String" 177 Cmp3.yN)) (wk W Cmp3.tab) (W := 0) (Nat.le_of_ble_eq_true rfl) (Nat.le_of_ble_eq_true rfl) (Nat.le_refl _) (by show 0 + len ≤ len; omega) (g := (mkF m 36 #[.val (.ref a), .val (.ref b), .val (.int (Int32.ofNat o)), .val (.int (Int32.ofNat len)), .val .null, .unset] [.int (Int32.ofNat len), .int (Int32.ofNat o), .ref b])) rfl (by rw [hml]; rfl) c7 (argsL := [.ref b, .int (Int32.ofNat o), .int (Int32.ofNat len)]) (rest := []) rfl rfl (by show 2 * 0 + 0 ≤ _; decide) (hb hbytes d36) (⟨rfl, hA.mv X5.warmed.alike hh5, l1, l2, hp⟩)
  obtain ⟨e8, z8⟩ := E8
  obtain ⟨rfl, N, n1, n2, n3, n4, n5, n6⟩ := NewArr.mv _ T5 s _ _ hh5.symm (Vm.Alike.refl _) rfl e8
  rw [hh5] at z8
  have hB1 := hB.keep X8.warmed.alike (n6 _ _ hB.1)
  have hne : s.heap.size ≠ a := (Nat.ne_of_lt (Array.getElem?_eq_some_iff.mp hB.1).1).symm
  have c9 : Steps p.tables e below (s₁.setTop (entryFrame m #[.ref a, .ref b, .int (Int32.ofNat o), .int (Int32.ofNat len), .null] 6)) (T8.setTop (mkF m 39 #[.val (.ref a), .val (.ref b), .val (.int (Int32.ofNat o)), .val (.int (Int32.ofNat len)), .val .null, .unset] [.ref s.heap.size])) := g8
  have c10 : Steps p.tables e below (s₁.setTop (entryFrame m #[.ref a, .ref b, .int (Int32.ofNat o), .int (Int32.ofNat len), .null] 6)) (T8.setTop (mkF m 45 #[.val (.ref a), .val (.ref b), .val (.int (Int32.ofNat o)), .val (.int (Int32.ofNat len)), .val .null, .val (.ref s.heap.size)] [.int (Int32.ofNat N.slots.size), .ref s.heap.size, .ref a])) := by
    have hc : Steps p.tables e below (s₁.setTop (entryFrame m #[.ref a, .ref b, .int (Int32.ofNat o), .int (Int32.ofNat len), .null] 6)) (T8.setTop (mkF m 45 #[.val (.ref a), .val (.ref b), .val (.int (Int32.ofNat o)), .val (.int (Int32.ofNat len)), .val .null, .val (.ref s.heap.size)] [.int (Int32.ofNat len), .ref s.heap.size, .ref a])) := c9.trans (by
      refine XS.astore X8.here hexec rfl (hb hbytes d39) rfl rfl rfl ?_
      refine XS.aloadN X8.here hexec rfl (hb hbytes d41) rfl rfl ?_
      refine XS.aload X8.here hexec rfl (hb hbytes d42) rfl rfl ?_
      refine XS.iloadN X8.here hexec rfl (hb hbytes d44) rfl ?_
      exact Steps.refl _)
    rw [n4]; exact hc
  obtain ⟨v11, T11, X11, E11, g11⟩ := X8.callS hexec (CodL.law l s.heap.size N) hown (wks W (staticW "java/lang/String" 47 CodL.yN)) (wk W CodL.tab) (W := 1) (Nat.le_of_ble_eq_true rfl) (Nat.le_of_ble_eq_true rfl) (Nat.le_refl _) (by show 0 + len + 0 ≤ len; omega) (g := (mkF m 45 #[.val (.ref a), .val (.ref b), .val (.int (Int32.ofNat o)), .val (.int (Int32.ofNat len)), .val .null, .val (.ref s.heap.size)] [.int (Int32.ofNat N.slots.size), .ref s.heap.size, .ref a])) rfl (by rw [hml]; rfl) c10 (argsL := [.ref s.heap.size, .int (Int32.ofNat N.slots.size)]) (rest := [.ref a]) rfl rfl (by show 2 * 0 + (1 + 0) ≤ _; decide) (hb hbytes d45) (⟨rfl, n1⟩)
  obtain ⟨rfl, q11⟩ := E11
  have hB11 := hB1.mv (X8.warmed.alike.symm.trans X11.warmed.alike) q11
  have c12 : Steps p.tables e below (s₁.setTop (entryFrame m #[.ref a, .ref b, .int (Int32.ofNat o), .int (Int32.ofNat len), .null] 6)) (T11.setTop (mkF m 48 #[.val (.ref a), .val (.ref b), .val (.int (Int32.ofNat o)), .val (.int (Int32.ofNat len)), .val .null, .val (.ref s.heap.size)] [.int 0, .ref a])) := g11
  obtain ⟨T13, X13, p13, bl13, sl13, st13⟩ := X11.finit hexec hown (wk W (.fieldLink "java/lang/String" 15 "java/lang/String" "coder" "B")) (Or.inr ⟨_, (wk W (.laysFinal "java/lang/String" "java/lang/String" "coder" "B"))⟩) (Or.inl ⟨rfl, hnm⟩) f2 (Or.inl rfl) hB11 (t := .byte) (by decide +kernel) rfl (g := (mkF m 48 #[.val (.ref a), .val (.ref b), .val (.int (Int32.ofNat o)), .val (.int (Int32.ofNat len)), .val .null, .val (.ref s.heap.size)] [.int 0, .ref a])) rfl (rest := []) rfl (hb hbytes d48)
  have c14 : Steps p.tables e below (s₁.setTop (entryFrame m #[.ref a, .ref b, .int (Int32.ofNat o), .int (Int32.ofNat len), .null] 6)) (T13.setTop (mkF m 54 #[.val (.ref a), .val (.ref b), .val (.int (Int32.ofNat o)), .val (.int (Int32.ofNat len)), .val .null, .val (.ref s.heap.size)] [.ref s.heap.size, .ref a])) := (c12.trans (st13 _ (Steps.refl _))).trans (by
    refine XS.aloadN X13.here hexec rfl (hb hbytes d51) rfl rfl ?_
    refine XS.aload X13.here hexec rfl (hb hbytes d52) rfl rfl ?_
    exact Steps.refl _)
  obtain ⟨T15, X15, p15, bl15, sl15, st15⟩ := X13.finit hexec hown (wk W (.fieldLink "java/lang/String" 9 "java/lang/String" "value" "[B")) (Or.inr ⟨_, (wk W (.laysFinal "java/lang/String" "java/lang/String" "value" "[B"))⟩) (Or.inl ⟨rfl, hnm⟩) f1 (Or.inl rfl) bl13 (t := (.array .byte)) (by decide +kernel) rfl (g := (mkF m 54 #[.val (.ref a), .val (.ref b), .val (.int (Int32.ofNat o)), .val (.int (Int32.ofNat len)), .val .null, .val (.ref s.heap.size)] [.ref s.heap.size, .ref a])) rfl (rest := []) rfl (hb hbytes d54)
  have c16 : Steps p.tables e below (s₁.setTop (entryFrame m #[.ref a, .ref b, .int (Int32.ofNat o), .int (Int32.ofNat len), .null] 6)) (T15.setTop (mkF m 57 #[.val (.ref a), .val (.ref b), .val (.int (Int32.ofNat o)), .val (.int (Int32.ofNat len)), .val .null, .val (.ref s.heap.size)] [])) := c14.trans (st15 _ (Steps.refl _))
  have ap := apart (Or.inr ⟨_, (wk W (.laysFinal "java/lang/String" "java/lang/String" "value" "[B"))⟩) (Or.inr ⟨_, (wk W (.laysFinal "java/lang/String" "java/lang/String" "coder" "B"))⟩) f1 f2 (t₁ := .array .byte) (t₂ := .byte) (by decide +kernel) (by decide +kernel) (by decide)
  have al := X8.warmed.alike.symm.trans X15.warmed.alike
  have n7 : T11.heap[s.heap.size]? = some N := by rw [q11]; exact n1.1
  exact ⟨T15, none, _, _, _, X15, by simp, rfl, by omega, (fun _ => rfl), ⟨rfl, _, N, bl15, ((Same.refl D _).set _ (by simp)).set _ (by simp), sl15, (Cell.slots_setSlot_ne _ ap).trans sl13, n1.keep al (p15.other hne (p13.other hne n7)), n2, by rw [al.findClass]; exact n3, n4, n5, fun y c h1 h2 => p15.other h1 (p13.other h1 (by rw [q11]; exact n6 y c h2)), by rw [p15.2.2, p13.2.2, q11]; exact z8⟩, fun fs hl => c16.trans (X15.returnOut hexec hret (hb hbytes d57) hl)⟩
end New4
namespace New1
def yN : MethodName := ⟨"java/lang/String", "<init>", "([C)V"⟩
abbrev yB : ByteArray := jdk_42_method_3_code
theorem d0 : decode yB 0 = .ok (.aload_n 0, 1) := by decide +kernel
theorem d1 : decode yB 1 = .ok (.aload_n 1, 1) := by decide +kernel
theorem d2 : decode yB 2 = .ok (.iconst 0, 1) := by decide +kernel
theorem d3 : decode yB 3 = .ok (.aload_n 1, 1) := by decide +kernel
theorem d4 : decode yB 4 = .ok (.arraylength, 1) := by decide +kernel
theorem d5 : decode yB 5 = .ok (.aconst_null, 1) := by decide +kernel
theorem d6 : decode yB 6 = .ok (.invokespecial 27, 3) := by decide +kernel
theorem d9 : decode yB 9 = .ok (.return_, 1) := by decide +kernel
def site : List Cond := [New4.tab] ++ initW "java/lang/String" 27 New4.yN
def tab : Cond := tabOf yN yB 2 none site
def P (a : Addr) (D : Cell) (fV fC : Field) (b : Addr) (A : Cell) (z : Int32) (args : Array Value) (s : State) : Prop := args = #[.ref a, .ref b] ∧ Blank "java/lang/String" a D s ∧ Found "java/lang/String" "value" "[B" fV s ∧ Found "java/lang/String" "coder" "B" fC s ∧ Ch b A s ∧ StaticIs s "java/lang/String" "COMPACT_STRINGS" "Z" (.int z) ∧ ¬ z = 0 ∧ 0 < A.slots.size ∧ A.slots.size ≤ 536870912 ∧ ∀ i, i < A.slots.size → ¬ 255 < cv A i
def E (a : Addr) (D : Cell) (fV fC : Field) (A : Cell) (r : Option Value) (s u : State) : Prop := Got a D fV fC A 0 A.slots.size r s u
/-- new String(chars), not empty, no char above 255: a Latin-1 String of their low bytes -/
theorem law (l : Launch) (a : Addr) (D : Cell) (fV fC : Field) (b : Addr) (A : Cell) (z : Int32) : Law l yN 2 1 3 52 yB 2 none site (P a D fV fC b A z) (E a D fV fC A) [⟨a, fC.slot⟩, ⟨a, fV.slot⟩] 1 A.slots.size := by
  refine Law.of_walk (plainFor_of_name (by decide +kernel)) (by decide +kernel) (by decide +kernel) (by decide) (fun _ _ h => by rw [h.1]; rfl) (fun _ U U' hal hh h => ⟨h.1, h.2.1.mv hal hh, h.2.2.1.al hal, h.2.2.2.1.al hal, h.2.2.2.2.1.mv hal hh, h.2.2.2.2.2.1.there hal hh, h.2.2.2.2.2.2⟩) (fun r U U' V V' h1 hal h2 h => Got.mv r U U' V V' h1 hal h2 h) ?_
  intro p e s m args below meth c s₁ X0 hexec hbytes hml hret hlk hnm hown hh0 W hP
  obtain ⟨rfl, hB, f1, f2, hA, s1, hz, l0, l2, hp⟩ := hP
  have c1 : Steps p.tables e below (s₁.setTop (entryFrame m #[.ref a, .ref b] 2)) (s₁.setTop (mkF m 0 #[.val (.ref a), .val (.ref b)] [])) := entry rfl
  have c2 : Steps p.tables e below (s₁.setTop (entryFrame m #[.ref a, .ref b] 2)) (s₁.setTop (mkF m 6 #[.val (.ref a), .val (.ref b)] [.null, .int (Int32.ofNat A.slots.size), .int 0, .ref b, .ref a])) := c1.trans (by
    refine XS.aloadN X0.here hexec rfl (hb hbytes d0) rfl rfl ?_
    refine XS.aloadN X0.here hexec rfl (hb hbytes d1) rfl rfl ?_
    refine iconstV X0.here hexec rfl 0 (hb hbytes d2) (by decide) ?_
    refine XS.aloadN X0.here hexec rfl (hb hbytes d3) rfl rfl ?_
    refine X0.alen hexec (hA.1.mv X0.warmed.alike hh0) rfl rfl (hb hbytes d4) ?_
    refine XS.aconstNull X0.here hexec rfl (hb hbytes d5) ?_
    exact Steps.refl _)
  obtain ⟨v3, T3, X3, E3, g3⟩ := X0.callN hexec (New4.law l a D fV fC b A z 0 A.slots.size) rfl hown (wks W (initW "java/lang/String" 27 New4.yN)) (W New4.tab (by simp only [site, List.mem_cons, List.mem_append, true_or, or_true])) (W := 0) (Nat.le_of_ble_eq_true rfl) (Nat.le_of_ble_eq_true rfl) (Nat.le_refl _) (by show 0 + A.slots.size ≤ A.slots.size; omega) (g := (mkF m 6 #[.val (.ref a), .val (.ref b)] [.null, .int (Int32.ofNat A.slots.size), .int (Int32.ofNat 0), .ref b, .ref a])) rfl (by rw [hml]; rfl) c2 (argsL := [.ref b, .int (Int32.ofNat 0), .int (Int32.ofNat A.slots.size), .null]) (rest := []) rfl rfl (by show 2 * 0 + 0 ≤ _; decide) (hb hbytes d6) (⟨rfl, hB.mv X0.warmed.alike hh0, f1.al X0.warmed.alike, f2.al X0.warmed.alike, hA.mv X0.warmed.alike hh0, s1.there X0.warmed.alike hh0, hz, l0, by omega, l2, fun i hi => by rw [Nat.zero_add]; exact hp i hi⟩)
  have e0 := Got.mv _ s₁ s _ _ hh0.symm (Vm.Alike.refl _) rfl E3
  obtain rfl := e0.1
  have c4 : Steps p.tables e below (s₁.setTop (entryFrame m #[.ref a, .ref b] 2)) (T3.setTop (mkF m 9 #[.val (.ref a), .val (.ref b)] [])) := g3
  exact ⟨T3, none, _, _, _, X3, by simp, rfl, by omega, (fun _ => rfl), e0, fun fs hl => c4.trans (X3.returnOut hexec hret (hb hbytes d9) hl)⟩
theorem pays {l : Launch} {R : Room} {p : Program} {e : Env} {below : List Frame} {s : State} {sargs : Array Value} {len W : Nat} (a : Addr) (D : Cell) (fV fC : Field) (b : Addr) (A : Cell) (z : Int32) (htab : tab.before sargs s = true) (hfr : 4 ≤ R.frames) (hlo : W + 65 ≤ R.locals) :
    Back l R p e below s sargs yN len W (fun A₁ a₁ => A₁.cells + 1 ≤ R.cells ∧ A₁.slots + A.slots.size ≤ R.slots ∧ P a D fV fC b A z a₁ A₁.U) (fun A₁ _ v₁ B₁ => E a D fV fC A v₁ A₁.U B₁.U ∧ B₁.locs = A₁.locs ++ [⟨a, fC.slot⟩, ⟨a, fV.slot⟩] ∧ B₁.cells = A₁.cells + 1 ∧ B₁.slots = A₁.slots + A.slots.size) :=
  (law l a D fV fC b A z).pays htab hfr (by omega)
end New1
end StrChars
namespace StrChars.Road
open Jvm Sem ClassFile Op Lib Jvm.Stand Jvm.Free Jvm.Free.XT
open Jvm.Lib.Cold (StaticIs)
abbrev ST : String := "java/lang/String"
/-- every table word that New1's law asks, flat -/
abbrev words : List Jvm.Cond := [.code New1.yN New1.yB 2 none, .initialized ST, .methodLink ST 27 New4.yN, .instanceMethod New4.yN,
  .code New4.yN New4.yB 6 none, .fieldLink ST 38 ST "COMPACT_STRINGS" "Z", .laysFinal ST ST "value" "[B", .fieldLink ST 9 ST "value" "[B", .laysFinal ST ST "coder" "B", .fieldLink ST 15 ST "coder" "B",
  .methodLink ST 1 Lib.objectInit, .instanceMethod Lib.objectInit, .code Lib.objectInit ⟨#[0xb1]⟩ 1 none, .methodLink ST 177 Cmp3.yN, .static Cmp3.yN, .methodLink ST 47 CodL.yN, .static CodL.yN,
  .code Cmp3.yN Cmp3.yB 6 (some (.array .byte)), .initialized U16, .arrayClass .byte, .methodLink U16 115 Cmp5.yN, .static Cmp5.yN, .code Cmp5.yN Cmp5.yB 7 (some .int), .code CodL.yN CodL.yB 2 (some .byte)]
theorem tab_of {a : Array Value} {s : State} (h : ∀ w ∈ words, w.before a s = true) : New1.tab.before a s = true := by
  have h5 : Cmp5.tab.before a s = true := unparts (wk h (.code Cmp5.yN Cmp5.yB 7 (some .int))) (wks h (.initialized Cmp5.yN.cls :: Cmp5.site))
  have hc : CodL.tab.before a s = true := unparts (wk h (.code CodL.yN CodL.yB 2 (some .byte))) (wks h (.initialized CodL.yN.cls :: CodL.site))
  have q5 : ∀ w ∈ Cmp5.tab :: words, w.before a s = true := fun w hw => (List.mem_cons.mp hw).elim (fun e => e ▸ h5) (h w)
  have h3 : Cmp3.tab.before a s = true := unparts (wk q5 (.code Cmp3.yN Cmp3.yB 6 (some (.array .byte)))) (wks q5 (.initialized Cmp3.yN.cls :: Cmp3.site))
  have q3 : ∀ w ∈ Cmp3.tab :: CodL.tab :: words, w.before a s = true := fun w hw => (List.mem_cons.mp hw).elim (fun e => e ▸ h3) fun hw => (List.mem_cons.mp hw).elim (fun e => e ▸ hc) (h w)
  have h4 : New4.tab.before a s = true := unparts (wk q3 (.code New4.yN New4.yB 6 none)) (wks q3 (.initialized New4.yN.cls :: New4.site))
  have q4 : ∀ w ∈ New4.tab :: words, w.before a s = true := fun w hw => (List.mem_cons.mp hw).elim (fun e => e ▸ h4) (h w)
  exact unparts (wk q4 (.code New1.yN New1.yB 2 none)) (wks q4 (.initialized New1.yN.cls :: New1.site))
/-- the words ride from the start Z to the walk's own state -/
theorem moved {Z s : State} {a0 args : Array Value} (hZ : Z.Warmed39 s.vm) (hw : ∀ d ∈ words, d.before a0 Z = true) : ∀ d ∈ words, d.before args s = true := fun d hd => by
  have q := hw d hd
  have t : ∀ d ∈ words, d = .arrayClass .byte ∨ (d.onTables && d.keepsFace) = true := by decide +kernel
  rcases t d hd with rfl | t
  · exact RoadKit.mvA hZ q
  · exact RoadKit.mv hZ q t
/-- WHAT COMES BACK, over the tables of the start Z: h the heap at the call, h' behind it -/
def Q (Z : State) (x : Addr) (A : Cell) (h : Heap) (v : Option Value) (h' : Heap) (L : List Loc) : Prop := v = none ∧ (∀ y ∈ L, y.base = x) ∧ RoadKit.Keep h h' [x] ∧ h'.size = h.size + 1 ∧ RoadKit.Exa Z h' x ST ∧ RoadKit.Fld Z h' x ST "value" "[B" (.ref h.size) ∧ RoadKit.Fld Z h' x ST "coder" "B" (.int 0) ∧
  (∃ V : Cell, RoadKit.Arr Z h' h.size V .byte ∧ V.vm = .none ∧ Z.vm.findClass "[B" = some V.cls ∧ V.slots.size = A.slots.size ∧ ∀ j, j < A.slots.size → V.slots[j]? = some (.int (lo8 (cv A j)))) ∧
  ∀ (O n d : String) (w : Value), RoadKit.Fld Z h x O n d w → RoadKit.slotOf Z O n d ≠ RoadKit.slotOf Z ST "value" "[B" → RoadKit.slotOf Z O n d ≠ RoadKit.slotOf Z ST "coder" "B" → RoadKit.Fld Z h' x O n d w
/-- **new String(chars) AT A CALL, IN THE ROAD'S FORM**: for specialBack behind newO: x the fresh String, b the char[] with the cell A -/
theorem back {p : Program} {l : Launch} {e : Env} {R : Room} {s : State} {args : Array Value} {below : List Frame} {len W : Nat} {Z : State} {a0 : Array Value} {h : Heap} (hZ : Z.Warmed39 s.vm) (hw : ∀ d ∈ words, d.before a0 Z = true) {kI : Nat} (wi : (Jvm.Cond.instantiable ST kI).before a0 Z = true)
    {x b : Addr} {A : Cell} {z : Int32} {v0 c0 : Value} (E : RoadKit.Exa Z h x ST) (V : RoadKit.Fld Z h x ST "value" "[B" v0) (C : RoadKit.Fld Z h x ST "coder" "B" c0) (K : RoadKit.Arr Z h b A .char) (hty : Typed .char A) (S : RoadKit.Sta Z h ST "COMPACT_STRINGS" "Z" (.int z)) (hz : ¬ z = 0)
    (l0 : 0 < A.slots.size) (l2 : A.slots.size ≤ 536870912) (hp : ∀ i, i < A.slots.size → ¬ 255 < cv A i) (hfr : 4 ≤ R.frames) (hlo : W + 65 ≤ R.locals) :
    Back l R p e below s args New1.yN len W (fun P a => a = #[.ref x, .ref b] ∧ P.U.heap = h ∧ P.cells + 1 ≤ R.cells ∧ P.slots + A.slots.size ≤ R.slots)
      (fun P _ v B => ∃ L, Q Z x A h v B.U.heap L ∧ B.locs = P.locs ++ L ∧ B.cells = P.cells + 1 ∧ B.slots = P.slots + A.slots.size) := by
  intro m meth c P g ig mk a X hg hsize hdg hW hn hp'
  obtain ⟨rfl, rfl, r1, r2⟩ := hp'
  have al : Z.vm.Alike P.U.vm := hZ.alike.trans X.warmed.alike
  obtain ⟨D, cfV, kV, iV, fV, hD, gV, stV, knV, obV, asV, slV⟩ := id V
  obtain ⟨D', cfC, kC, iC, fC, hD', gC, stC, -, -, asC, slC⟩ := id C
  cases hD.symm.trans hD'
  obtain ⟨D2, kD, e1, e2, e3, e4, e5⟩ := id E
  cases hD.symm.trans e1
  obtain ⟨c2, k2, i1, i2, i3, -⟩ := Cond.instantiable_spec wi
  cases e2.symm.trans i1
  cases e3.symm.trans i2
  obtain ⟨kU, u1, u2⟩ := al.2.2 _ _ e3
  have hB : Blank ST x D P.U := ⟨hD, ⟨knV, fun q hq => by rw [hq] at obV; cases obV⟩, by rw [al.findClass]; exact e2, kU, u1, by rw [u2]; exact i3, by rw [u2]; exact e5 i3⟩
  have F1 : Found ST "value" "[B" fV P.U := ⟨SBG.found_only al ⟨cfV, kV, iV, gV⟩, stV⟩
  have F2 : Found ST "coder" "B" fC P.U := ⟨SBG.found_only al ⟨cfC, kC, iC, gC⟩, stC⟩
  have hA : Ch b A P.U := ⟨⟨K.1, State.isArrayOf_alike al K.2.1, K.2.2, by omega⟩, hty⟩
  have hS : StaticIs P.U ST "COMPACT_STRINGS" "Z" (.int z) := by
    obtain ⟨cfS, iS, kS, fS, st, cS, t1, t2, t3, t4, t5, t6, t7⟩ := S
    exact StaticIs.there (s := { Z with heap := P.U.heap }) ⟨cfS, iS, kS, fS, st, cS, t1, t2, t3, t4, t5, (fun q => by rw [q] at t6; cases t6), t7⟩ al rfl
  obtain ⟨v, B, X', ⟨⟨hv, E', V', q1, q2, q3, q4, q5, q6, q7, q8, q9, q10, q11⟩, hl, hc, hs⟩, st⟩ := New1.pays x D fV fC b A z (tab_of (moved hZ hw)) hfr hlo m meth c P g ig mk _ X hg hsize hdg hW hn ⟨r1, r2, rfl, hB, F1, F2, hA, hS, hz, l0, l2, hp⟩
  have al' : Z.vm.Alike B.U.vm := hZ.alike.trans X'.warmed.alike
  have hsz : E'.slots.size = D.slots.size := by
    obtain ⟨-, -, -, kB, w1, w2, w3⟩ := q1
    obtain ⟨kB', y1, y2⟩ := al'.2.2 _ _ e3
    rw [q2.2.1] at w1
    cases w1.symm.trans y1
    rw [w3, e5 i3, y2]
  refine ⟨v, B, X', ⟨_, ⟨hv, ?_, ⟨by omega, fun y cy hy hn' => q10 y cy (by simpa using hn') hy, fun y cy hy => ?_⟩, q11, ⟨E', _, q1.1, by rw [q2.2.1]; exact e2, by rw [q2.2.1]; exact e3, by rw [q2.1]; exact obV, fun _ => by rw [hsz]; exact e5 i3⟩,
    ⟨E', cfV, kV, iV, fV, q1.1, gV, stV, by rw [q2.1]; exact knV, by rw [q2.1]; exact obV, by rw [q2.2.1]; exact asV, q3⟩, ⟨E', cfC, kC, iC, fC, q1.1, gC, stC, by rw [q2.1]; exact knV, by rw [q2.1]; exact obV, by rw [q2.2.1]; exact asC, q4⟩,
    ⟨V', ⟨q5.1, State.isArrayOf_alike al'.symm q5.2.1, q5.2.2.1⟩, q6, by rw [← al'.findClass]; exact q7, q8, fun j hj => by have := q9 j hj; rwa [Nat.zero_add] at this⟩, fun O n d w F n1 n2 => ?_⟩, hl, hc, hs⟩, st⟩
  · intro y hy
    simp only [List.mem_cons, List.not_mem_nil, or_false] at hy
    rcases hy with rfl | rfl <;> rfl
  · by_cases q : y = x
    · subst q
      cases hD.symm.trans hy
      exact ⟨E', q1.1, q2.2.1, q2.1, hsz⟩
    · exact ⟨cy, q10 y cy q hy, rfl, rfl, rfl⟩
  · obtain ⟨D3, cf, k, i, f, g1, g2, g3, g4, g5, g6, g7⟩ := F
    cases hD.symm.trans g1
    simp only [RoadKit.slotOf, g2, gV, gC, Option.map_some, Option.getD_some] at n1 n2
    exact ⟨E', cf, k, i, f, q1.1, g2, g3, by rw [q2.1]; exact g4, by rw [q2.1]; exact g5, by rw [q2.2.1]; exact g6, by rw [q2.2.2 f.slot (by simp [n1, n2])]; exact g7⟩
end StrChars.Road
namespace StrChars.Road
open Jvm Sem ClassFile Op Lib Jvm.Stand Jvm.Free Jvm.Free.XT
/-- WHAT COMES BACK, the byte[] as a list of values -/
def QA (Z : State) (x : Addr) (zn : Int32) (cs : List Int32) (h : Heap) (v : Option Value) (h' : Heap) (L : List Loc) : Prop := v = none ∧ (∀ y ∈ L, y.base = x) ∧ RoadKit.Keep h h' [x] ∧ h'.size = h.size + 1 ∧ RoadKit.Exa Z h' x ST ∧ RoadKit.Fld Z h' x ST "value" "[B" (.ref h.size) ∧ RoadKit.Fld Z h' x ST "coder" "B" (.int 0) ∧
  (∃ kb, Z.vm.findClass "[B" = some kb ∧ RoadKit.Arv Z h' h.size kb .byte zn (cs.map fun c => .int (lo8 c)) (.int 0)) ∧
  ∀ (O n d : String) (w : Value), RoadKit.Fld Z h x O n d w → RoadKit.slotOf Z O n d ≠ RoadKit.slotOf Z ST "value" "[B" → RoadKit.slotOf Z O n d ≠ RoadKit.slotOf Z ST "coder" "B" → RoadKit.Fld Z h' x O n d w
/-- **new String(chars) AT A CALL, THE ARRAYS AS LISTS**: the char[] at b holds cs, not empty, no char above 255 -/
theorem backArv {p : Program} {l : Launch} {e : Env} {R : Room} {s : State} {args : Array Value} {below : List Frame} {len W : Nat} {Z : State} {a0 : Array Value} {h : Heap} (hZ : Z.Warmed39 s.vm) (hw : ∀ d ∈ words, d.before a0 Z = true) {kI : Nat} (wi : (Jvm.Cond.instantiable ST kI).before a0 Z = true)
    {x b : Addr} {k : ClassId} {zn z : Int32} {cs : List Int32} {dv v0 c0 : Value} (E : RoadKit.Exa Z h x ST) (V : RoadKit.Fld Z h x ST "value" "[B" v0) (C : RoadKit.Fld Z h x ST "coder" "B" c0) (K : RoadKit.Arv Z h b k .char zn (cs.map Value.int) dv) (S : RoadKit.Sta Z h ST "COMPACT_STRINGS" "Z" (.int z)) (hz : ¬ z = 0)
    (hlen : zn.toNatClampNeg = cs.length) (h0 : 0 < cs.length) (hbig : cs.length ≤ 536870912) (hall : ∀ c ∈ cs, ¬ 255 < c) (hfr : 4 ≤ R.frames) (hlo : W + 65 ≤ R.locals) :
    Back l R p e below s args New1.yN len W (fun P a => a = #[.ref x, .ref b] ∧ P.U.heap = h ∧ P.cells + 1 ≤ R.cells ∧ P.slots + cs.length ≤ R.slots)
      (fun P _ v B => ∃ L, QA Z x zn cs h v B.U.heap L ∧ B.locs = P.locs ++ L ∧ B.cells = P.cells + 1 ∧ B.slots = P.slots + cs.length) := by
  obtain ⟨A, K1, K2, K3, K4, K5, K6⟩ := K
  have e : A.slots.size = cs.length := K3.trans hlen
  have hat : ∀ (i : Nat) (hi : i < cs.length), A.slots[i]? = some (.int cs[i]) := fun i hi => by rw [K5 i (by omega)]; simp [List.getD_eq_getElem?_getD, hi]
  have hcv : ∀ (i : Nat) (hi : i < cs.length), cv A i = cs[i] := fun i hi => by unfold cv; rw [hat i hi]
  have hty : Typed .char A := fun i v hv => by
    have hi : i < A.slots.size := (Array.getElem?_eq_some_iff.mp hv).1
    have q := K5 i hi
    rw [hv] at q
    rw [Option.some.inj q]
    exact K6 i hi
  refine Back.mono (back hZ hw wi E V C K1 hty S hz (by omega) (by omega) (fun i hi => by rw [hcv i (by omega)]; exact hall _ (List.getElem_mem _)) hfr hlo) (fun P a hp => ⟨hp.1, hp.2.1, hp.2.2.1, by rw [e]; exact hp.2.2.2⟩) (fun P a v B hp hq => ?_)
  obtain ⟨L, ⟨q1, q2, q3, q4, q5, q6, q7, ⟨V', v1, v2, v3, v4, v5⟩, q9⟩, hl, hc, hs⟩ := hq
  refine ⟨L, ⟨q1, q2, q3, q4, q5, q6, q7, ⟨V'.cls, v3, V', v1, rfl, by rw [v4, e, hlen], K4, fun i hi => ?_, fun i hi => ?_⟩, q9⟩, hl, hc, by rw [hs, e]⟩
  · have hi' : i < cs.length := by omega
    rw [v5 i (by omega), hcv i hi']; simp [List.getD_eq_getElem?_getD, hi']
  · have hi' : i < cs.length := by omega
    simp only [List.getD_eq_getElem?_getD, List.getElem?_map, List.getElem?_eq_getElem hi', Option.map_some, Option.getD_some]
    exact fits_lo8 _
end StrChars.Road
namespace StrChars.Road
open Jvm Sem ClassFile Op Lib Jvm.Stand Jvm.Free Jvm.Free.XT
/-- WHAT COMES BACK, in the writer's own shape -/
def QV (Z : State) (x : Addr) (N : Int32) (bs : List Int32) (h : Heap) (n0 : Nat) (v : Option Value) (h' : Heap) (L : List Loc) : Prop := v = none ∧ RoadKit.Fr n0 L ∧ RoadKit.Keep h h' [x] ∧ RoadKit.Exa Z h' x ST ∧ RoadKit.Fld Z h' x ST "coder" "B" (.int 0) ∧
  ∃ (t : Addr) (kb : ClassId), n0 ≤ t ∧ h.size ≤ t ∧ ¬ t = x ∧ RoadKit.Fld Z h' x ST "value" "[B" (.ref t) ∧ RoadKit.Arv Z h' t kb .byte N (bs.map Value.int) (.int 0)
/-- **new String(chars) AT A CALL, FOR THE WRITER**: a char[] of n known ints, each 0 to 255 -/
theorem backV {p : Program} {l : Launch} {e : Env} {R : Room} {s : State} {args : Array Value} {below : List Frame} {len W : Nat} {Z : State} {a0 : Array Value} {h : Heap} (hZ : Z.Warmed39 s.vm) (hw : ∀ d ∈ words, d.before a0 Z = true) {kI : Nat} (wi : (Jvm.Cond.instantiable ST kI).before a0 Z = true)
    {x b : Addr} {kC : ClassId} {cs bs : List Int32} {d v0 c0 : Value} {z N : Int32} {n n0 : Nat} (hx0 : n0 ≤ x) (hh0 : n0 ≤ h.size) (E : RoadKit.Exa Z h x ST) (V : RoadKit.Fld Z h x ST "value" "[B" v0) (C : RoadKit.Fld Z h x ST "coder" "B" c0) (K : RoadKit.Arv Z h b kC .char N (cs.map Value.int) d) (S : RoadKit.Sta Z h ST "COMPACT_STRINGS" "Z" (.int z)) (hz : ¬ z = 0)
    (hn : cs.length = n) (hN : N = Int32.ofNat n) (l0 : 0 < n) (l2 : n ≤ 4000) (hp : ∀ c ∈ cs, ¬ c < 0 ∧ ¬ (255 : Int32) < c) (hb : bs = cs.map (fun c => c.toInt8.toInt32)) (hfr : 4 ≤ R.frames) (hlo : W + 65 ≤ R.locals) :
    Back l R p e below s args (⟨"java/lang/String", "<init>", "([C)V"⟩ : MethodName) len W (fun P a => a = #[.ref x, .ref b] ∧ P.U.heap = h ∧ P.cells + 1 ≤ R.cells ∧ P.slots + n ≤ R.slots)
      (fun P _ v B => ∃ L, QV Z x N bs h n0 v B.U.heap L ∧ B.locs = P.locs ++ L ∧ B.cells = P.cells + 1 ∧ B.slots = P.slots + n) := by
  subst hn hN hb
  refine Back.mono (backArv hZ hw wi E V C K S hz (n32 (by omega)) l0 (by omega) (fun c hc => (hp c hc).2) hfr hlo) (fun P a hp => hp) (fun P a v B hp hq => ?_)
  obtain ⟨L, ⟨q1, q2, q3, q4, q5, q6, q7, ⟨kb, v1, v2⟩, q9⟩, hl, hc, hs⟩ := hq
  exact ⟨L, ⟨q1, fun y hy => by rw [q2 y hy]; exact hx0, q3, q5, q7, h.size, kb, hh0, Nat.le_refl _, Nat.ne_of_gt E.lt, q6, by rw [List.map_map]; exact v2⟩, hl, hc, hs⟩
end StrChars.Road
end Jvm.Pilot.@@N@@

namespace Jvm.Pilot.@@N@@
open Jvm Jvm.ClassFile Sem Op Lib Jvm.Free Jvm.Stand Jvm.LawKit Jvm.RoadKit Bundle Jvm.Pilot.@@N@@.Jvm.D
section OwnKit
variable {p : Program} {l : Launch} {e : Env} {R : Room} {s : State} {m : MethodId} {args : Array Value} {below : List Frame} {meth : Method} {c : Code} {T : State} {locs : List Loc} {cells slots kc ks : Nat} {Q : Option Value → Heap → List Loc → Prop} {P : Outcome → State → Prop} {pc q : Nat} {Ls L' : Array Slot} {st : List Value}
def own_Go (p : Program) (e : Env) (below : List Frame) (P : Outcome → State → Prop) (U : State) : Prop :=
  ∃ s₂ o, Steps p.tables e below U s₂ ∧ s₂.status = .running ∧ Ended s₂ below o ∧ P o s₂
def own_E (s : State) (kc ks : Nat) (Q : Option Value → Heap → List Loc → Prop) (o : Outcome) (t : State) : Prop := ∃ v L, o = .returned v ∧ Q v t.heap L ∧ FrameEnd s o t L kc ks
theorem own_via {U V : State} (h : ∀ t, Steps p.tables e below V t → Steps p.tables e below U t) (K : own_Go p e below P V) : own_Go p e below P U := by
  obtain ⟨a, b, h1, r⟩ := K; exact ⟨a, b, h _ h1, r⟩
theorem own_mono {P' : Outcome → State → Prop} {U : State} (h : ∀ o t, P' o t → P o t) (K : own_Go p e below P' U) : own_Go p e below P U := by
  obtain ⟨a, b, h1, h2, h3, h4⟩ := K; exact ⟨a, b, h1, h2, h3, h _ _ h4⟩
def own_P (w : Value) (h : Heap) (v : Option Value) (h' : Heap) (L : List Loc) : Prop := v = some w ∧ h' = h ∧ L = []
theorem own_iadd (X : Stand p l e R s m args below meth c T locs cells slots) (hx : p.tables.exec = Jvm.exec) {x y : Int32} (hd : decode c.code pc = .ok (.iadd, 1)) (hq : pc + 1 = q)  (K : own_Go p e below P (T.setTop (mkF m q Ls (.int (x + y) :: st)))) : own_Go p e below P (T.setTop (mkF m pc Ls (.int y :: .int x :: st))) := by
  subst hq; exact own_via (fun t => XS.iadd X.here hx rfl hd rfl) K
theorem own_isub (X : Stand p l e R s m args below meth c T locs cells slots) (hx : p.tables.exec = Jvm.exec) {x y : Int32} (hd : decode c.code pc = .ok (.isub, 1)) (hq : pc + 1 = q)  (K : own_Go p e below P (T.setTop (mkF m q Ls (.int (x - y) :: st)))) : own_Go p e below P (T.setTop (mkF m pc Ls (.int y :: .int x :: st))) := by
  subst hq; exact own_via (fun t => XS.isub X.here hx rfl hd rfl) K
theorem own_imul (X : Stand p l e R s m args below meth c T locs cells slots) (hx : p.tables.exec = Jvm.exec) {x y : Int32} (hd : decode c.code pc = .ok (.imul, 1)) (hq : pc + 1 = q)  (K : own_Go p e below P (T.setTop (mkF m q Ls (.int (x * y) :: st)))) : own_Go p e below P (T.setTop (mkF m pc Ls (.int y :: .int x :: st))) := by
  subst hq; exact own_via (fun t => XS.imul X.here hx rfl hd rfl) K
theorem own_iand (X : Stand p l e R s m args below meth c T locs cells slots) (hx : p.tables.exec = Jvm.exec) {x y : Int32} (hd : decode c.code pc = .ok (.iand, 1)) (hq : pc + 1 = q)  (K : own_Go p e below P (T.setTop (mkF m q Ls (.int (x &&& y) :: st)))) : own_Go p e below P (T.setTop (mkF m pc Ls (.int y :: .int x :: st))) := by
  subst hq; exact own_via (fun t => XS.iand X.here hx rfl hd rfl) K
theorem own_ixor (X : Stand p l e R s m args below meth c T locs cells slots) (hx : p.tables.exec = Jvm.exec) {x y : Int32} (hd : decode c.code pc = .ok (.ixor, 1)) (hq : pc + 1 = q)  (K : own_Go p e below P (T.setTop (mkF m q Ls (.int (x ^^^ y) :: st)))) : own_Go p e below P (T.setTop (mkF m pc Ls (.int y :: .int x :: st))) := by
  subst hq; exact own_via (fun t => XT.ixor X.here hx rfl hd rfl) K
theorem own_ior (X : Stand p l e R s m args below meth c T locs cells slots) (hx : p.tables.exec = Jvm.exec) {x y : Int32} (hd : decode c.code pc = .ok (.ior, 1)) (hq : pc + 1 = q)  (K : own_Go p e below P (T.setTop (mkF m q Ls (.int (x ||| y) :: st)))) : own_Go p e below P (T.setTop (mkF m pc Ls (.int y :: .int x :: st))) := by
  subst hq; exact own_via (fun t => XT.ior X.here hx rfl hd rfl) K
theorem own_ishl (X : Stand p l e R s m args below meth c T locs cells slots) (hx : p.tables.exec = Jvm.exec) {x y : Int32} (hd : decode c.code pc = .ok (.ishl, 1)) (hq : pc + 1 = q)  (K : own_Go p e below P (T.setTop (mkF m q Ls (.int (x <<< (y &&& 31)) :: st)))) : own_Go p e below P (T.setTop (mkF m pc Ls (.int y :: .int x :: st))) := by
  subst hq; exact own_via (fun t => XT.ishl X.here hx rfl hd rfl) K
theorem own_ishr (X : Stand p l e R s m args below meth c T locs cells slots) (hx : p.tables.exec = Jvm.exec) {x y : Int32} (hd : decode c.code pc = .ok (.ishr, 1)) (hq : pc + 1 = q)  (K : own_Go p e below P (T.setTop (mkF m q Ls (.int (x >>> (y &&& 31)) :: st)))) : own_Go p e below P (T.setTop (mkF m pc Ls (.int y :: .int x :: st))) := by
  subst hq; exact own_via (fun t => XT.ishr X.here hx rfl hd rfl) K
theorem own_iushr (X : Stand p l e R s m args below meth c T locs cells slots) (hx : p.tables.exec = Jvm.exec) {x y : Int32} (hd : decode c.code pc = .ok (.iushr, 1)) (hq : pc + 1 = q)  (K : own_Go p e below P (T.setTop (mkF m q Ls (.int (XT.ushr x y) :: st)))) : own_Go p e below P (T.setTop (mkF m pc Ls (.int y :: .int x :: st))) := by
  subst hq; exact own_via (fun t => XT.iushr X.here hx rfl hd rfl) K
theorem own_idiv (X : Stand p l e R s m args below meth c T locs cells slots) (hx : p.tables.exec = Jvm.exec) {x y : Int32} (hd : decode c.code pc = .ok (.idiv, 1)) (hq : pc + 1 = q) (hy : y ≠ 0) (K : own_Go p e below P (T.setTop (mkF m q Ls (.int (x / y) :: st)))) : own_Go p e below P (T.setTop (mkF m pc Ls (.int y :: .int x :: st))) := by
  subst hq; exact own_via (fun t => XS.idiv X.here hx rfl hd rfl hy) K
theorem own_irem (X : Stand p l e R s m args below meth c T locs cells slots) (hx : p.tables.exec = Jvm.exec) {x y : Int32} (hd : decode c.code pc = .ok (.irem, 1)) (hq : pc + 1 = q) (hy : y ≠ 0) (K : own_Go p e below P (T.setTop (mkF m q Ls (.int (x % y) :: st)))) : own_Go p e below P (T.setTop (mkF m pc Ls (.int y :: .int x :: st))) := by
  subst hq; exact own_via (fun t => iremM X hx rfl hd rfl hy) K
theorem own_ineg (X : Stand p l e R s m args below meth c T locs cells slots) (hx : p.tables.exec = Jvm.exec) {x : Int32} (hd : decode c.code pc = .ok (.ineg, 1)) (hq : pc + 1 = q)  (K : own_Go p e below P (T.setTop (mkF m q Ls (.int (-x) :: st)))) : own_Go p e below P (T.setTop (mkF m pc Ls (.int x :: st))) := by
  subst hq; exact own_via (fun t => XS.ineg X.here hx rfl hd rfl) K
theorem own_ladd (X : Stand p l e R s m args below meth c T locs cells slots) (hx : p.tables.exec = Jvm.exec) {x y : Int64} (hd : decode c.code pc = .ok (.ladd, 1)) (hq : pc + 1 = q)  (K : own_Go p e below P (T.setTop (mkF m q Ls (.long (x + y) :: st)))) : own_Go p e below P (T.setTop (mkF m pc Ls (.long y :: .long x :: st))) := by
  subst hq; exact own_via (fun t => XT.ladd X.here hx rfl hd rfl) K
theorem own_lsub (X : Stand p l e R s m args below meth c T locs cells slots) (hx : p.tables.exec = Jvm.exec) {x y : Int64} (hd : decode c.code pc = .ok (.lsub, 1)) (hq : pc + 1 = q)  (K : own_Go p e below P (T.setTop (mkF m q Ls (.long (x - y) :: st)))) : own_Go p e below P (T.setTop (mkF m pc Ls (.long y :: .long x :: st))) := by
  subst hq; exact own_via (fun t => XT.lsub X.here hx rfl hd rfl) K
theorem own_lmul (X : Stand p l e R s m args below meth c T locs cells slots) (hx : p.tables.exec = Jvm.exec) {x y : Int64} (hd : decode c.code pc = .ok (.lmul, 1)) (hq : pc + 1 = q)  (K : own_Go p e below P (T.setTop (mkF m q Ls (.long (x * y) :: st)))) : own_Go p e below P (T.setTop (mkF m pc Ls (.long y :: .long x :: st))) := by
  subst hq; exact own_via (fun t => XT.lmul X.here hx rfl hd rfl) K
theorem own_land (X : Stand p l e R s m args below meth c T locs cells slots) (hx : p.tables.exec = Jvm.exec) {x y : Int64} (hd : decode c.code pc = .ok (.land, 1)) (hq : pc + 1 = q)  (K : own_Go p e below P (T.setTop (mkF m q Ls (.long (x &&& y) :: st)))) : own_Go p e below P (T.setTop (mkF m pc Ls (.long y :: .long x :: st))) := by
  subst hq; exact own_via (fun t => XT.land X.here hx rfl hd rfl) K
theorem own_lor (X : Stand p l e R s m args below meth c T locs cells slots) (hx : p.tables.exec = Jvm.exec) {x y : Int64} (hd : decode c.code pc = .ok (.lor, 1)) (hq : pc + 1 = q)  (K : own_Go p e below P (T.setTop (mkF m q Ls (.long (x ||| y) :: st)))) : own_Go p e below P (T.setTop (mkF m pc Ls (.long y :: .long x :: st))) := by
  subst hq; exact own_via (fun t => XT.lor X.here hx rfl hd rfl) K
theorem own_lxor (X : Stand p l e R s m args below meth c T locs cells slots) (hx : p.tables.exec = Jvm.exec) {x y : Int64} (hd : decode c.code pc = .ok (.lxor, 1)) (hq : pc + 1 = q)  (K : own_Go p e below P (T.setTop (mkF m q Ls (.long (x ^^^ y) :: st)))) : own_Go p e below P (T.setTop (mkF m pc Ls (.long y :: .long x :: st))) := by
  subst hq; exact own_via (fun t => XT.lxor X.here hx rfl hd rfl) K
theorem own_ldiv (X : Stand p l e R s m args below meth c T locs cells slots) (hx : p.tables.exec = Jvm.exec) {x y : Int64} (hd : decode c.code pc = .ok (.ldiv, 1)) (hq : pc + 1 = q) (hy : y ≠ 0) (K : own_Go p e below P (T.setTop (mkF m q Ls (.long (x / y) :: st)))) : own_Go p e below P (T.setTop (mkF m pc Ls (.long y :: .long x :: st))) := by
  subst hq; exact own_via (fun t => XT.ldiv X.here hx rfl hd rfl hy) K
theorem own_lshl (X : Stand p l e R s m args below meth c T locs cells slots) (hx : p.tables.exec = Jvm.exec) {x : Int64} {y : Int32} (hd : decode c.code pc = .ok (.lshl, 1)) (hq : pc + 1 = q)  (K : own_Go p e below P (T.setTop (mkF m q Ls (.long (x <<< (y.toInt64 &&& 63)) :: st)))) : own_Go p e below P (T.setTop (mkF m pc Ls (.int y :: .long x :: st))) := by
  subst hq; exact own_via (fun t => XT.lshl X.here hx rfl hd rfl) K
theorem own_lshr (X : Stand p l e R s m args below meth c T locs cells slots) (hx : p.tables.exec = Jvm.exec) {x : Int64} {y : Int32} (hd : decode c.code pc = .ok (.lshr, 1)) (hq : pc + 1 = q)  (K : own_Go p e below P (T.setTop (mkF m q Ls (.long (x >>> (y.toInt64 &&& 63)) :: st)))) : own_Go p e below P (T.setTop (mkF m pc Ls (.int y :: .long x :: st))) := by
  subst hq; exact own_via (fun t => XT.lshr X.here hx rfl hd rfl) K
theorem own_lushr (X : Stand p l e R s m args below meth c T locs cells slots) (hx : p.tables.exec = Jvm.exec) {x : Int64} {y : Int32} (hd : decode c.code pc = .ok (.lushr, 1)) (hq : pc + 1 = q)  (K : own_Go p e below P (T.setTop (mkF m q Ls (.long (XT.ushrL x y) :: st)))) : own_Go p e below P (T.setTop (mkF m pc Ls (.int y :: .long x :: st))) := by
  subst hq; exact own_via (fun t => XT.lushr X.here hx rfl hd rfl) K
theorem own_i2l (X : Stand p l e R s m args below meth c T locs cells slots) (hx : p.tables.exec = Jvm.exec) {x : Int32} (hd : decode c.code pc = .ok (.i2l, 1)) (hq : pc + 1 = q)  (K : own_Go p e below P (T.setTop (mkF m q Ls (.long x.toInt64 :: st)))) : own_Go p e below P (T.setTop (mkF m pc Ls (.int x :: st))) := by
  subst hq; exact own_via (fun t => XT.i2l X.here hx rfl hd rfl) K
theorem own_l2i (X : Stand p l e R s m args below meth c T locs cells slots) (hx : p.tables.exec = Jvm.exec) {x : Int64} (hd : decode c.code pc = .ok (.l2i, 1)) (hq : pc + 1 = q)  (K : own_Go p e below P (T.setTop (mkF m q Ls (.int x.toInt32 :: st)))) : own_Go p e below P (T.setTop (mkF m pc Ls (.long x :: st))) := by
  subst hq; exact own_via (fun t => XT.l2i X.here hx rfl hd rfl) K
theorem own_i2c (X : Stand p l e R s m args below meth c T locs cells slots) (hx : p.tables.exec = Jvm.exec) {x : Int32} (hd : decode c.code pc = .ok (.i2c, 1)) (hq : pc + 1 = q)  (K : own_Go p e below P (T.setTop (mkF m q Ls (.int x.toUInt32.toUInt16.toUInt32.toInt32 :: st)))) : own_Go p e below P (T.setTop (mkF m pc Ls (.int x :: st))) := by
  subst hq; exact own_via (fun t => XT.i2c X.here hx rfl hd rfl) K
theorem own_i2b (X : Stand p l e R s m args below meth c T locs cells slots) (hx : p.tables.exec = Jvm.exec) {x : Int32} (hd : decode c.code pc = .ok (.i2b, 1)) (hq : pc + 1 = q)  (K : own_Go p e below P (T.setTop (mkF m q Ls (.int x.toInt8.toInt32 :: st)))) : own_Go p e below P (T.setTop (mkF m pc Ls (.int x :: st))) := by
  subst hq; exact own_via (fun t => XT.i2b X.here hx rfl hd rfl) K
theorem own_lcmp (X : Stand p l e R s m args below meth c T locs cells slots) (hx : p.tables.exec = Jvm.exec) {x y : Int64} (hd : decode c.code pc = .ok (.lcmp, 1)) (hq : pc + 1 = q)  (K : own_Go p e below P (T.setTop (mkF m q Ls (.int (XT.cmpL x y) :: st)))) : own_Go p e below P (T.setTop (mkF m pc Ls (.long y :: .long x :: st))) := by
  subst hq; exact own_via (fun t => XT.lcmp X.here hx rfl hd rfl) K
theorem own_iconst (X : Stand p l e R s m args below meth c T locs cells slots) (hx : p.tables.exec = Jvm.exec) {i : Int} (v : Int32) (hd : decode c.code pc = .ok (.iconst i, 1)) (hq : pc + 1 = q) (hv : Int32.ofInt i = v) (K : own_Go p e below P (T.setTop (mkF m q Ls (.int v :: st)))) : own_Go p e below P (T.setTop (mkF m pc Ls st)) := by
  subst hq; exact own_via (fun t => XT.iconstV (v := v) X.here hx rfl hd hv) K
theorem own_bipush (X : Stand p l e R s m args below meth c T locs cells slots) (hx : p.tables.exec = Jvm.exec) {i : Int} (v : Int32) (hd : decode c.code pc = .ok (.bipush i, 2)) (hq : pc + 2 = q) (hv : (Int8.ofInt i).toInt32 = v) (K : own_Go p e below P (T.setTop (mkF m q Ls (.int v :: st)))) : own_Go p e below P (T.setTop (mkF m pc Ls st)) := by
  subst hq; exact own_via (fun t => XT.bipushV (v := v) X.here hx rfl hd hv) K
theorem own_sipush (X : Stand p l e R s m args below meth c T locs cells slots) (hx : p.tables.exec = Jvm.exec) {i : Int} (v : Int32) (hd : decode c.code pc = .ok (.sipush i, 3)) (hq : pc + 3 = q) (hv : (Int16.ofInt i).toInt32 = v) (K : own_Go p e below P (T.setTop (mkF m q Ls (.int v :: st)))) : own_Go p e below P (T.setTop (mkF m pc Ls st)) := by
  subst hq; exact own_via (fun t => XT.sipushV (v := v) X.here hx rfl hd hv) K
theorem own_lconst (X : Stand p l e R s m args below meth c T locs cells slots) (hx : p.tables.exec = Jvm.exec) {i : Fin 2} (v : Int64) (hd : decode c.code pc = .ok (.lconst i, 1)) (hq : pc + 1 = q) (hv : Int64.ofNat i = v) (K : own_Go p e below P (T.setTop (mkF m q Ls (.long v :: st)))) : own_Go p e below P (T.setTop (mkF m pc Ls st)) := by
  subst hq; exact own_via (fun t => XT.lconstV (v := v) X.here hx rfl hd hv) K
theorem own_aconstNull (X : Stand p l e R s m args below meth c T locs cells slots) (hx : p.tables.exec = Jvm.exec)  (hd : decode c.code pc = .ok (.aconst_null, 1)) (hq : pc + 1 = q)  (K : own_Go p e below P (T.setTop (mkF m q Ls (.null :: st)))) : own_Go p e below P (T.setTop (mkF m pc Ls st)) := by
  subst hq; exact own_via (fun t => XS.aconstNull X.here hx rfl hd ) K
theorem own_iloadN (X : Stand p l e R s m args below meth c T locs cells slots) (hx : p.tables.exec = Jvm.exec) {k : Fin 4} {v : Int32} (hd : decode c.code pc = .ok (.iload_n k, 1)) (hq : pc + 1 = q) (hl : Ls[k.val]? = some (.val (.int v))) (K : own_Go p e below P (T.setTop (mkF m q Ls (.int v :: st)))) : own_Go p e below P (T.setTop (mkF m pc Ls st)) := by
  subst hq; exact own_via (fun t => XS.iloadN X.here hx rfl hd hl) K
theorem own_iload (X : Stand p l e R s m args below meth c T locs cells slots) (hx : p.tables.exec = Jvm.exec) {k : Nat} {v : Int32} (hd : decode c.code pc = .ok (.iload k, 2)) (hq : pc + 2 = q) (hl : Ls[k]? = some (.val (.int v))) (K : own_Go p e below P (T.setTop (mkF m q Ls (.int v :: st)))) : own_Go p e below P (T.setTop (mkF m pc Ls st)) := by
  subst hq; exact own_via (fun t => XS.iload X.here hx rfl hd hl) K
theorem own_lloadN (X : Stand p l e R s m args below meth c T locs cells slots) (hx : p.tables.exec = Jvm.exec) {k : Fin 4} {v : Int64} (hd : decode c.code pc = .ok (.lload_n k, 1)) (hq : pc + 1 = q) (hl : Ls[k.val]? = some (.val (.long v))) (K : own_Go p e below P (T.setTop (mkF m q Ls (.long v :: st)))) : own_Go p e below P (T.setTop (mkF m pc Ls st)) := by
  subst hq; exact own_via (fun t => XT.lloadN X.here hx rfl hd hl) K
theorem own_lload (X : Stand p l e R s m args below meth c T locs cells slots) (hx : p.tables.exec = Jvm.exec) {k : Nat} {v : Int64} (hd : decode c.code pc = .ok (.lload k, 2)) (hq : pc + 2 = q) (hl : Ls[k]? = some (.val (.long v))) (K : own_Go p e below P (T.setTop (mkF m q Ls (.long v :: st)))) : own_Go p e below P (T.setTop (mkF m pc Ls st)) := by
  subst hq; exact own_via (fun t => XT.lload X.here hx rfl hd hl) K
theorem own_aloadN (X : Stand p l e R s m args below meth c T locs cells slots) (hx : p.tables.exec = Jvm.exec) {k : Fin 4} {v : Value} (hd : decode c.code pc = .ok (.aload_n k, 1)) (hq : pc + 1 = q) (hl : Ls[k.val]? = some (.val v)) (hv : v.isRef = true) (K : own_Go p e below P (T.setTop (mkF m q Ls (v :: st)))) : own_Go p e below P (T.setTop (mkF m pc Ls st)) := by
  subst hq; exact own_via (fun t => XS.aloadN X.here hx rfl hd hl hv) K
theorem own_aload (X : Stand p l e R s m args below meth c T locs cells slots) (hx : p.tables.exec = Jvm.exec) {k : Nat} {v : Value} (hd : decode c.code pc = .ok (.aload k, 2)) (hq : pc + 2 = q) (hl : Ls[k]? = some (.val v)) (hv : v.isRef = true) (K : own_Go p e below P (T.setTop (mkF m q Ls (v :: st)))) : own_Go p e below P (T.setTop (mkF m pc Ls st)) := by
  subst hq; exact own_via (fun t => XS.aload X.here hx rfl hd hl hv) K
theorem own_istoreN (X : Stand p l e R s m args below meth c T locs cells slots) (hx : p.tables.exec = Jvm.exec) {k : Fin 4} {v : Int32} (hd : decode c.code pc = .ok (.istore_n k, 1)) (hq : pc + 1 = q) (hl : storeLocals Ls k.val (.int v) = some L') (K : own_Go p e below P (T.setTop (mkF m q L' st))) : own_Go p e below P (T.setTop (mkF m pc Ls (.int v :: st))) := by
  subst hq; exact own_via (fun t => XS.istoreN X.here hx rfl hd rfl hl) K
theorem own_istore (X : Stand p l e R s m args below meth c T locs cells slots) (hx : p.tables.exec = Jvm.exec) {k : Nat} {v : Int32} (hd : decode c.code pc = .ok (.istore k, 2)) (hq : pc + 2 = q) (hl : storeLocals Ls k (.int v) = some L') (K : own_Go p e below P (T.setTop (mkF m q L' st))) : own_Go p e below P (T.setTop (mkF m pc Ls (.int v :: st))) := by
  subst hq; exact own_via (fun t => XS.istore X.here hx rfl hd rfl hl) K
theorem own_lstoreN (X : Stand p l e R s m args below meth c T locs cells slots) (hx : p.tables.exec = Jvm.exec) {k : Fin 4} {v : Int64} (hd : decode c.code pc = .ok (.lstore_n k, 1)) (hq : pc + 1 = q) (hl : storeLocals Ls k.val (.long v) = some L') (K : own_Go p e below P (T.setTop (mkF m q L' st))) : own_Go p e below P (T.setTop (mkF m pc Ls (.long v :: st))) := by
  subst hq; exact own_via (fun t => XT.lstoreN X.here hx rfl hd rfl hl) K
theorem own_lstore (X : Stand p l e R s m args below meth c T locs cells slots) (hx : p.tables.exec = Jvm.exec) {k : Nat} {v : Int64} (hd : decode c.code pc = .ok (.lstore k, 2)) (hq : pc + 2 = q) (hl : storeLocals Ls k (.long v) = some L') (K : own_Go p e below P (T.setTop (mkF m q L' st))) : own_Go p e below P (T.setTop (mkF m pc Ls (.long v :: st))) := by
  subst hq; exact own_via (fun t => XT.lstore X.here hx rfl hd rfl hl) K
theorem own_astoreN (X : Stand p l e R s m args below meth c T locs cells slots) (hx : p.tables.exec = Jvm.exec) {k : Fin 4} {v : Value} (hd : decode c.code pc = .ok (.astore_n k, 1)) (hq : pc + 1 = q) (hv : v.isRef = true) (hl : storeLocals Ls k.val v = some L') (K : own_Go p e below P (T.setTop (mkF m q L' st))) : own_Go p e below P (T.setTop (mkF m pc Ls (v :: st))) := by
  subst hq; exact own_via (fun t => XS.astoreN X.here hx rfl hd rfl hv hl) K
theorem own_astore (X : Stand p l e R s m args below meth c T locs cells slots) (hx : p.tables.exec = Jvm.exec) {k : Nat} {v : Value} (hd : decode c.code pc = .ok (.astore k, 2)) (hq : pc + 2 = q) (hv : v.isRef = true) (hl : storeLocals Ls k v = some L') (K : own_Go p e below P (T.setTop (mkF m q L' st))) : own_Go p e below P (T.setTop (mkF m pc Ls (v :: st))) := by
  subst hq; exact own_via (fun t => XS.astore X.here hx rfl hd rfl hv hl) K
theorem own_iinc (X : Stand p l e R s m args below meth c T locs cells slots) (hx : p.tables.exec = Jvm.exec) {k : Nat} {i : Int} {x : Int32} (v : Int32) (hd : decode c.code pc = .ok (.iinc k i, 3)) (hq : pc + 3 = q) (hv : Int32.ofInt i = v) (hl : Ls[k]? = some (.val (.int x))) (hl' : storeLocals Ls k (.int (x + v)) = some L') (K : own_Go p e below P (T.setTop (mkF m q L' st))) : own_Go p e below P (T.setTop (mkF m pc Ls st)) := by
  subst hq; exact own_via (fun t => XT.iincV (v := v) X.here hx rfl hd hv hl hl') K
theorem own_dup (X : Stand p l e R s m args below meth c T locs cells slots) (hx : p.tables.exec = Jvm.exec) {v : Value} (hd : decode c.code pc = .ok (.dup, 1)) (hq : pc + 1 = q) (hc : v.category = 1) (K : own_Go p e below P (T.setTop (mkF m q Ls (v :: v :: st)))) : own_Go p e below P (T.setTop (mkF m pc Ls (v :: st))) := by
  subst hq; exact own_via (fun t => XS.dup X.here hx rfl hd rfl hc) K
theorem own_pop (X : Stand p l e R s m args below meth c T locs cells slots) (hx : p.tables.exec = Jvm.exec) {v : Value} (hd : decode c.code pc = .ok (.pop, 1)) (hq : pc + 1 = q) (hc : v.category = 1) (K : own_Go p e below P (T.setTop (mkF m q Ls st))) : own_Go p e below P (T.setTop (mkF m pc Ls (v :: st))) := by
  subst hq; exact own_via (fun t => XT.pop X.here hx rfl hd rfl hc) K
theorem own_dupX1 (X : Stand p l e R s m args below meth c T locs cells slots) (hx : p.tables.exec = Jvm.exec) {v w : Value} (hd : decode c.code pc = .ok (.dup_x1, 1)) (hq : pc + 1 = q) (hc : v.category = 1) (hc' : w.category = 1) (K : own_Go p e below P (T.setTop (mkF m q Ls (v :: w :: v :: st)))) : own_Go p e below P (T.setTop (mkF m pc Ls (v :: w :: st))) := by
  subst hq; exact own_via (fun t => XT.dupX1 X.here hx rfl hd rfl hc hc') K
theorem own_dup2 (X : Stand p l e R s m args below meth c T locs cells slots) (hx : p.tables.exec = Jvm.exec) {v w : Value} (hd : decode c.code pc = .ok (.dup2, 1)) (hq : pc + 1 = q) (hc : v.category = 1) (hc' : w.category = 1) (K : own_Go p e below P (T.setTop (mkF m q Ls (v :: w :: v :: w :: st)))) : own_Go p e below P (T.setTop (mkF m pc Ls (v :: w :: st))) := by
  subst hq; exact own_via (fun t => XT.dup2 X.here hx rfl hd rfl hc hc') K
theorem own_goto (X : Stand p l e R s m args below meth c T locs cells slots) (hx : p.tables.exec = Jvm.exec) {o : Int} (hd : decode c.code pc = .ok (.goto o, 3)) (ho : 0 ≤ (pc : Int) + o) (hp : ((pc : Int) + o).toNat = q) (K : own_Go p e below P (T.setTop (mkF m q Ls st))) : own_Go p e below P (T.setTop (mkF m pc Ls st)) := by
  exact own_via (fun t => XS.goto X.here hx rfl (pc0 := pc) (pc' := q) rfl hd ho hp) K
theorem own_ldc (X : Stand p l e R s m args below meth c T locs cells slots) (hx : p.tables.exec = Jvm.exec) {Z : State} {a0 : Array Value} (hZ : Z.Warmed39 s.vm) {own : String} {i : Nat} {v : Int32} (hown : s.vm.findClass own = some m.cls) (w : (Cond.constant own i v).before a0 Z = true) (hd : decode c.code pc = .ok (.ldc i, 2)) (hq : pc + 2 = q) (K : own_Go p e below P (T.setTop (mkF m q Ls (.int v :: st)))) : own_Go p e below P (T.setTop (mkF m pc Ls st)) := by
  subst hq; exact own_via (fun t => X.ldcI hx hown (mv hZ w) rfl hd) K
theorem own_ldcW (X : Stand p l e R s m args below meth c T locs cells slots) (hx : p.tables.exec = Jvm.exec) {Z : State} {a0 : Array Value} (hZ : Z.Warmed39 s.vm) {own : String} {i : Nat} {v : Int32} (hown : s.vm.findClass own = some m.cls) (w : (Cond.constant own i v).before a0 Z = true) (hd : decode c.code pc = .ok (.ldc_w i, 3)) (hq : pc + 3 = q) (K : own_Go p e below P (T.setTop (mkF m q Ls (.int v :: st)))) : own_Go p e below P (T.setTop (mkF m pc Ls st)) := by
  subst hq; exact own_via (fun t => X.ldcWI hx hown (mv hZ w) rfl hd) K
theorem own_ldc2 (X : Stand p l e R s m args below meth c T locs cells slots) (hx : p.tables.exec = Jvm.exec) {Z : State} {a0 : Array Value} (hZ : Z.Warmed39 s.vm) {own : String} {i : Nat} {v : Int64} (hown : s.vm.findClass own = some m.cls) (w : (Cond.constantLong own i v).before a0 Z = true) (hd : decode c.code pc = .ok (.ldc2_w i, 3)) (hq : pc + 3 = q) (K : own_Go p e below P (T.setTop (mkF m q Ls (.long v :: st)))) : own_Go p e below P (T.setTop (mkF m pc Ls st)) := by
  subst hq; exact own_via (fun t => X.ldc2J hx hown (mv hZ w) rfl hd) K
def own_pos : ClassFile.Cond → Bool | .eq => true | .lt => true | .gt => true | _ => false
def own_base {α : Type} [LT α] : ClassFile.Cond → α → α → Prop | .eq, x, y => x = y | .ne, x, y => x = y | .lt, x, y => x < y | .ge, x, y => x < y | .gt, x, y => y < x | .le, x, y => y < x
theorem own_ii {cd : ClassFile.Cond} {x y : Int32} : (own_base cd x y → if_icmp.holds cd x y = own_pos cd) ∧ (¬ own_base cd x y → if_icmp.holds cd x y = !own_pos cd) := by
  cases cd <;> simp only [own_base, own_pos, Bool.not_true, Bool.not_false]
  · exact ⟨XT.ii_eq_t, XT.ii_eq_f⟩
  · exact ⟨XT.ii_ne_f, XT.ii_ne_t⟩
  · exact ⟨XT.ii_lt_t, XT.ii_lt_f⟩
  · exact ⟨XT.ii_ge_f, XT.ii_ge_t⟩
  · exact ⟨XT.ii_gt_t, XT.ii_gt_f⟩
  · exact ⟨XT.ii_le_f, XT.ii_le_t⟩
theorem own_ll {cd : ClassFile.Cond} {x y : Int64} : (own_base cd x y → ifCond.holds cd (XT.cmpL x y) = own_pos cd) ∧ (¬ own_base cd x y → ifCond.holds cd (XT.cmpL x y) = !own_pos cd) := by
  cases cd <;> simp only [own_base, own_pos, Bool.not_true, Bool.not_false]
  · exact ⟨XT.ll_eq_t, XT.ll_eq_f⟩
  · exact ⟨XT.ll_ne_f, XT.ll_ne_t⟩
  · exact ⟨XT.ll_lt_t, XT.ll_lt_f⟩
  · exact ⟨XT.ll_ge_f, XT.ll_ge_t⟩
  · exact ⟨XT.ll_gt_t, XT.ll_gt_f⟩
  · exact ⟨XT.ll_le_f, XT.ll_le_t⟩
theorem own_icmpP (X : Stand p l e R s m args below meth c T locs cells slots) (hx : p.tables.exec = Jvm.exec) {x y : Int32} {cd : ClassFile.Cond} {o : Int} {pt : Nat} (hd : decode c.code pc = .ok (.if_icmp cd o, 3)) (ho : 0 ≤ (pc : Int) + o) (hp : ((pc : Int) + o).toNat = pt) (hq : pc + 3 = q) (hs : own_pos cd = true) (K1 : own_base cd x y → own_Go p e below P (T.setTop (mkF m pt Ls st))) (K2 : ¬ own_base cd x y → own_Go p e below P (T.setTop (mkF m q Ls st))) : own_Go p e below P (T.setTop (mkF m pc Ls (.int y :: .int x :: st))) := by
  subst hq
  by_cases h : own_base cd x y
  · exact own_via (fun t => XS.icmpYes X.here hx rfl (pc0 := pc) (pc' := pt) rfl hd rfl ((own_ii.1 h).trans hs) ho hp) (K1 h)
  · exact own_via (fun t => XS.icmpNo X.here hx rfl hd rfl ((own_ii.2 h).trans (by rw [hs]; rfl))) (K2 h)
theorem own_icmpM (X : Stand p l e R s m args below meth c T locs cells slots) (hx : p.tables.exec = Jvm.exec) {x y : Int32} {cd : ClassFile.Cond} {o : Int} {pt : Nat} (hd : decode c.code pc = .ok (.if_icmp cd o, 3)) (ho : 0 ≤ (pc : Int) + o) (hp : ((pc : Int) + o).toNat = pt) (hq : pc + 3 = q) (hs : own_pos cd = false) (K1 : ¬ own_base cd x y → own_Go p e below P (T.setTop (mkF m pt Ls st))) (K2 : own_base cd x y → own_Go p e below P (T.setTop (mkF m q Ls st))) : own_Go p e below P (T.setTop (mkF m pc Ls (.int y :: .int x :: st))) := by
  subst hq
  by_cases h : own_base cd x y
  · exact own_via (fun t => XS.icmpNo X.here hx rfl hd rfl ((own_ii.1 h).trans hs)) (K2 h)
  · exact own_via (fun t => XS.icmpYes X.here hx rfl (pc0 := pc) (pc' := pt) rfl hd rfl ((own_ii.2 h).trans (by rw [hs]; rfl)) ho hp) (K1 h)
theorem own_if0P (X : Stand p l e R s m args below meth c T locs cells slots) (hx : p.tables.exec = Jvm.exec) {x : Int32} {cd : ClassFile.Cond} {o : Int} {pt : Nat} (hd : decode c.code pc = .ok (.ifCond cd o, 3)) (ho : 0 ≤ (pc : Int) + o) (hp : ((pc : Int) + o).toNat = pt) (hq : pc + 3 = q) (hs : own_pos cd = true) (K1 : own_base cd x (0 : Int32) → own_Go p e below P (T.setTop (mkF m pt Ls st))) (K2 : ¬ own_base cd x (0 : Int32) → own_Go p e below P (T.setTop (mkF m q Ls st))) : own_Go p e below P (T.setTop (mkF m pc Ls (.int x :: st))) := by
  subst hq
  by_cases h : own_base cd x (0 : Int32)
  · exact own_via (fun t => XS.ifYes X.here hx rfl (pc0 := pc) (pc' := pt) rfl hd rfl ((if0 cd x).trans ((own_ii (y := 0).1 h).trans hs)) ho hp) (K1 h)
  · exact own_via (fun t => XS.ifNo X.here hx rfl hd rfl ((if0 cd x).trans ((own_ii (y := 0).2 h).trans (by rw [hs]; rfl)))) (K2 h)
theorem own_if0M (X : Stand p l e R s m args below meth c T locs cells slots) (hx : p.tables.exec = Jvm.exec) {x : Int32} {cd : ClassFile.Cond} {o : Int} {pt : Nat} (hd : decode c.code pc = .ok (.ifCond cd o, 3)) (ho : 0 ≤ (pc : Int) + o) (hp : ((pc : Int) + o).toNat = pt) (hq : pc + 3 = q) (hs : own_pos cd = false) (K1 : ¬ own_base cd x (0 : Int32) → own_Go p e below P (T.setTop (mkF m pt Ls st))) (K2 : own_base cd x (0 : Int32) → own_Go p e below P (T.setTop (mkF m q Ls st))) : own_Go p e below P (T.setTop (mkF m pc Ls (.int x :: st))) := by
  subst hq
  by_cases h : own_base cd x (0 : Int32)
  · exact own_via (fun t => XS.ifNo X.here hx rfl hd rfl ((if0 cd x).trans ((own_ii (y := 0).1 h).trans hs))) (K2 h)
  · exact own_via (fun t => XS.ifYes X.here hx rfl (pc0 := pc) (pc' := pt) rfl hd rfl ((if0 cd x).trans ((own_ii (y := 0).2 h).trans (by rw [hs]; rfl))) ho hp) (K1 h)
theorem own_ifLP (X : Stand p l e R s m args below meth c T locs cells slots) (hx : p.tables.exec = Jvm.exec) {x y : Int64} {cd : ClassFile.Cond} {o : Int} {pt : Nat} (hd : decode c.code pc = .ok (.ifCond cd o, 3)) (ho : 0 ≤ (pc : Int) + o) (hp : ((pc : Int) + o).toNat = pt) (hq : pc + 3 = q) (hs : own_pos cd = true) (K1 : own_base cd x y → own_Go p e below P (T.setTop (mkF m pt Ls st))) (K2 : ¬ own_base cd x y → own_Go p e below P (T.setTop (mkF m q Ls st))) : own_Go p e below P (T.setTop (mkF m pc Ls (.int (XT.cmpL x y) :: st))) := by
  subst hq
  by_cases h : own_base cd x y
  · exact own_via (fun t => XS.ifYes X.here hx rfl (pc0 := pc) (pc' := pt) rfl hd rfl ((own_ll.1 h).trans hs) ho hp) (K1 h)
  · exact own_via (fun t => XS.ifNo X.here hx rfl hd rfl ((own_ll.2 h).trans (by rw [hs]; rfl))) (K2 h)
theorem own_ifLM (X : Stand p l e R s m args below meth c T locs cells slots) (hx : p.tables.exec = Jvm.exec) {x y : Int64} {cd : ClassFile.Cond} {o : Int} {pt : Nat} (hd : decode c.code pc = .ok (.ifCond cd o, 3)) (ho : 0 ≤ (pc : Int) + o) (hp : ((pc : Int) + o).toNat = pt) (hq : pc + 3 = q) (hs : own_pos cd = false) (K1 : ¬ own_base cd x y → own_Go p e below P (T.setTop (mkF m pt Ls st))) (K2 : own_base cd x y → own_Go p e below P (T.setTop (mkF m q Ls st))) : own_Go p e below P (T.setTop (mkF m pc Ls (.int (XT.cmpL x y) :: st))) := by
  subst hq
  by_cases h : own_base cd x y
  · exact own_via (fun t => XS.ifNo X.here hx rfl hd rfl ((own_ll.1 h).trans hs)) (K2 h)
  · exact own_via (fun t => XS.ifYes X.here hx rfl (pc0 := pc) (pc' := pt) rfl hd rfl ((own_ll.2 h).trans (by rw [hs]; rfl)) ho hp) (K1 h)
theorem own_acmp (X : Stand p l e R s m args below meth c T locs cells slots) (hx : p.tables.exec = Jvm.exec) {cd : ACond} {v w : Value} {o : Int} {same : Bool} (hv : v.isRef = true) (hw : w.isRef = true) (hd : decode c.code pc = .ok (.if_acmp cd o, 3)) (hs : decide (v = w) = same) (ho : 0 ≤ (pc : Int) + o) (hp : q = if acV cd same = true then ((pc : Int) + o).toNat else pc + 3) (K : own_Go p e below P (T.setTop (mkF m q Ls st))) : own_Go p e below P (T.setTop (mkF m pc Ls (w :: v :: st))) := by
  exact own_via (fun t => acmp X hx rfl hv hw (pc0 := pc) rfl hd rfl hs ho hp) K
theorem own_nullY (X : Stand p l e R s m args below meth c T locs cells slots) (hx : p.tables.exec = Jvm.exec) {o : Int} (hd : decode c.code pc = .ok (.ifnull o, 3)) (ho : 0 ≤ (pc : Int) + o) (hp : ((pc : Int) + o).toNat = q) (K : own_Go p e below P (T.setTop (mkF m q Ls st))) : own_Go p e below P (T.setTop (mkF m pc Ls (.null :: st))) := by
  exact own_via (fun t => XS.ifnullYes X.here hx rfl (pc0 := pc) (pc' := q) rfl hd rfl ho hp) K
theorem own_nullN (X : Stand p l e R s m args below meth c T locs cells slots) (hx : p.tables.exec = Jvm.exec) {o : Int} {a : Addr} (hd : decode c.code pc = .ok (.ifnull o, 3)) (hq : pc + 3 = q) (K : own_Go p e below P (T.setTop (mkF m q Ls st))) : own_Go p e below P (T.setTop (mkF m pc Ls (.ref a :: st))) := by
  subst hq; exact own_via (fun t => XS.ifnullNo X.here hx rfl hd rfl) K
theorem own_nonnullY (X : Stand p l e R s m args below meth c T locs cells slots) (hx : p.tables.exec = Jvm.exec) {o : Int} {a : Addr} (hd : decode c.code pc = .ok (.ifnonnull o, 3)) (ho : 0 ≤ (pc : Int) + o) (hp : ((pc : Int) + o).toNat = q) (K : own_Go p e below P (T.setTop (mkF m q Ls st))) : own_Go p e below P (T.setTop (mkF m pc Ls (.ref a :: st))) := by
  exact own_via (fun t => XT.ifnonnullYes X.here hx rfl (pc0 := pc) (pc' := q) rfl hd rfl ho hp) K
theorem own_nonnullN (X : Stand p l e R s m args below meth c T locs cells slots) (hx : p.tables.exec = Jvm.exec) {o : Int} (hd : decode c.code pc = .ok (.ifnonnull o, 3)) (hq : pc + 3 = q) (K : own_Go p e below P (T.setTop (mkF m q Ls st))) : own_Go p e below P (T.setTop (mkF m pc Ls (.null :: st))) := by
  subst hq; exact own_via (fun t => XT.ifnonnullNo X.here hx rfl hd rfl) K
theorem own_retN (X : Stand p l e R s m args below meth c T locs cells slots) (hx : p.tables.exec = Jvm.exec) (hlk : meth.locks = false) {rest : List Value} {z : Int32} {t : FieldType} (ht : t = .boolean ∨ t = .byte ∨ t = .char ∨ t = .short) (hret : meth.sig.returnType = some t) (hd : decode c.code pc = .ok (.ireturn, 1)) (hqq : Q (some (.int (nar t z))) T.heap locs) (hc : cells ≤ kc) (hs : slots ≤ ks)  : own_Go p e below (own_E s kc ks Q) (T.setTop (mkF m pc Ls (.int z :: rest))) := by
  obtain ⟨fs, hr, hrun, hended, hW, hsame⟩ := X.leave (v := (some (.int (nar t z)))) (fun h => by rw [hret] at h; cases h) hlk
  exact ⟨_, _, retN X hx hret ht hd hr, hrun, hended, _, _, rfl, hqq, ⟨_, rfl⟩, hW, hsame.mono hc hs⟩
theorem own_retI (X : Stand p l e R s m args below meth c T locs cells slots) (hx : p.tables.exec = Jvm.exec) (hlk : meth.locks = false) {rest : List Value} {z : Int32} (hret : meth.sig.returnType = some .int) (hd : decode c.code pc = .ok (.ireturn, 1)) (hqq : Q (some (.int z)) T.heap locs) (hc : cells ≤ kc) (hs : slots ≤ ks)  : own_Go p e below (own_E s kc ks Q) (T.setTop (mkF m pc Ls (.int z :: rest))) := by
  obtain ⟨fs, hr, hrun, hended, hW, hsame⟩ := X.leave (v := (some (.int z))) (fun h => by rw [hret] at h; cases h) hlk
  exact ⟨_, _, retOut X hx hret rfl (Or.inl ⟨rfl, Or.inl rfl, z, rfl⟩) hd hr, hrun, hended, _, _, rfl, hqq, ⟨_, rfl⟩, hW, hsame.mono hc hs⟩
theorem own_retJ (X : Stand p l e R s m args below meth c T locs cells slots) (hx : p.tables.exec = Jvm.exec) (hlk : meth.locks = false) {rest : List Value} {z : Int64} (hret : meth.sig.returnType = some .long) (hd : decode c.code pc = .ok (.lreturn, 1)) (hqq : Q (some (.long z)) T.heap locs) (hc : cells ≤ kc) (hs : slots ≤ ks)  : own_Go p e below (own_E s kc ks Q) (T.setTop (mkF m pc Ls (.long z :: rest))) := by
  obtain ⟨fs, hr, hrun, hended, hW, hsame⟩ := X.leave (v := (some (.long z))) (fun h => by rw [hret] at h; cases h) hlk
  exact ⟨_, _, retOut X hx hret rfl (Or.inr (Or.inl ⟨rfl, rfl, z, rfl⟩)) hd hr, hrun, hended, _, _, rfl, hqq, ⟨_, rfl⟩, hW, hsame.mono hc hs⟩
theorem own_retA (X : Stand p l e R s m args below meth c T locs cells slots) (hx : p.tables.exec = Jvm.exec) (hlk : meth.locks = false) {rest : List Value} {w : Value} {t : FieldType} (hw : w.isRef = true) (ht : t.isReference = true) (hn : narrow t w = w) (hret : meth.sig.returnType = some t) (hd : decode c.code pc = .ok (.areturn, 1)) (hqq : Q (some w) T.heap locs) (hc : cells ≤ kc) (hs : slots ≤ ks)  : own_Go p e below (own_E s kc ks Q) (T.setTop (mkF m pc Ls (w :: rest))) := by
  obtain ⟨fs, hr, hrun, hended, hW, hsame⟩ := X.leave (v := (some w)) (fun h => by rw [hret] at h; cases h) hlk
  exact ⟨_, _, retOut X hx hret hn (Or.inr (Or.inr (Or.inr (Or.inr ⟨rfl, ht, hw⟩)))) hd hr, hrun, hended, _, _, rfl, hqq, ⟨_, rfl⟩, hW, hsame.mono hc hs⟩
theorem own_retV (X : Stand p l e R s m args below meth c T locs cells slots) (hx : p.tables.exec = Jvm.exec) (hlk : meth.locks = false) {rest : List Value} (hret : meth.sig.returnType = none) (hd : decode c.code pc = .ok (.return_, 1)) (hqq : Q none T.heap locs) (hc : cells ≤ kc) (hs : slots ≤ ks)  : own_Go p e below (own_E s kc ks Q) (T.setTop (mkF m pc Ls [])) := by
  obtain ⟨fs, hr, hrun, hended, hW, hsame⟩ := X.leave (v := none) (fun _ => rfl) hlk
  exact ⟨_, _, X.returnOut hx hret hd hr, hrun, hended, _, _, rfl, hqq, ⟨_, rfl⟩, hW, hsame.mono hc hs⟩
theorem own_callS (X : Stand p l e R s m args below meth c T locs cells slots) (hx : p.tables.exec = Jvm.exec) {Z : State} {a0 : Array Value} {h : Heap} {own : String} {index : Nat} {y : MethodName} {bytes : ByteArray} {maxL : Nat} {ret : Option FieldType} {rm : Room} {W : Nat} {argsL : List Value} {Qc : Option Value → Heap → List Loc → Prop} {ps : List FieldType} {r : Option FieldType} {st0 : List Value} (hZ : Z.Warmed39 s.vm) (hown : s.vm.findClass own = some m.cls) (w1 : (Cond.methodLink own index y).before a0 Z = true) (w2 : (Cond.static y).before a0 Z = true) (w3 : (Cond.initialized y.cls).before a0 Z = true) (w4 : (Cond.code y bytes maxL ret).before a0 Z = true) (hy : y.cls ≠ "java/lang/invoke/MethodHandle" ∧ y.cls ≠ "java/lang/invoke/VarHandle") (hM : MetFree l y (head1 [Cond.code y bytes maxL ret] rm) (fun aa U => aa = argsL.toArray ∧ Z.Warmed39 U.vm ∧ U.heap = h) (fun _ _ _ _ _ => True) (fun _ U o U' => ∃ v L, o = .returned v ∧ Qc v U'.heap L ∧ FrameEnd U o U' L rm.cells rm.slots)) (hpd : parseMethodDescriptor y.desc = some ⟨ps, r⟩) (hlen : argsL.length = ps.length) (eT : T.heap = h) (hml : Ls.size = c.maxLocals) (hst : st0 = argsL.reverse ++ st) (hW : (st.map fun v => v.category).sum ≤ W) (hf : rm.frames + 1 ≤ R.frames) (hl : W + (maxL + 11) + rm.locals ≤ R.locals) (hc : cells + rm.cells ≤ R.cells) (hs : slots + rm.slots ≤ R.slots) (hd : decode c.code pc = .ok (.invokestatic index, 3)) (hq : pc + 3 = q) (K : ∀ v T' L, Stand p l e R s m args below meth c T' (locs ++ L) (cells + rm.cells) (slots + rm.slots) → Qc v T'.heap L → own_Go p e below P (T'.setTop (mkF m q Ls (v.toList ++ st)))) : own_Go p e below P (T.setTop (mkF m pc Ls st0)) := by
  subst hq hst
  obtain ⟨v, _, ⟨T', L', k', n'⟩, -, X', ⟨Lc, hQ, l', y', z'⟩, st'⟩ := Jvm.LawKit.callS X hx hown (mvT hZ w1) (mvT hZ w2) (mvT hZ w3) (mvT hZ w4) hy (backOf (W := W) hM hZ w4 w3 hf hl) (g := mkF m pc Ls (argsL.reverse ++ st)) rfl hml (argsL := argsL) (rest := st) (lenOf hpd hlen) rfl (by show 2 * 0 + _ ≤ _; omega) hd (fun _ _ => ⟨rfl, eT, hc, hs⟩)
  dsimp only [Pt.U, Pt.locs, Pt.cells, Pt.slots] at X' l' y' z' st' hQ
  subst l' y' z'
  exact own_via (fun t => st' t) (K v T' Lc X' hQ)
theorem own_callC (X : Stand p l e R s m args below meth c T locs cells slots) (hx : p.tables.exec = Jvm.exec) {a : Addr} {Z : State} {a0 : Array Value} {h : Heap} {own : String} {index : Nat} {y : MethodName} {bytes : ByteArray} {maxL : Nat} {rm : Room} {W : Nat} {argsL : List Value} {Qc : Option Value → Heap → List Loc → Prop} {ps : List FieldType} {r : Option FieldType} {st0 : List Value} (hZ : Z.Warmed39 s.vm) (hown : s.vm.findClass own = some m.cls) (hy1 : y.name = "<init>") (w1 : (Cond.methodLink own index y).before a0 Z = true) (w2 : (Cond.instanceMethod y).before a0 Z = true) (w3 : (Cond.initialized y.cls).before a0 Z = true) (w4 : (Cond.code y bytes maxL none).before a0 Z = true) (hy : y.cls ≠ "java/lang/invoke/MethodHandle" ∧ y.cls ≠ "java/lang/invoke/VarHandle") (hM : MetFree l y (head1 [Cond.code y bytes maxL none] rm) (fun aa U => aa = (.ref a :: argsL).toArray ∧ Z.Warmed39 U.vm ∧ U.heap = h) (fun _ _ _ _ _ => True) (fun _ U o U' => ∃ v L, o = .returned v ∧ Qc v U'.heap L ∧ FrameEnd U o U' L rm.cells rm.slots)) (hpd : parseMethodDescriptor y.desc = some ⟨ps, r⟩) (hlen : argsL.length = ps.length) (eT : T.heap = h) (hml : Ls.size = c.maxLocals) (hst : st0 = argsL.reverse ++ .ref a :: st) (hW : (st.map fun v => v.category).sum ≤ W) (hf : rm.frames + 1 ≤ R.frames) (hl : W + (maxL + 11) + rm.locals ≤ R.locals) (hc : cells + rm.cells ≤ R.cells) (hs : slots + rm.slots ≤ R.slots) (hd : decode c.code pc = .ok (.invokespecial index, 3)) (hq : pc + 3 = q) (K : ∀ v T' L, Stand p l e R s m args below meth c T' (locs ++ L) (cells + rm.cells) (slots + rm.slots) → Qc v T'.heap L → own_Go p e below P (T'.setTop (mkF m q Ls (v.toList ++ st)))) : own_Go p e below P (T.setTop (mkF m pc Ls st0)) := by
  subst hq hst
  obtain ⟨v, _, ⟨T', L', k', n'⟩, -, X', ⟨Lc, hQ, l', y', z'⟩, st'⟩ := X.specialBack hx hy1 hown (mvT hZ w1) (mvT hZ w2) (mvT hZ w4) hy (backOf (W := W) hM hZ w4 w3 hf hl) (g := mkF m pc Ls (argsL.reverse ++ .ref a :: st)) rfl hml (Steps.refl _) (a := a) (argsL := argsL) (rest := st) (lenOf hpd hlen) rfl (by show 2 * 0 + _ ≤ _; omega) hd (fun _ _ => ⟨rfl, eT, hc, hs⟩)
  dsimp only [Pt.U, Pt.locs, Pt.cells, Pt.slots] at X' l' y' z' st' hQ
  subst l' y' z'
  exact own_via (fun t => st'.trans) (K v T' Lc X' hQ)
theorem own_callV (X : Stand p l e R s m args below meth c T locs cells slots) (hx : p.tables.exec = Jvm.exec) {a : Addr} {C : String} {z : MethodName} {Z : State} {a0 : Array Value} {h : Heap} {own : String} {index : Nat} {y : MethodName} {bytes : ByteArray} {maxL : Nat} {ret : Option FieldType} {rm : Room} {W : Nat} {argsL : List Value} {Qc : Option Value → Heap → List Loc → Prop} {ps : List FieldType} {r : Option FieldType} {st0 : List Value} (hZ : Z.Warmed39 s.vm) (hown : s.vm.findClass own = some m.cls) (w1 : (Cond.methodLink own index y).before a0 Z = true) (w2 : (Cond.declares y).before a0 Z = true) (w5 : (Cond.selects y.cls y y).before a0 Z = true) (w6 : (Cond.selects C y z).before a0 Z = true) (w7 : (Cond.instanceMethod z).before a0 Z = true) (w3 : (Cond.initialized z.cls).before a0 Z = true) (w4 : (Cond.code z bytes maxL ret).before a0 Z = true) (E : Exa Z h a C) (hy : y.cls ≠ "java/lang/invoke/MethodHandle" ∧ y.cls ≠ "java/lang/invoke/VarHandle") (hM : MetFree l z (head1 [Cond.code z bytes maxL ret] rm) (fun aa U => aa = (.ref a :: argsL).toArray ∧ Z.Warmed39 U.vm ∧ U.heap = h) (fun _ _ _ _ _ => True) (fun _ U o U' => ∃ v L, o = .returned v ∧ Qc v U'.heap L ∧ FrameEnd U o U' L rm.cells rm.slots)) (hpd : parseMethodDescriptor y.desc = some ⟨ps, r⟩) (hlen : argsL.length = ps.length) (eT : T.heap = h) (hml : Ls.size = c.maxLocals) (hst : st0 = argsL.reverse ++ .ref a :: st) (hW : (st.map fun v => v.category).sum ≤ W) (hf : rm.frames + 1 ≤ R.frames) (hl : W + (maxL + 11) + rm.locals ≤ R.locals) (hc : cells + rm.cells ≤ R.cells) (hs : slots + rm.slots ≤ R.slots) (hd : decode c.code pc = .ok (.invokevirtual index, 3)) (hq : pc + 3 = q) (K : ∀ v T' L, Stand p l e R s m args below meth c T' (locs ++ L) (cells + rm.cells) (slots + rm.slots) → Qc v T'.heap L → own_Go p e below P (T'.setTop (mkF m q Ls (v.toList ++ st)))) : own_Go p e below P (T.setTop (mkF m pc Ls st0)) := by
  subst hq hst
  obtain ⟨cq, kq, qa, qb, qc⟩ := isOf hZ eT E
  obtain ⟨v, _, ⟨T', L', k', n'⟩, -, X', ⟨Lc, hQ, l', y', z'⟩, st'⟩ := X.virtualBack hx (y := y) (z := z) hown (mvT hZ w1) (mvT hZ w2) (notFace_of_selects (args := #[]) (mvT hZ w5)) (mvT hZ w6) (mvT hZ w7) hy (backOf (W := W) hM hZ w4 w3 hf hl) qa qc (g := mkF m pc Ls (argsL.reverse ++ .ref a :: st)) rfl hml (Steps.refl _) (argsL := argsL) (rest := st) (lenOf hpd hlen) rfl (by show 2 * 0 + _ ≤ _; omega) hd (fun _ _ => ⟨rfl, eT, hc, hs⟩)
  dsimp only [Pt.U, Pt.locs, Pt.cells, Pt.slots] at X' l' y' z' st' hQ
  subst l' y' z'
  exact own_via (fun t => st'.trans) (K v T' Lc X' hQ)
theorem own_new (X : Stand p l e R s m args below meth c T locs cells slots) (hx : p.tables.exec = Jvm.exec) {Z : State} {a0 : Array Value} {h : Heap} (hZ : Z.Warmed39 s.vm) {own : String} {i : Nat} (hown : s.vm.findClass own = some m.cls) {C : String} {n : Nat} (w : (Cond.classLink own i C).before a0 Z = true) (wi : (Cond.instantiable C n).before a0 Z = true) (wz : (Cond.initialized C).before a0 Z = true) (eT : T.heap = h) (hd : decode c.code pc = .ok (.new i, 3)) (hc : cells + 1 ≤ R.cells) (hl : slots + n ≤ R.slots) (hq : pc + 3 = q) (K : ∀ T' h' a, Stand p l e R s m args below meth c T' locs (cells + 1) (slots + n) → T'.heap = h' → a = h.size → Ext h h' → Exa Z h' a C → (∀ {O nm d : String} {ty : FieldType}, Laid Z a0 C O nm d → parseFieldDescriptor d = some ty → Fld Z h' a O nm d (defaultValue ty)) → own_Go p e below P (T'.setTop (mkF m q Ls (.ref a :: st)))) : own_Go p e below P (T.setTop (mkF m pc Ls st)) := by
  subst hq
  obtain ⟨T', h', X', e', E', A', D', -, st'⟩ := newO X hx hZ hown w wi wz eT (g := mkF m pc Ls st) rfl hd hc hl
  exact own_via (fun t => st' t) (K T' h' _ X' e' rfl E' A' D')
theorem own_getF (X : Stand p l e R s m args below meth c T locs cells slots) (hx : p.tables.exec = Jvm.exec) {Z : State} {a0 : Array Value} {h : Heap} (hZ : Z.Warmed39 s.vm) {own : String} {i : Nat} (hown : s.vm.findClass own = some m.cls) {a : Addr} {v : Value} {R0 O n d host : String} (w : (Cond.fieldLink own i R0 n d).before a0 Z = true ∨ (Cond.fieldLinkNest own i R0 n d host).before a0 Z = true) (via : Via Z R0 O n d) (eT : T.heap = h) (F : Fld Z h a O n d v) (hd : decode c.code pc = .ok (.getfield i, 3)) (hq : pc + 3 = q) (K : ∀ T', Stand p l e R s m args below meth c T' locs cells slots → T'.heap = h → own_Go p e below P (T'.setTop (mkF m q Ls (v :: st)))) : own_Go p e below P (T.setTop (mkF m pc Ls (.ref a :: st))) := by
  subst hq
  obtain ⟨T', X', e', st'⟩ := getF X hx hZ hown w via eT F (g := mkF m pc Ls (.ref a :: st)) rfl rfl hd
  exact own_via (fun t => st' t) (K T' X' e')
theorem own_putF (X : Stand p l e R s m args below meth c T locs cells slots) (hx : p.tables.exec = Jvm.exec) {Z : State} {a0 : Array Value} {h : Heap} (hZ : Z.Warmed39 s.vm) {own : String} {i : Nat} (hown : s.vm.findClass own = some m.cls) {a : Addr} {v old : Value} {R0 O n d host C : String} {kk : Nat} {ty : FieldType} (w : (Cond.fieldLink own i R0 n d).before a0 Z = true ∨ (Cond.fieldLinkNest own i R0 n d host).before a0 Z = true) (via : Via Z R0 O n d) (eT : T.heap = h) (F : Fld Z h a O n d old) (E : Exa Z h a C) (L : (Cond.lays C O n d).before a0 Z = true ∨ ((Cond.laysFinal C O n d).before a0 Z = true ∧ own = O ∧ meth.name = "<init>")) (wi : (Cond.instantiable C kk).before a0 Z = true) (hty : parseFieldDescriptor d = some ty) (hn : narrow ty v = v) (hf : fits ty v = true) (hd : decode c.code pc = .ok (.putfield i, 3)) (hq : pc + 3 = q) (K : ∀ T' h', Stand p l e R s m args below meth c T' (locs ++ [⟨a, RoadKit.slotOf Z O n d⟩]) cells slots → T'.heap = h' → Wr h h' a (RoadKit.slotOf Z O n d) v → own_Go p e below P (T'.setTop (mkF m q Ls st))) : own_Go p e below P (T.setTop (mkF m pc Ls (v :: .ref a :: st))) := by
  subst hq
  obtain ⟨T', h', X', e', W', st'⟩ := putF X hx hZ hown w via eT F E L wi hty hn hf (g := mkF m pc Ls (v :: .ref a :: st)) rfl rfl hd
  exact own_via (fun t => st' t) (K T' h' X' e' W')
theorem own_initO (X : Stand p l e R s m args below meth c T locs cells slots) (hx : p.tables.exec = Jvm.exec) {Z : State} {a0 : Array Value} {h : Heap} (hZ : Z.Warmed39 s.vm) {own : String} {i : Nat} (hown : s.vm.findClass own = some m.cls) {a : Addr} {W : Nat} (w1 : (Cond.methodLink own i Lib.objectInit).before a0 Z = true) (w2 : (Cond.instanceMethod Lib.objectInit).before a0 Z = true) (w3 : (Cond.code Lib.objectInit ⟨#[0xb1]⟩ 1 none).before a0 Z = true) (eT : T.heap = h) (hml : Ls.size = c.maxLocals) (hf : 1 ≤ R.frames) (hW : (st.map fun v => v.category).sum ≤ W) (hl : W + 12 ≤ R.locals) (hd : decode c.code pc = .ok (.invokespecial i, 3)) (hq : pc + 3 = q) (K : ∀ T', Stand p l e R s m args below meth c T' locs cells slots → T'.heap = h → own_Go p e below P (T'.setTop (mkF m q Ls st))) : own_Go p e below P (T.setTop (mkF m pc Ls (.ref a :: st))) := by
  subst hq
  obtain ⟨T', X', e', st'⟩ := initO X hx hZ hown w1 w2 w3 eT (g := mkF m pc Ls (.ref a :: st)) rfl hml rfl hd hf (W := W) (by show 2 * 0 + _ ≤ _; omega) hl
  exact own_via (fun t => st' t) (K T' X' e')
theorem own_getS (X : Stand p l e R s m args below meth c T locs cells slots) (hx : p.tables.exec = Jvm.exec) {Z : State} {a0 : Array Value} {h : Heap} (hZ : Z.Warmed39 s.vm) {own : String} {i : Nat} (hown : s.vm.findClass own = some m.cls) {v : Value} {R0 O n d : String} (w : (Cond.fieldLink own i R0 n d).before a0 Z = true) (via : Via Z R0 O n d) (eT : T.heap = h) (F : Sta Z h O n d v) (hd : decode c.code pc = .ok (.getstatic i, 3)) (hq : pc + 3 = q) (K : ∀ T', Stand p l e R s m args below meth c T' locs cells slots → T'.heap = h → own_Go p e below P (T'.setTop (mkF m q Ls (v :: st)))) : own_Go p e below P (T.setTop (mkF m pc Ls st)) := by
  subst hq
  obtain ⟨T', X', e', st'⟩ := getS X hx hZ (host := "") hown w via eT F (g := mkF m pc Ls st) rfl hd
  exact own_via (fun t => st' t) (K T' X' e')
def own_V (h : Heap) (v : Option Value) (h' : Heap) (L : List Loc) : Prop := v = none ∧ h' = h ∧ L = []
def own_Like (X : Stand p l e R s m args below meth c T locs cells slots) (T' : State) : Prop := Stand p l e R s m args below meth c T' locs cells slots ∧ T'.heap = T.heap
def own_A (Z : State) (h : Heap) (a : Addr) (ty : FieldType) (vs : List Value) : Prop := ∃ c : Cell, Arr Z h a c ty ∧ c.slots.toList = vs
theorem own_A.lt {Z : State} {h : Heap} {a : Addr} {ty : FieldType} {vs : List Value} (F : own_A Z h a ty vs) : a < h.size := by obtain ⟨c, A, -⟩ := F; exact A.lt
theorem own_A.ext {Z : State} {h h' : Heap} {a : Addr} {ty : FieldType} {vs : List Value} (F : own_A Z h a ty vs) (E : Ext h h') : own_A Z h' a ty vs := by obtain ⟨c, A, r⟩ := F; exact ⟨c, A.ext E, r⟩
theorem own_A.other {Z : State} {h h' : Heap} {a b : Addr} {ty : FieldType} {vs : List Value} {sl : Nat} {v : Value} (F : own_A Z h b ty vs) (W : Wr h h' a sl v) (q : b ≠ a) : own_A Z h' b ty vs := by obtain ⟨c, A, r⟩ := F; exact ⟨c, A.other W q, r⟩
theorem own_A.keep {Z : State} {h h' : Heap} {a : Addr} {ty : FieldType} {vs : List Value} {ws : List Addr} (F : own_A Z h a ty vs) (K : Keep h h' ws) (q : a ∉ ws) : own_A Z h' a ty vs := by obtain ⟨c, A, r⟩ := F; exact ⟨c, ⟨K.2.1 a c A.1 q, A.2⟩, r⟩
theorem own_A.set {Z : State} {h h' : Heap} {a : Addr} {ty : FieldType} {vs : List Value} {i : Nat} {v : Value} (F : own_A Z h a ty vs) (W : Wr h h' a i v) : own_A Z h' a ty (vs.set i v) := by
  obtain ⟨c, A, rfl⟩ := F; exact ⟨_, A.same W, by simp [Cell.setSlot]⟩
theorem own_in {c : Cell} {j : Int32} {i : Nat} (hn : ¬ j < 0) (hj : j.toNatClampNeg = i) (hi : i < c.slots.toList.length) : ¬ (j < 0 ∨ c.slots.size ≤ j.toNatClampNeg) := by
  rintro (h | h)
  · exact hn h
  · rw [hj] at h; rw [Array.length_toList] at hi; exact absurd hi (Nat.not_lt.mpr h)
theorem own_iaload (X : Stand p l e R s m args below meth c T locs cells slots) (hx : p.tables.exec = Jvm.exec) {Z : State} {h : Heap} (hZ : Z.Warmed39 s.vm) {a : Addr} {j : Int32} {i : Nat} {vs : List Value} (eT : T.heap = h) {v : Value} (F : own_A Z h a .int vs) (hn : ¬ j < 0) (hj : j.toNatClampNeg = i) (hv : vs[i]? = some v) (hd : decode c.code pc = .ok (.iaload, 1)) (hq : pc + 1 = q) (K : own_Go p e below P (T.setTop (mkF m q Ls (v :: st)))) : own_Go p e below P (T.setTop (mkF m pc Ls (.int j :: .ref a :: st))) := by
  subst hq
  obtain ⟨cl, A, rfl⟩ := F
  have hv' : cl.slots[j.toNatClampNeg]? = some v := by rw [hj, ← Array.getElem?_toList]; exact hv
  have hin := own_in (c := cl) hn hj (List.getElem?_eq_some_iff.mp hv).1
  exact own_via (fun t => X.iaload hx (by rw [eT]; exact A.1) (State.isArrayOf_alike hZ.alike A.2.1) A.2.2 hin hv' (g := mkF m pc Ls (.int j :: .ref a :: st)) rfl rfl hd t) K
theorem own_laload (X : Stand p l e R s m args below meth c T locs cells slots) (hx : p.tables.exec = Jvm.exec) {Z : State} {h : Heap} (hZ : Z.Warmed39 s.vm) {a : Addr} {j : Int32} {i : Nat} {vs : List Value} (eT : T.heap = h) {v : Value} (F : own_A Z h a .long vs) (hn : ¬ j < 0) (hj : j.toNatClampNeg = i) (hv : vs[i]? = some v) (hd : decode c.code pc = .ok (.laload, 1)) (hq : pc + 1 = q) (K : own_Go p e below P (T.setTop (mkF m q Ls (v :: st)))) : own_Go p e below P (T.setTop (mkF m pc Ls (.int j :: .ref a :: st))) := by
  subst hq
  obtain ⟨cl, A, rfl⟩ := F
  have hv' : cl.slots[j.toNatClampNeg]? = some v := by rw [hj, ← Array.getElem?_toList]; exact hv
  have hin := own_in (c := cl) hn hj (List.getElem?_eq_some_iff.mp hv).1
  exact own_via (fun t => X.laload hx (by rw [eT]; exact A.1) (State.isArrayOf_alike hZ.alike A.2.1) A.2.2 hin hv' (g := mkF m pc Ls (.int j :: .ref a :: st)) rfl rfl hd t) K
theorem own_caload (X : Stand p l e R s m args below meth c T locs cells slots) (hx : p.tables.exec = Jvm.exec) {Z : State} {h : Heap} (hZ : Z.Warmed39 s.vm) {a : Addr} {j : Int32} {i : Nat} {vs : List Value} (eT : T.heap = h) {v : Value} (F : own_A Z h a .char vs) (hn : ¬ j < 0) (hj : j.toNatClampNeg = i) (hv : vs[i]? = some v) (hd : decode c.code pc = .ok (.caload, 1)) (hq : pc + 1 = q) (K : own_Go p e below P (T.setTop (mkF m q Ls (v :: st)))) : own_Go p e below P (T.setTop (mkF m pc Ls (.int j :: .ref a :: st))) := by
  subst hq
  obtain ⟨cl, A, rfl⟩ := F
  have hv' : cl.slots[j.toNatClampNeg]? = some v := by rw [hj, ← Array.getElem?_toList]; exact hv
  have hin := own_in (c := cl) hn hj (List.getElem?_eq_some_iff.mp hv).1
  exact own_via (fun t => X.caload hx (by rw [eT]; exact A.1) (State.isArrayOf_alike hZ.alike A.2.1) A.2.2 hin hv' (g := mkF m pc Ls (.int j :: .ref a :: st)) rfl rfl hd t) K
theorem own_baload (X : Stand p l e R s m args below meth c T locs cells slots) (hx : p.tables.exec = Jvm.exec) {Z : State} {h : Heap} (hZ : Z.Warmed39 s.vm) {a : Addr} {j : Int32} {i : Nat} {vs : List Value} (eT : T.heap = h) {v : Value} (F : own_A Z h a .byte vs) (hn : ¬ j < 0) (hj : j.toNatClampNeg = i) (hv : vs[i]? = some v) (hd : decode c.code pc = .ok (.baload, 1)) (hq : pc + 1 = q) (K : own_Go p e below P (T.setTop (mkF m q Ls (v :: st)))) : own_Go p e below P (T.setTop (mkF m pc Ls (.int j :: .ref a :: st))) := by
  subst hq
  obtain ⟨cl, A, rfl⟩ := F
  have hv' : cl.slots[j.toNatClampNeg]? = some v := by rw [hj, ← Array.getElem?_toList]; exact hv
  have hin := own_in (c := cl) hn hj (List.getElem?_eq_some_iff.mp hv).1
  exact own_via (fun t => X.baloadBytes hx (by rw [eT]; exact A.1) (State.isArrayOf_alike hZ.alike A.2.1) A.2.2 hin hv' (g := mkF m pc Ls (.int j :: .ref a :: st)) rfl rfl hd t) K
theorem own_zaload (X : Stand p l e R s m args below meth c T locs cells slots) (hx : p.tables.exec = Jvm.exec) {Z : State} {h : Heap} (hZ : Z.Warmed39 s.vm) {a : Addr} {j : Int32} {i : Nat} {vs : List Value} (eT : T.heap = h) {v : Value} (F : own_A Z h a .boolean vs) (hn : ¬ j < 0) (hj : j.toNatClampNeg = i) (hv : vs[i]? = some v) (hd : decode c.code pc = .ok (.baload, 1)) (hq : pc + 1 = q) (K : own_Go p e below P (T.setTop (mkF m q Ls (v :: st)))) : own_Go p e below P (T.setTop (mkF m pc Ls (.int j :: .ref a :: st))) := by
  subst hq
  obtain ⟨cl, A, rfl⟩ := F
  have hv' : cl.slots[j.toNatClampNeg]? = some v := by rw [hj, ← Array.getElem?_toList]; exact hv
  have hin := own_in (c := cl) hn hj (List.getElem?_eq_some_iff.mp hv).1
  exact own_via (fun t => X.baloadBooleans hx (by rw [eT]; exact A.1) (State.isArrayOf_alike hZ.alike A.2.1) A.2.2 hin hv' (g := mkF m pc Ls (.int j :: .ref a :: st)) rfl rfl hd t) K
theorem own_alen (X : Stand p l e R s m args below meth c T locs cells slots) (hx : p.tables.exec = Jvm.exec) {Z : State} {h : Heap} (hZ : Z.Warmed39 s.vm) {a : Addr} {vs : List Value} {ty : FieldType} {n : Int32} (eT : T.heap = h) (F : own_A Z h a ty vs) (hn : vs.length.toInt32 = n) (hd : decode c.code pc = .ok (.arraylength, 1)) (hq : pc + 1 = q) (K : own_Go p e below P (T.setTop (mkF m q Ls (.int n :: st)))) : own_Go p e below P (T.setTop (mkF m pc Ls (.ref a :: st))) := by
  subst hq
  obtain ⟨cl, A, rfl⟩ := F
  rw [Array.length_toList] at hn
  subst hn
  exact own_via (fun t => X.arraylength hx (by rw [eT]; exact A.1) (State.isArrayOf_alike hZ.alike A.2.1) (g := mkF m pc Ls (.ref a :: st)) rfl rfl hd t) K
theorem own_iastore (X : Stand p l e R s m args below meth c T locs cells slots) (hx : p.tables.exec = Jvm.exec) {Z : State} {h : Heap} (hZ : Z.Warmed39 s.vm) {a : Addr} {j : Int32} {i : Nat} {vs : List Value} (eT : T.heap = h) {x : Int32} (F : own_A Z h a .int vs) (hn : ¬ j < 0) (hj : j.toNatClampNeg = i) (hi : i < vs.length) (hd : decode c.code pc = .ok (.iastore, 1)) (hq : pc + 1 = q) (K : ∀ T' h', Stand p l e R s m args below meth c T' (locs ++ [⟨a, i⟩]) cells slots → T'.heap = h' → Wr h h' a i (.int x) → own_A Z h' a .int (vs.set i (.int x)) → own_Go p e below P (T'.setTop (mkF m q Ls st))) : own_Go p e below P (T.setTop (mkF m pc Ls (.int x :: .int j :: .ref a :: st))) := by
  subst hq hj
  have F' := F
  obtain ⟨cl, A, rfl⟩ := F
  have hin := own_in (c := cl) hn rfl hi
  obtain ⟨T', h', X', e', W', st'⟩ := stI X hx hZ eT A hin (g := mkF m pc Ls (.int x :: .int j :: .ref a :: st)) rfl rfl hd
  exact own_via (fun t => st' t) (K T' h' X' e' W' (F'.set W'))
theorem own_lastore (X : Stand p l e R s m args below meth c T locs cells slots) (hx : p.tables.exec = Jvm.exec) {Z : State} {h : Heap} (hZ : Z.Warmed39 s.vm) {a : Addr} {j : Int32} {i : Nat} {vs : List Value} (eT : T.heap = h) {x : Int64} (F : own_A Z h a .long vs) (hn : ¬ j < 0) (hj : j.toNatClampNeg = i) (hi : i < vs.length) (hd : decode c.code pc = .ok (.lastore, 1)) (hq : pc + 1 = q) (K : ∀ T' h', Stand p l e R s m args below meth c T' (locs ++ [⟨a, i⟩]) cells slots → T'.heap = h' → Wr h h' a i (.long x) → own_A Z h' a .long (vs.set i (.long x)) → own_Go p e below P (T'.setTop (mkF m q Ls st))) : own_Go p e below P (T.setTop (mkF m pc Ls (.long x :: .int j :: .ref a :: st))) := by
  subst hq hj
  have F' := F
  obtain ⟨cl, A, rfl⟩ := F
  have hin := own_in (c := cl) hn rfl hi
  obtain ⟨T', h', X', e', W', st'⟩ := stJ X hx hZ eT A hin (g := mkF m pc Ls (.long x :: .int j :: .ref a :: st)) rfl rfl hd
  exact own_via (fun t => st' t) (K T' h' X' e' W' (F'.set W'))
theorem own_castore (X : Stand p l e R s m args below meth c T locs cells slots) (hx : p.tables.exec = Jvm.exec) {Z : State} {h : Heap} (hZ : Z.Warmed39 s.vm) {a : Addr} {j : Int32} {i : Nat} {vs : List Value} (eT : T.heap = h) {x : Int32} (F : own_A Z h a .char vs) (hn : ¬ j < 0) (hj : j.toNatClampNeg = i) (hi : i < vs.length) (hd : decode c.code pc = .ok (.castore, 1)) (hq : pc + 1 = q) (K : ∀ T' h', Stand p l e R s m args below meth c T' (locs ++ [⟨a, i⟩]) cells slots → T'.heap = h' → Wr h h' a i (.int (nar .char x)) → own_A Z h' a .char (vs.set i (.int (nar .char x))) → own_Go p e below P (T'.setTop (mkF m q Ls st))) : own_Go p e below P (T.setTop (mkF m pc Ls (.int x :: .int j :: .ref a :: st))) := by
  subst hq hj
  have F' := F
  obtain ⟨cl, A, rfl⟩ := F
  have hin := own_in (c := cl) hn rfl hi
  obtain ⟨T', h', X', e', W', st'⟩ := stC X hx hZ eT A hin (g := mkF m pc Ls (.int x :: .int j :: .ref a :: st)) rfl rfl hd
  exact own_via (fun t => st' t) (K T' h' X' e' W' (F'.set W'))
theorem own_bastore (X : Stand p l e R s m args below meth c T locs cells slots) (hx : p.tables.exec = Jvm.exec) {Z : State} {h : Heap} (hZ : Z.Warmed39 s.vm) {a : Addr} {j : Int32} {i : Nat} {vs : List Value} (eT : T.heap = h) {x : Int32} (F : own_A Z h a .byte vs) (hn : ¬ j < 0) (hj : j.toNatClampNeg = i) (hi : i < vs.length) (hd : decode c.code pc = .ok (.bastore, 1)) (hq : pc + 1 = q) (K : ∀ T' h', Stand p l e R s m args below meth c T' (locs ++ [⟨a, i⟩]) cells slots → T'.heap = h' → Wr h h' a i (.int x.toInt8.toInt32) → own_A Z h' a .byte (vs.set i (.int x.toInt8.toInt32)) → own_Go p e below P (T'.setTop (mkF m q Ls st))) : own_Go p e below P (T.setTop (mkF m pc Ls (.int x :: .int j :: .ref a :: st))) := by
  subst hq hj
  have F' := F
  obtain ⟨cl, A, rfl⟩ := F
  have hin := own_in (c := cl) hn rfl hi
  obtain ⟨T', h', X', e', W', st'⟩ := stB X hx hZ eT A hin (g := mkF m pc Ls (.int x :: .int j :: .ref a :: st)) rfl rfl hd
  exact own_via (fun t => st' t) (K T' h' X' e' W' (F'.set W'))
theorem own_zastore (X : Stand p l e R s m args below meth c T locs cells slots) (hx : p.tables.exec = Jvm.exec) {Z : State} {h : Heap} (hZ : Z.Warmed39 s.vm) {a : Addr} {j : Int32} {i : Nat} {vs : List Value} (eT : T.heap = h) {x : Int32} (F : own_A Z h a .boolean vs) (hn : ¬ j < 0) (hj : j.toNatClampNeg = i) (hi : i < vs.length) (hd : decode c.code pc = .ok (.bastore, 1)) (hq : pc + 1 = q) (K : ∀ T' h', Stand p l e R s m args below meth c T' (locs ++ [⟨a, i⟩]) cells slots → T'.heap = h' → Wr h h' a i (.int (nar .boolean x)) → own_A Z h' a .boolean (vs.set i (.int (nar .boolean x))) → own_Go p e below P (T'.setTop (mkF m q Ls st))) : own_Go p e below P (T.setTop (mkF m pc Ls (.int x :: .int j :: .ref a :: st))) := by
  subst hq hj
  have F' := F
  obtain ⟨cl, A, rfl⟩ := F
  have hin := own_in (c := cl) hn rfl hi
  obtain ⟨T', h', X', e', W', st'⟩ := stZ X hx hZ eT A hin (g := mkF m pc Ls (.int x :: .int j :: .ref a :: st)) rfl rfl hd
  exact own_via (fun t => st' t) (K T' h' X' e' W' (F'.set W'))
theorem own_newA (X : Stand p l e R s m args below meth c T locs cells slots) (hx : p.tables.exec = Jvm.exec) {Z : State} {a0 : Array Value} {h : Heap} (hZ : Z.Warmed39 s.vm) {aty : ArrayType} {ty : FieldType} {n : Int32} {k cap : Nat} (hty : newarray.typeOf aty = ty) (w : (Cond.arrayClass ty).before a0 Z = true) (eT : T.heap = h) (hn : ¬ n < 0) (hk : n.toNatClampNeg = k) (hcap : k ≤ cap) (hb8 : cap * 8 ≤ 536870912) (hc : cells + 1 ≤ R.cells) (hl : slots + cap ≤ R.slots) (hd : decode c.code pc = .ok (.newarray aty, 2)) (hq : pc + 2 = q) (K : ∀ T' h' a, Stand p l e R s m args below meth c T' locs (cells + 1) (slots + cap) → T'.heap = h' → a = h.size → Ext h h' → own_A Z h' a ty (List.replicate k (defaultValue ty)) → own_Go p e below P (T'.setTop (mkF m q Ls (.ref a :: st)))) : own_Go p e below P (T.setTop (mkF m pc Ls (.int n :: st))) := by
  subst hq hty hk
  obtain ⟨T', h', cA, X', e', E', A', st'⟩ := newP X hx hZ w eT (g := mkF m pc Ls (.int n :: st)) rfl hd rfl hn hcap hb8 hc hl
  exact own_via (fun t => st' t) (K T' h' _ X' e' rfl E' ⟨_, A', by simp [newA]⟩)
theorem own_lswHit (X : Stand p l e R s m args below meth c T locs cells slots) (hx : p.tables.exec = Jvm.exec) {k : Int32} {dflt : Int} {prs : Array (Int × Int)} {len : Nat} {v : Int32} {b off : Int} (hk : k = v) (hd : decode c.code pc = .ok (.lookupswitch dflt prs, len)) (hs : (prs.toList.zip (prs.toList.drop 1)).all (fun (a, next) => a.1 < next.1) = true) (hf : prs.find? (·.1 == v.toInt) = some (b, off)) (ho : 0 ≤ (pc : Int) + off) (hp : ((pc : Int) + off).toNat = q) (K : own_Go p e below P (T.setTop (mkF m q Ls st))) : own_Go p e below P (T.setTop (mkF m pc Ls (.int k :: st))) := by
  subst hk hp; exact own_via (fun t => X.lookupswitchHit hx (g := mkF m pc Ls (.int k :: st)) rfl rfl hd hs hf ho t) K
theorem own_lswMiss (X : Stand p l e R s m args below meth c T locs cells slots) (hx : p.tables.exec = Jvm.exec) {k : Int32} {dflt : Int} {prs : Array (Int × Int)} {len : Nat} (hm : prs.find? (·.1 == k.toInt) = none) (hd : decode c.code pc = .ok (.lookupswitch dflt prs, len)) (hs : (prs.toList.zip (prs.toList.drop 1)).all (fun (a, next) => a.1 < next.1) = true) (ho : 0 ≤ (pc : Int) + dflt) (hp : ((pc : Int) + dflt).toNat = q) (K : own_Go p e below P (T.setTop (mkF m q Ls st))) : own_Go p e below P (T.setTop (mkF m pc Ls (.int k :: st))) := by
  subst hp; exact own_via (fun t => X.lookupswitchMiss hx (g := mkF m pc Ls (.int k :: st)) rfl rfl hd hs hm ho t) K
theorem own_instY (X : Stand p l e R s m args below meth c T locs cells slots) (hx : p.tables.exec = Jvm.exec) {Z : State} {a0 : Array Value} {h : Heap} (hZ : Z.Warmed39 s.vm) {own : String} {i : Nat} (hown : s.vm.findClass own = some m.cls) {a : Addr} {K0 : String} (w : (Cond.classLink own i K0).before a0 Z = true) (eT : T.heap = h) (F : Ins Z h a K0 true) (hd : decode c.code pc = .ok (.instanceof i, 3)) (hq : pc + 3 = q) (K : ∀ T', Stand p l e R s m args below meth c T' locs cells slots → T'.heap = h → own_Go p e below P (T'.setTop (mkF m q Ls (.int 1 :: st)))) : own_Go p e below P (T.setTop (mkF m pc Ls (.ref a :: st))) := by
  subst hq
  obtain ⟨T', X', e', st'⟩ := instY X hx hZ hown w eT F (g := mkF m pc Ls (.ref a :: st)) rfl rfl hd
  exact own_via (fun t => st' t) (K T' X' e')
theorem own_instN (X : Stand p l e R s m args below meth c T locs cells slots) (hx : p.tables.exec = Jvm.exec) {Z : State} {a0 : Array Value} {h : Heap} (hZ : Z.Warmed39 s.vm) {own : String} {i : Nat} (hown : s.vm.findClass own = some m.cls) {a : Addr} {K0 C : String} (w : (Cond.classLink own i K0).before a0 Z = true) (eT : T.heap = h) (E : Exa Z h a C) (F : ∃ c t, Z.vm.findClass C = some c ∧ Z.vm.findClass K0 = some t ∧ Z.vm.assignable c t = false) (hd : decode c.code pc = .ok (.instanceof i, 3)) (hq : pc + 3 = q) (K : ∀ T', Stand p l e R s m args below meth c T' locs cells slots → T'.heap = h → own_Go p e below P (T'.setTop (mkF m q Ls (.int 0 :: st)))) : own_Go p e below P (T.setTop (mkF m pc Ls (.ref a :: st))) := by
  subst hq
  obtain ⟨T', X', e', st'⟩ := instNo X hx hZ hown w eT E F (g := mkF m pc Ls (.ref a :: st)) rfl rfl hd
  exact own_via (fun t => st' t) (K T' X' e')
theorem own_cast (X : Stand p l e R s m args below meth c T locs cells slots) (hx : p.tables.exec = Jvm.exec) {Z : State} {a0 : Array Value} {h : Heap} (hZ : Z.Warmed39 s.vm) {own : String} {i : Nat} (hown : s.vm.findClass own = some m.cls) {a : Addr} {K0 : String} (w : (Cond.classLink own i K0).before a0 Z = true) (eT : T.heap = h) (F : Ins Z h a K0 true) (hd : decode c.code pc = .ok (.checkcast i, 3)) (hq : pc + 3 = q) (K : ∀ T', Stand p l e R s m args below meth c T' locs cells slots → T'.heap = h → own_Go p e below P (T'.setTop (mkF m q Ls (.ref a :: st)))) : own_Go p e below P (T.setTop (mkF m pc Ls (.ref a :: st))) := by
  subst hq
  obtain ⟨T', X', e', st'⟩ := castY X hx hZ hown w eT F (g := mkF m pc Ls (.ref a :: st)) rfl rfl hd
  exact own_via (fun t => st' t) (K T' X' e')
theorem own_inst0 (X : Stand p l e R s m args below meth c T locs cells slots) (hx : p.tables.exec = Jvm.exec) {i : Nat} (hd : decode c.code pc = .ok (.instanceof i, 3)) (hq : pc + 3 = q) (K : own_Go p e below P (T.setTop (mkF m q Ls (.int 0 :: st)))) : own_Go p e below P (T.setTop (mkF m pc Ls (.null :: st))) := by
  subst hq; exact own_via (fun t => X.instanceofNull hx (g := mkF m pc Ls (.null :: st)) rfl (rest := st) rfl hd t) K
theorem own_staKeep {Z : State} {h h' : Heap} {ws : List Addr} {C n d : String} {v : Value} (F : Sta Z h C n d v) (K : Keep h h' ws) (q : ∀ a ∈ ws, ∀ c : Cell, h[a]? = some c → c.vm.isStatics = false) : Sta Z h' C n d v := by
  obtain ⟨cf, i, k, f, st, cell, h1, h2, h3, h4, h5, h6, h7⟩ := F
  exact ⟨cf, i, k, f, st, cell, h1, h2, h3, h4, K.2.1 st cell h5 (fun hm => by rw [q st hm cell h5] at h6; cases h6), h6, h7⟩
theorem own_exaPlain {Z : State} {h : Heap} {a : Addr} {C : String} (E : Exa Z h a C) : ∀ c : Cell, h[a]? = some c → c.vm.isStatics = false := fun c hc => by
  obtain ⟨cell, k, h1, -, -, h4, -⟩ := E
  cases h1.symm.trans hc; exact h4
theorem own_A.plain {Z : State} {h : Heap} {a : Addr} {ty : FieldType} {vs : List Value} (F : own_A Z h a ty vs) : ∀ c : Cell, h[a]? = some c → c.vm.isStatics = false := fun c hc => by
  obtain ⟨cl, A, -⟩ := F
  cases A.1.symm.trans hc; exact A.plain
theorem own_callCB (X : Stand p l e R s m args below meth c T locs cells slots) (hx : p.tables.exec = Jvm.exec) {a : Addr} {Z : State} {a0 : Array Value} {h : Heap} {own : String} {index : Nat} {y : MethodName} {bytes : ByteArray} {maxL : Nat} {k1 k2 : Nat} {W : Nat} {argsL : List Value} {Qc : Option Value → Heap → List Loc → Prop} {ps : List FieldType} {r : Option FieldType} {st0 : List Value} (hZ : Z.Warmed39 s.vm) (hown : s.vm.findClass own = some m.cls) (hy1 : y.name = "<init>") (w1 : (Cond.methodLink own index y).before a0 Z = true) (w2 : (Cond.instanceMethod y).before a0 Z = true) (w4 : (Cond.code y bytes maxL none).before a0 Z = true) (hy : y.cls ≠ "java/lang/invoke/MethodHandle" ∧ y.cls ≠ "java/lang/invoke/VarHandle") (hK : Back l R p e below s args y 3 W (fun P aa => aa = (.ref a :: argsL).toArray ∧ P.U.heap = h ∧ P.cells + k1 ≤ R.cells ∧ P.slots + k2 ≤ R.slots) (fun P _ v B => ∃ L, Qc v B.U.heap L ∧ B.locs = P.locs ++ L ∧ B.cells = P.cells + k1 ∧ B.slots = P.slots + k2)) (hpd : parseMethodDescriptor y.desc = some ⟨ps, r⟩) (hlen : argsL.length = ps.length) (eT : T.heap = h) (hml : Ls.size = c.maxLocals) (hst : st0 = argsL.reverse ++ .ref a :: st) (hW : (st.map fun v => v.category).sum ≤ W) (hc : cells + k1 ≤ R.cells) (hs : slots + k2 ≤ R.slots) (hd : decode c.code pc = .ok (.invokespecial index, 3)) (hq : pc + 3 = q) (K : ∀ v T' L, Stand p l e R s m args below meth c T' (locs ++ L) (cells + k1) (slots + k2) → Qc v T'.heap L → own_Go p e below P (T'.setTop (mkF m q Ls (v.toList ++ st)))) : own_Go p e below P (T.setTop (mkF m pc Ls st0)) := by
  subst hq hst
  obtain ⟨v, _, ⟨T', L', k', n'⟩, -, X', ⟨Lc, hQ, l', y', z'⟩, st'⟩ := X.specialBack hx hy1 hown (mvT hZ w1) (mvT hZ w2) (mvT hZ w4) hy hK (g := mkF m pc Ls (argsL.reverse ++ .ref a :: st)) rfl hml (Steps.refl _) (a := a) (argsL := argsL) (rest := st) (lenOf hpd hlen) rfl (by show 2 * 0 + _ ≤ _; omega) hd (fun _ _ => ⟨rfl, eT, hc, hs⟩)
  dsimp only [Pt.U, Pt.locs, Pt.cells, Pt.slots] at X' l' y' z' st' hQ
  subst l' y' z'
  exact own_via (fun t => st'.trans) (K v T' Lc X' hQ)
theorem own_A.arv {Z : State} {h : Heap} {a : Addr} {ty : FieldType} {vs : List Value} {N : Int32} {d : Value} (F : own_A Z h a ty vs) (hN : N.toNatClampNeg = vs.length) (hn : ¬ N < 0) (hf : ∀ v ∈ vs, fits ty v = true) : ∃ k, Arv Z h a k ty N vs d := by
  obtain ⟨c, A, rfl⟩ := F
  rw [Array.length_toList] at hN
  have key : ∀ i, i < c.slots.size → c.slots.toList.getD i d = c.slots[i]! ∧ c.slots[i]? = some (c.slots.toList.getD i d) ∧ c.slots.toList.getD i d ∈ c.slots.toList := fun i hi => by
    have h1 : c.slots.toList[i]? = some c.slots[i] := by rw [Array.getElem?_toList]; exact Array.getElem?_eq_getElem hi
    have h2 : c.slots.toList.getD i d = c.slots[i] := by rw [List.getD_eq_getElem?_getD, h1]; rfl
    refine ⟨by rw [h2, getElem!_pos c.slots i hi], by rw [h2]; exact Array.getElem?_eq_getElem hi, ?_⟩
    rw [h2]; exact Array.getElem_mem_toList hi
  exact ⟨c.cls, c, A, rfl, hN.symm, hn, fun i hi => (key i hi).2.1, fun i hi => hf _ (key i hi).2.2⟩
theorem own_A.of_arv {Z : State} {h : Heap} {a : Addr} {k : ClassId} {ty : FieldType} {vs : List Value} {N : Int32} {d : Value} (F : Arv Z h a k ty N vs d) (hN : N.toNatClampNeg = vs.length) : own_A Z h a ty vs := by
  obtain ⟨c, A, -, S, -, H, -⟩ := F
  refine ⟨c, A, List.ext_getElem? fun i => ?_⟩
  rw [Array.getElem?_toList]
  by_cases hi : i < c.slots.size
  · have hj : i < vs.length := by rw [← hN, ← S]; exact hi
    rw [H i hi, List.getD_eq_getElem?_getD, List.getElem?_eq_getElem hj]; rfl
  · have hj : ¬ i < vs.length := by rw [← hN, ← S]; exact hi
    rw [Array.getElem?_eq_none (Nat.le_of_not_lt hi), List.getElem?_eq_none (Nat.le_of_not_lt hj)]
theorem own_callSP (X : Stand p l e R s m args below meth c T locs cells slots) (hx : p.tables.exec = Jvm.exec) {Z : State} {a0 : Array Value} {h : Heap} {own : String} {index : Nat} {y : MethodName} {bytes : ByteArray} {maxL : Nat} {ret : Option FieldType} {W : Nat} {argsL : List Value} {fr lo : Nat} {w : Value} {ps : List FieldType} {r : Option FieldType} {st0 : List Value} (hZ : Z.Warmed39 s.vm) (hown : s.vm.findClass own = some m.cls) (w1 : (Cond.methodLink own index y).before a0 Z = true) (w2 : (Cond.static y).before a0 Z = true) (w3 : (Cond.initialized y.cls).before a0 Z = true) (w4 : (Cond.code y bytes maxL ret).before a0 Z = true) (hy : y.cls ≠ "java/lang/invoke/MethodHandle" ∧ y.cls ≠ "java/lang/invoke/VarHandle") (hM : MetFree l y (head1 [Cond.code y bytes maxL ret] ({ frames := fr, cells := 0, slots := 0, locals := lo } : Room)) (fun aa U => aa = argsL.toArray ∧ Z.Warmed39 U.vm ∧ U.heap = h) (fun _ _ _ _ _ => True) (fun _ U o U' => ∃ v L, o = .returned v ∧ own_P w h v U'.heap L ∧ FrameEnd U o U' L 0 0)) (hpd : parseMethodDescriptor y.desc = some ⟨ps, r⟩) (hlen : argsL.length = ps.length) (eT : T.heap = h) (hml : Ls.size = c.maxLocals) (hst : st0 = argsL.reverse ++ st) (hW : (st.map fun v => v.category).sum ≤ W) (hf : fr + 1 ≤ R.frames) (hl : W + (maxL + 11) + lo ≤ R.locals) (hc : cells ≤ R.cells) (hs : slots ≤ R.slots) (hd : decode c.code pc = .ok (.invokestatic index, 3)) (hq : pc + 3 = q) (K : ∀ T', Stand p l e R s m args below meth c T' locs cells slots → T'.heap = h → own_Go p e below P (T'.setTop (mkF m q Ls (w :: st)))) : own_Go p e below P (T.setTop (mkF m pc Ls st0)) := by
  refine own_callS X hx hZ hown w1 w2 w3 w4 hy hM hpd hlen eT hml hst hW hf hl hc hs hd hq fun v T' L X' hQ => ?_
  obtain ⟨rfl, eh, rfl⟩ := hQ
  rw [List.append_nil] at X'
  exact K T' X' eh
theorem own_callVP (X : Stand p l e R s m args below meth c T locs cells slots) (hx : p.tables.exec = Jvm.exec) {a : Addr} {C : String} {z : MethodName} {Z : State} {a0 : Array Value} {h : Heap} {own : String} {index : Nat} {y : MethodName} {bytes : ByteArray} {maxL : Nat} {ret : Option FieldType} {W : Nat} {argsL : List Value} {fr lo : Nat} {w : Value} {ps : List FieldType} {r : Option FieldType} {st0 : List Value} (hZ : Z.Warmed39 s.vm) (hown : s.vm.findClass own = some m.cls) (w1 : (Cond.methodLink own index y).before a0 Z = true) (w2 : (Cond.declares y).before a0 Z = true) (w5 : (Cond.selects y.cls y y).before a0 Z = true) (w6 : (Cond.selects C y z).before a0 Z = true) (w7 : (Cond.instanceMethod z).before a0 Z = true) (w3 : (Cond.initialized z.cls).before a0 Z = true) (w4 : (Cond.code z bytes maxL ret).before a0 Z = true) (E : Exa Z h a C) (hy : y.cls ≠ "java/lang/invoke/MethodHandle" ∧ y.cls ≠ "java/lang/invoke/VarHandle") (hM : MetFree l z (head1 [Cond.code z bytes maxL ret] ({ frames := fr, cells := 0, slots := 0, locals := lo } : Room)) (fun aa U => aa = (.ref a :: argsL).toArray ∧ Z.Warmed39 U.vm ∧ U.heap = h) (fun _ _ _ _ _ => True) (fun _ U o U' => ∃ v L, o = .returned v ∧ own_P w h v U'.heap L ∧ FrameEnd U o U' L 0 0)) (hpd : parseMethodDescriptor y.desc = some ⟨ps, r⟩) (hlen : argsL.length = ps.length) (eT : T.heap = h) (hml : Ls.size = c.maxLocals) (hst : st0 = argsL.reverse ++ .ref a :: st) (hW : (st.map fun v => v.category).sum ≤ W) (hf : fr + 1 ≤ R.frames) (hl : W + (maxL + 11) + lo ≤ R.locals) (hc : cells ≤ R.cells) (hs : slots ≤ R.slots) (hd : decode c.code pc = .ok (.invokevirtual index, 3)) (hq : pc + 3 = q) (K : ∀ T', Stand p l e R s m args below meth c T' locs cells slots → T'.heap = h → own_Go p e below P (T'.setTop (mkF m q Ls (w :: st)))) : own_Go p e below P (T.setTop (mkF m pc Ls st0)) := by
  refine own_callV X hx hZ hown w1 w2 w5 w6 w7 w3 w4 E hy hM hpd hlen eT hml hst hW hf hl hc hs hd hq fun v T' L X' hQ => ?_
  obtain ⟨rfl, eh, rfl⟩ := hQ
  rw [List.append_nil] at X'
  exact K T' X' eh
theorem own_callCV (X : Stand p l e R s m args below meth c T locs cells slots) (hx : p.tables.exec = Jvm.exec) {a : Addr} {Z : State} {a0 : Array Value} {h : Heap} {own : String} {index : Nat} {y : MethodName} {bytes : ByteArray} {maxL : Nat} {W : Nat} {argsL : List Value} {fr lo : Nat} {ps : List FieldType} {r : Option FieldType} {st0 : List Value} (hZ : Z.Warmed39 s.vm) (hown : s.vm.findClass own = some m.cls) (hy1 : y.name = "<init>") (w1 : (Cond.methodLink own index y).before a0 Z = true) (w2 : (Cond.instanceMethod y).before a0 Z = true) (w3 : (Cond.initialized y.cls).before a0 Z = true) (w4 : (Cond.code y bytes maxL none).before a0 Z = true) (hy : y.cls ≠ "java/lang/invoke/MethodHandle" ∧ y.cls ≠ "java/lang/invoke/VarHandle") (hM : MetFree l y (head1 [Cond.code y bytes maxL none] ({ frames := fr, cells := 0, slots := 0, locals := lo } : Room)) (fun aa U => aa = (.ref a :: argsL).toArray ∧ Z.Warmed39 U.vm ∧ U.heap = h) (fun _ _ _ _ _ => True) (fun _ U o U' => ∃ v L, o = .returned v ∧ own_V h v U'.heap L ∧ FrameEnd U o U' L 0 0)) (hpd : parseMethodDescriptor y.desc = some ⟨ps, r⟩) (hlen : argsL.length = ps.length) (eT : T.heap = h) (hml : Ls.size = c.maxLocals) (hst : st0 = argsL.reverse ++ .ref a :: st) (hW : (st.map fun v => v.category).sum ≤ W) (hf : fr + 1 ≤ R.frames) (hl : W + (maxL + 11) + lo ≤ R.locals) (hc : cells ≤ R.cells) (hs : slots ≤ R.slots) (hd : decode c.code pc = .ok (.invokespecial index, 3)) (hq : pc + 3 = q) (K : ∀ T', Stand p l e R s m args below meth c T' locs cells slots → T'.heap = h → own_Go p e below P (T'.setTop (mkF m q Ls st))) : own_Go p e below P (T.setTop (mkF m pc Ls st0)) := by
  refine own_callC X hx hZ hown hy1 w1 w2 w3 w4 hy hM hpd hlen eT hml hst hW hf hl hc hs hd hq fun v T' L X' hQ => ?_
  obtain ⟨rfl, eh, rfl⟩ := hQ
  rw [List.append_nil] at X'
  exact K T' X' eh
theorem own_callSV (X : Stand p l e R s m args below meth c T locs cells slots) (hx : p.tables.exec = Jvm.exec) {Z : State} {a0 : Array Value} {h : Heap} {own : String} {index : Nat} {y : MethodName} {bytes : ByteArray} {maxL : Nat} {ret : Option FieldType} {W : Nat} {argsL : List Value} {fr lo : Nat} {ps : List FieldType} {r : Option FieldType} {st0 : List Value} (hZ : Z.Warmed39 s.vm) (hown : s.vm.findClass own = some m.cls) (w1 : (Cond.methodLink own index y).before a0 Z = true) (w2 : (Cond.static y).before a0 Z = true) (w3 : (Cond.initialized y.cls).before a0 Z = true) (w4 : (Cond.code y bytes maxL ret).before a0 Z = true) (hy : y.cls ≠ "java/lang/invoke/MethodHandle" ∧ y.cls ≠ "java/lang/invoke/VarHandle") (hM : MetFree l y (head1 [Cond.code y bytes maxL ret] ({ frames := fr, cells := 0, slots := 0, locals := lo } : Room)) (fun aa U => aa = argsL.toArray ∧ Z.Warmed39 U.vm ∧ U.heap = h) (fun _ _ _ _ _ => True) (fun _ U o U' => ∃ v L, o = .returned v ∧ own_V h v U'.heap L ∧ FrameEnd U o U' L 0 0)) (hpd : parseMethodDescriptor y.desc = some ⟨ps, r⟩) (hlen : argsL.length = ps.length) (eT : T.heap = h) (hml : Ls.size = c.maxLocals) (hst : st0 = argsL.reverse ++ st) (hW : (st.map fun v => v.category).sum ≤ W) (hf : fr + 1 ≤ R.frames) (hl : W + (maxL + 11) + lo ≤ R.locals) (hc : cells ≤ R.cells) (hs : slots ≤ R.slots) (hd : decode c.code pc = .ok (.invokestatic index, 3)) (hq : pc + 3 = q) (K : ∀ T', Stand p l e R s m args below meth c T' locs cells slots → T'.heap = h → own_Go p e below P (T'.setTop (mkF m q Ls st))) : own_Go p e below P (T.setTop (mkF m pc Ls st0)) := by
  refine own_callS X hx hZ hown w1 w2 w3 w4 hy hM hpd hlen eT hml hst hW hf hl hc hs hd hq fun v T' L X' hQ => ?_
  obtain ⟨rfl, eh, rfl⟩ := hQ
  rw [List.append_nil] at X'
  exact K T' X' eh
theorem own_callVV (X : Stand p l e R s m args below meth c T locs cells slots) (hx : p.tables.exec = Jvm.exec) {a : Addr} {C : String} {z : MethodName} {Z : State} {a0 : Array Value} {h : Heap} {own : String} {index : Nat} {y : MethodName} {bytes : ByteArray} {maxL : Nat} {ret : Option FieldType} {W : Nat} {argsL : List Value} {fr lo : Nat} {ps : List FieldType} {r : Option FieldType} {st0 : List Value} (hZ : Z.Warmed39 s.vm) (hown : s.vm.findClass own = some m.cls) (w1 : (Cond.methodLink own index y).before a0 Z = true) (w2 : (Cond.declares y).before a0 Z = true) (w5 : (Cond.selects y.cls y y).before a0 Z = true) (w6 : (Cond.selects C y z).before a0 Z = true) (w7 : (Cond.instanceMethod z).before a0 Z = true) (w3 : (Cond.initialized z.cls).before a0 Z = true) (w4 : (Cond.code z bytes maxL ret).before a0 Z = true) (E : Exa Z h a C) (hy : y.cls ≠ "java/lang/invoke/MethodHandle" ∧ y.cls ≠ "java/lang/invoke/VarHandle") (hM : MetFree l z (head1 [Cond.code z bytes maxL ret] ({ frames := fr, cells := 0, slots := 0, locals := lo } : Room)) (fun aa U => aa = (.ref a :: argsL).toArray ∧ Z.Warmed39 U.vm ∧ U.heap = h) (fun _ _ _ _ _ => True) (fun _ U o U' => ∃ v L, o = .returned v ∧ own_V h v U'.heap L ∧ FrameEnd U o U' L 0 0)) (hpd : parseMethodDescriptor y.desc = some ⟨ps, r⟩) (hlen : argsL.length = ps.length) (eT : T.heap = h) (hml : Ls.size = c.maxLocals) (hst : st0 = argsL.reverse ++ .ref a :: st) (hW : (st.map fun v => v.category).sum ≤ W) (hf : fr + 1 ≤ R.frames) (hl : W + (maxL + 11) + lo ≤ R.locals) (hc : cells ≤ R.cells) (hs : slots ≤ R.slots) (hd : decode c.code pc = .ok (.invokevirtual index, 3)) (hq : pc + 3 = q) (K : ∀ T', Stand p l e R s m args below meth c T' locs cells slots → T'.heap = h → own_Go p e below P (T'.setTop (mkF m q Ls st))) : own_Go p e below P (T.setTop (mkF m pc Ls st0)) := by
  refine own_callV X hx hZ hown w1 w2 w5 w6 w7 w3 w4 E hy hM hpd hlen eT hml hst hW hf hl hc hs hd hq fun v T' L X' hQ => ?_
  obtain ⟨rfl, eh, rfl⟩ := hQ
  rw [List.append_nil] at X'
  exact K T' X' eh
end OwnKit
theorem own_ws : ∀ d ∈ StrChars.Road.words, d ∈ tables_1 := by decide +kernel
theorem own_ch (x : Int32) : ¬ nar .char ((x &&& 255).toUInt32.toUInt16.toUInt32.toInt32) < 0 ∧ ¬ (255 : Int32) < nar .char ((x &&& 255).toUInt32.toUInt16.toUInt32.toInt32) := by
  have e : nar .char ((x &&& 255).toUInt32.toUInt16.toUInt32.toInt32) = x &&& 255 := by
    rw [i2c_mask]; show (x &&& 255).toUInt32.toUInt16.toUInt32.toInt32 = _; exact i2c_mask x
  have h := c_mask x 255 8 (by decide) (by decide)
  rw [e]; simp only [Int32.lt_iff_toInt_lt, h, Int32.reduceToInt]; omega
def own_cat (c0 c1 c2 c3 p : Int32) : Int32 := if p = 0 then c0 else if p = 1 then c1 else if p = 2 then c2 else c3
theorem own_p4 {p : Int32} (h0 : ¬ p < 0) (h4 : p < 4) : p = 0 ∨ p = 1 ∨ p = 2 ∨ p = 3 := by
  simp only [Int32.lt_iff_toInt_lt, ← Int32.toInt_inj, Int32.reduceToInt] at *; omega
theorem own_catV {c0 c1 c2 c3 p : Int32} (h0 : ¬ p < 0) (h4 : p < 4) : ([.int c0, .int c1, .int c2, .int c3] : List Value)[p.toNatClampNeg]? = some (.int (own_cat c0 c1 c2 c3 p)) := by
  rcases own_p4 h0 h4 with rfl | rfl | rfl | rfl <;> rfl
theorem own_ef1 (m : MethodId) (p1 : Int32) (p2 : Int32) : entryFrame m #[.int p1, .int p2] 2 = mkF m 0 #[.val (.int p1), .val (.int p2)] [] := by first | (simp [entryFrame, mkF, argsToLocals, Value.category]; done) | rfl
theorem own_d1_0 : decode jdk_29_method_69_code 0 = .ok (.iload_n 0, 1) := by decide +kernel
theorem own_d1_1 : decode jdk_29_method_69_code 1 = .ok (.iload_n 1, 1) := by decide +kernel
theorem own_d1_2 : decode jdk_29_method_69_code 2 = .ok (.if_icmp .gt 7, 3) := by decide +kernel
theorem own_d1_5 : decode jdk_29_method_69_code 5 = .ok (.iload_n 0, 1) := by decide +kernel
theorem own_d1_6 : decode jdk_29_method_69_code 6 = .ok (.goto 4, 3) := by decide +kernel
theorem own_d1_9 : decode jdk_29_method_69_code 9 = .ok (.iload_n 1, 1) := by decide +kernel
theorem own_d1_10 : decode jdk_29_method_69_code 10 = .ok (.ireturn, 1) := by decide +kernel
def own_f1 (p1 : Int32) (p2 : Int32) : Int32 := (if p2 < p1 then p2 else p1)
set_option maxRecDepth 65536 in
set_option maxHeartbeats 40000000 in
theorem rm1 (l : Launch) (Z : State) (a0 : Array Value) (hw : ∀ d ∈ tables_1, d.before a0 Z = true) (ws : List Jvm.Cond) (p1 : Int32) (p2 : Int32) (h0 : Heap) :
    MetFree l (⟨"java/lang/Math", "min", "(II)I"⟩ : MethodName) (head1 (Jvm.Cond.code (⟨"java/lang/Math", "min", "(II)I"⟩ : MethodName) jdk_29_method_69_code 2 (some .int) :: ws) ({ frames := 0, cells := 0, slots := 0, locals := 0 } : Room)) (fun a U => a = #[.int p1, .int p2] ∧ Z.Warmed39 U.vm ∧ U.heap = h0) (fun _ _ _ _ _ => True) (fun _ U o U' => ∃ v L, o = .returned v ∧ own_P (.int (own_f1 p1 p2)) h0 v U'.heap L ∧ FrameEnd U o U' L ({ frames := 0, cells := 0, slots := 0, locals := 0 } : Room).cells ({ frames := 0, cells := 0, slots := 0, locals := 0 } : Room).slots) := by
  refine MetFree.of_bodySF (by decide +kernel) hisR ?_
  intro p e s m args below meth c s₁ Bd hml0 hP hK
  obtain ⟨rfl, hZ, hh⟩ := hP
  have hx := Bd.exec
  have hby := Bd.bytes
  have hml : c.maxLocals = 2 := hml0
  have hown : s.vm.findClass "java/lang/Math" = some m.cls := findClass_of_methodNamed Bd.named
  have hnm := (name_of_methodNamed Bd.named Bd.method).1
  have hlk : meth.locks = false := BodyLoose.notSynchronized Bd
  have X0 : Stand p l e ({ frames := 0, cells := 0, slots := 0, locals := 0 } : Room) s m #[.int p1, .int p2] below meth c s₁ [] 0 0 := Stand.of_body Bd
  have e0 : s₁.heap = h0 := by rw [← hh, Bd.state]; rfl
  show own_Go p e below (own_E s 0 0 (own_P (.int (own_f1 p1 p2)) h0)) (s₁.setTop (entryFrame m #[.int p1, .int p2] 2))
  rw [own_ef1]
  refine own_iloadN X0 hx (hb hby own_d1_0) (q := 1) rfl rfl ?_
  refine own_iloadN X0 hx (hb hby own_d1_1) (q := 2) rfl rfl ?_
  refine own_icmpP X0 hx (hb hby own_d1_2) (cd := .gt) (x := p1) (y := p2) (pt := 9) (q := 5) (by decide) (by decide) rfl rfl (fun (c1 : p2 < p1) => ?_) (fun (c1 : ¬ (p2 < p1)) => ?_)
  · refine own_iloadN X0 hx (hb hby own_d1_9) (q := 10) rfl rfl ?_
    refine own_retI X0 hx hlk Bd.returns (hb hby own_d1_10) ?_ (by decide) (by decide)
    have r : own_f1 p1 p2 = p2 := by rw [own_f1, if_pos c1]
    exact ⟨by rw [r] <;> rfl, e0, rfl⟩
  · refine own_iloadN X0 hx (hb hby own_d1_5) (q := 6) rfl rfl ?_
    refine own_goto X0 hx (hb hby own_d1_6) (q := 10) (by decide) (by decide) ?_
    refine own_retI X0 hx hlk Bd.returns (hb hby own_d1_10) ?_ (by decide) (by decide)
    have r : own_f1 p1 p2 = p1 := by rw [own_f1, if_neg c1]
    exact ⟨by rw [r] <;> rfl, e0, rfl⟩
theorem own_ef2 (m : MethodId) (p1 : Int32) (p2 : Int32) : entryFrame m #[.int p1, .int p2] 2 = mkF m 0 #[.val (.int p1), .val (.int p2)] [] := by first | (simp [entryFrame, mkF, argsToLocals, Value.category]; done) | rfl
theorem own_d2_0 : decode jdk_29_method_65_code 0 = .ok (.iload_n 0, 1) := by decide +kernel
theorem own_d2_1 : decode jdk_29_method_65_code 1 = .ok (.iload_n 1, 1) := by decide +kernel
theorem own_d2_2 : decode jdk_29_method_65_code 2 = .ok (.if_icmp .lt 7, 3) := by decide +kernel
theorem own_d2_5 : decode jdk_29_method_65_code 5 = .ok (.iload_n 0, 1) := by decide +kernel
theorem own_d2_6 : decode jdk_29_method_65_code 6 = .ok (.goto 4, 3) := by decide +kernel
theorem own_d2_9 : decode jdk_29_method_65_code 9 = .ok (.iload_n 1, 1) := by decide +kernel
theorem own_d2_10 : decode jdk_29_method_65_code 10 = .ok (.ireturn, 1) := by decide +kernel
def own_f2 (p1 : Int32) (p2 : Int32) : Int32 := (if p1 < p2 then p2 else p1)
set_option maxRecDepth 65536 in
set_option maxHeartbeats 40000000 in
theorem rm2 (l : Launch) (Z : State) (a0 : Array Value) (hw : ∀ d ∈ tables_1, d.before a0 Z = true) (ws : List Jvm.Cond) (p1 : Int32) (p2 : Int32) (h0 : Heap) :
    MetFree l (⟨"java/lang/Math", "max", "(II)I"⟩ : MethodName) (head1 (Jvm.Cond.code (⟨"java/lang/Math", "max", "(II)I"⟩ : MethodName) jdk_29_method_65_code 2 (some .int) :: ws) ({ frames := 0, cells := 0, slots := 0, locals := 0 } : Room)) (fun a U => a = #[.int p1, .int p2] ∧ Z.Warmed39 U.vm ∧ U.heap = h0) (fun _ _ _ _ _ => True) (fun _ U o U' => ∃ v L, o = .returned v ∧ own_P (.int (own_f2 p1 p2)) h0 v U'.heap L ∧ FrameEnd U o U' L ({ frames := 0, cells := 0, slots := 0, locals := 0 } : Room).cells ({ frames := 0, cells := 0, slots := 0, locals := 0 } : Room).slots) := by
  refine MetFree.of_bodySF (by decide +kernel) hisR ?_
  intro p e s m args below meth c s₁ Bd hml0 hP hK
  obtain ⟨rfl, hZ, hh⟩ := hP
  have hx := Bd.exec
  have hby := Bd.bytes
  have hml : c.maxLocals = 2 := hml0
  have hown : s.vm.findClass "java/lang/Math" = some m.cls := findClass_of_methodNamed Bd.named
  have hnm := (name_of_methodNamed Bd.named Bd.method).1
  have hlk : meth.locks = false := BodyLoose.notSynchronized Bd
  have X0 : Stand p l e ({ frames := 0, cells := 0, slots := 0, locals := 0 } : Room) s m #[.int p1, .int p2] below meth c s₁ [] 0 0 := Stand.of_body Bd
  have e0 : s₁.heap = h0 := by rw [← hh, Bd.state]; rfl
  show own_Go p e below (own_E s 0 0 (own_P (.int (own_f2 p1 p2)) h0)) (s₁.setTop (entryFrame m #[.int p1, .int p2] 2))
  rw [own_ef2]
  refine own_iloadN X0 hx (hb hby own_d2_0) (q := 1) rfl rfl ?_
  refine own_iloadN X0 hx (hb hby own_d2_1) (q := 2) rfl rfl ?_
  refine own_icmpP X0 hx (hb hby own_d2_2) (cd := .lt) (x := p1) (y := p2) (pt := 9) (q := 5) (by decide) (by decide) rfl rfl (fun (c1 : p1 < p2) => ?_) (fun (c1 : ¬ (p1 < p2)) => ?_)
  · refine own_iloadN X0 hx (hb hby own_d2_9) (q := 10) rfl rfl ?_
    refine own_retI X0 hx hlk Bd.returns (hb hby own_d2_10) ?_ (by decide) (by decide)
    have r : own_f2 p1 p2 = p2 := by rw [own_f2, if_pos c1]
    exact ⟨by rw [r] <;> rfl, e0, rfl⟩
  · refine own_iloadN X0 hx (hb hby own_d2_5) (q := 6) rfl rfl ?_
    refine own_goto X0 hx (hb hby own_d2_6) (q := 10) (by decide) (by decide) ?_
    refine own_retI X0 hx hlk Bd.returns (hb hby own_d2_10) ?_ (by decide) (by decide)
    have r : own_f2 p1 p2 = p1 := by rw [own_f2, if_neg c1]
    exact ⟨by rw [r] <;> rfl, e0, rfl⟩
theorem own_pn2 : plainName "java/lang/String" = true := by first | (simp [plainName, overriddenIn]; done) | decide +kernel
theorem own_ef11 (m : MethodId) (a1 : Addr) : entryFrame m #[.ref a1] 1 = mkF m 0 #[.val (.ref a1)] [] := by first | (simp [entryFrame, mkF, argsToLocals, Value.category]; done) | rfl
theorem own_d11_0 : decode jdk_42_method_152_code 0 = .ok (.getstatic 38, 3) := by decide +kernel
theorem own_d11_3 : decode jdk_42_method_152_code 3 = .ok (.ifCond .eq 10, 3) := by decide +kernel
theorem own_d11_6 : decode jdk_42_method_152_code 6 = .ok (.aload_n 0, 1) := by decide +kernel
theorem own_d11_7 : decode jdk_42_method_152_code 7 = .ok (.getfield 15, 3) := by decide +kernel
theorem own_d11_10 : decode jdk_42_method_152_code 10 = .ok (.goto 4, 3) := by decide +kernel
theorem own_d11_14 : decode jdk_42_method_152_code 14 = .ok (.ireturn, 1) := by decide +kernel
def own_f11 (cs : Int32) : Int32 := (0 : Int32)
set_option maxRecDepth 65536 in
set_option maxHeartbeats 40000000 in
theorem rm11 (l : Launch) (Z : State) (a0 : Array Value) (hw : ∀ d ∈ tables_1, d.before a0 Z = true) (ws : List Jvm.Cond) (a1 : Addr) (cs : Int32) (h0 : Heap) (S0p : Sta Z h0 "java/lang/String" "COMPACT_STRINGS" "Z" (.int cs)) (F1p : Fld Z h0 a1 "java/lang/String" "coder" "B" (.int (0 : Int32))) (P0 : ¬ cs = 0) :
    MetFree l (⟨"java/lang/String", "coder", "()B"⟩ : MethodName) (head1 (Jvm.Cond.code (⟨"java/lang/String", "coder", "()B"⟩ : MethodName) jdk_42_method_152_code 1 (some .byte) :: ws) ({ frames := 0, cells := 0, slots := 0, locals := 0 } : Room)) (fun a U => a = #[.ref a1] ∧ Z.Warmed39 U.vm ∧ U.heap = h0) (fun _ _ _ _ _ => True) (fun _ U o U' => ∃ v L, o = .returned v ∧ own_P (.int (own_f11 cs)) h0 v U'.heap L ∧ FrameEnd U o U' L ({ frames := 0, cells := 0, slots := 0, locals := 0 } : Room).cells ({ frames := 0, cells := 0, slots := 0, locals := 0 } : Room).slots) := by
  refine MetFree.of_bodySF (plainFor_of_name own_pn2) hisR ?_
  intro p e s m args below meth c s₁ Bd hml0 hP hK
  obtain ⟨rfl, hZ, hh⟩ := hP
  have hx := Bd.exec
  have hby := Bd.bytes
  have hml : c.maxLocals = 1 := hml0
  have hown : s.vm.findClass "java/lang/String" = some m.cls := findClass_of_methodNamed Bd.named
  have hnm := (name_of_methodNamed Bd.named Bd.method).1
  have hlk : meth.locks = false := BodyLoose.notSynchronized Bd
  have X0 : Stand p l e ({ frames := 0, cells := 0, slots := 0, locals := 0 } : Room) s m #[.ref a1] below meth c s₁ [] 0 0 := Stand.of_body Bd
  have e0 : s₁.heap = h0 := by rw [← hh, Bd.state]; rfl
  show own_Go p e below (own_E s 0 0 (own_P (.int (own_f11 cs)) h0)) (s₁.setTop (entryFrame m #[.ref a1] 1))
  rw [own_ef11]
  refine own_getS X0 hx hZ hown (hw _ (List.mem_of_getElem? (i := 22) rfl)) Via.refl e0 S0p (hb hby own_d11_0) (q := 3) rfl (fun T1 X2 e3 => ?_)
  refine own_if0P X2 hx (hb hby own_d11_3) (cd := .eq) (x := cs) (pt := 13) (q := 6) (by decide) (by decide) rfl rfl (fun h => False.elim ((P0 : ¬ (cs = (0 : Int32))) h)) (fun _ => ?_)
  refine own_aloadN X2 hx (hb hby own_d11_6) (q := 7) rfl rfl rfl ?_
  refine own_getF X2 hx hZ hown (host := "") (Or.inl (hw _ (List.mem_of_getElem? (i := 34) rfl))) Via.refl e3 F1p (hb hby own_d11_7) (q := 10) rfl (fun T4 X5 e6 => ?_)
  refine own_goto X5 hx (hb hby own_d11_10) (q := 14) (by decide) (by decide) ?_
  refine own_retN X5 hx hlk (t := .byte) (by simp) Bd.returns (hb hby own_d11_14) ?_ (by decide) (by decide)
  have r : own_f11 cs = (0 : Int32) := by rw [own_f11]
  exact ⟨by rw [r] <;> rfl, e6, rfl⟩
theorem own_pd0 : parseMethodDescriptor "()B" = some ⟨[], some .byte⟩ := by decide +kernel
theorem own_ef10 (m : MethodId) (a1 : Addr) : entryFrame m #[.ref a1] 1 = mkF m 0 #[.val (.ref a1)] [] := by first | (simp [entryFrame, mkF, argsToLocals, Value.category]; done) | rfl
theorem own_d10_0 : decode jdk_42_method_54_code 0 = .ok (.aload_n 0, 1) := by decide +kernel
theorem own_d10_1 : decode jdk_42_method_54_code 1 = .ok (.getfield 9, 3) := by decide +kernel
theorem own_d10_4 : decode jdk_42_method_54_code 4 = .ok (.arraylength, 1) := by decide +kernel
theorem own_d10_5 : decode jdk_42_method_54_code 5 = .ok (.aload_n 0, 1) := by decide +kernel
theorem own_d10_6 : decode jdk_42_method_54_code 6 = .ok (.invokevirtual 335, 3) := by decide +kernel
theorem own_d10_9 : decode jdk_42_method_54_code 9 = .ok (.ishr, 1) := by decide +kernel
theorem own_d10_10 : decode jdk_42_method_54_code 10 = .ok (.ireturn, 1) := by decide +kernel
def own_f10 (cs : Int32) (b1 : Addr) (u0 : Int32) (u1 : Int32) (u2 : Int32) (u3 : Int32) : Int32 := (4 : Int32)
set_option maxRecDepth 65536 in
set_option maxHeartbeats 40000000 in
theorem rm10 (l : Launch) (Z : State) (a0 : Array Value) (hw : ∀ d ∈ tables_1, d.before a0 Z = true) (ws : List Jvm.Cond) (a1 : Addr) (cs : Int32) (b1 : Addr) (u0 : Int32) (u1 : Int32) (u2 : Int32) (u3 : Int32) (h0 : Heap) (S0p : Sta Z h0 "java/lang/String" "COMPACT_STRINGS" "Z" (.int cs)) (E1p : Exa Z h0 a1 "java/lang/String") (F2p : Fld Z h0 a1 "java/lang/String" "value" "[B" (.ref b1)) (F3p : Fld Z h0 a1 "java/lang/String" "coder" "B" (.int (0 : Int32))) (V4p : own_A Z h0 b1 .byte [.int u0, .int u1, .int u2, .int u3]) (P0 : ¬ cs = 0) :
    MetFree l (⟨"java/lang/String", "length", "()I"⟩ : MethodName) (head1 (Jvm.Cond.code (⟨"java/lang/String", "length", "()I"⟩ : MethodName) jdk_42_method_54_code 1 (some .int) :: ws) ({ frames := 1, cells := 0, slots := 0, locals := 13 } : Room)) (fun a U => a = #[.ref a1] ∧ Z.Warmed39 U.vm ∧ U.heap = h0) (fun _ _ _ _ _ => True) (fun _ U o U' => ∃ v L, o = .returned v ∧ own_P (.int (own_f10 cs b1 u0 u1 u2 u3)) h0 v U'.heap L ∧ FrameEnd U o U' L ({ frames := 1, cells := 0, slots := 0, locals := 13 } : Room).cells ({ frames := 1, cells := 0, slots := 0, locals := 13 } : Room).slots) := by
  refine MetFree.of_bodySF (plainFor_of_name own_pn2) hisR ?_
  intro p e s m args below meth c s₁ Bd hml0 hP hK
  obtain ⟨rfl, hZ, hh⟩ := hP
  have hx := Bd.exec
  have hby := Bd.bytes
  have hml : c.maxLocals = 1 := hml0
  have hown : s.vm.findClass "java/lang/String" = some m.cls := findClass_of_methodNamed Bd.named
  have hnm := (name_of_methodNamed Bd.named Bd.method).1
  have hlk : meth.locks = false := BodyLoose.notSynchronized Bd
  have X0 : Stand p l e ({ frames := 1, cells := 0, slots := 0, locals := 13 } : Room) s m #[.ref a1] below meth c s₁ [] 0 0 := Stand.of_body Bd
  have e0 : s₁.heap = h0 := by rw [← hh, Bd.state]; rfl
  show own_Go p e below (own_E s 0 0 (own_P (.int (own_f10 cs b1 u0 u1 u2 u3)) h0)) (s₁.setTop (entryFrame m #[.ref a1] 1))
  rw [own_ef10]
  refine own_aloadN X0 hx (hb hby own_d10_0) (q := 1) rfl rfl rfl ?_
  refine own_getF X0 hx hZ hown (host := "") (Or.inl (hw _ (List.mem_of_getElem? (i := 36) rfl))) Via.refl e0 F2p (hb hby own_d10_1) (q := 4) rfl (fun T7 X8 e9 => ?_)
  refine own_alen X8 hx hZ (n := (4 : Int32)) e9 V4p rfl (hb hby own_d10_4) (q := 5) rfl ?_
  refine own_aloadN X8 hx (hb hby own_d10_5) (q := 6) rfl rfl rfl ?_
  refine own_callVP X8 hx hZ hown (hw _ (List.mem_of_getElem? (i := 50) rfl)) (hw _ (List.mem_of_getElem? (i := 51) rfl)) (hw _ (List.mem_of_getElem? (i := 53) rfl)) (hw _ (List.mem_of_getElem? (i := 53) rfl)) (hw _ (List.mem_of_getElem? (i := 52) rfl)) (hw _ (List.mem_of_getElem? (i := 11) rfl)) (hw _ (List.mem_of_getElem? (i := 54) rfl)) E1p (by decide) (rm11 l Z a0 hw [] a1 cs h0 S0p F3p P0) own_pd0 rfl e9 (by rw [hml]; rfl) (argsL := []) (st := [.int (4 : Int32)]) rfl (W := 1) (Nat.le_of_eq rfl) (by decide) (by decide) (by decide) (by decide) (hb hby own_d10_6) (q := 9) rfl (fun T10 X11 e12 => ?_)
  rw [show (own_f11 cs : Int32) = (0 : Int32) from rfl]
  refine own_ishr X11 hx (hb hby own_d10_9) (q := 10) rfl ?_
  rw [show ((4 : Int32) >>> ((0 : Int32) &&& 31) : Int32) = (4 : Int32) from by decide]
  refine own_retI X11 hx hlk Bd.returns (hb hby own_d10_10) ?_ (by decide) (by decide)
  have r : own_f10 cs b1 u0 u1 u2 u3 = (4 : Int32) := by rw [own_f10]
  exact ⟨by rw [r] <;> rfl, e12, rfl⟩
theorem own_pn5 : plainName "jdk/internal/util/Preconditions" = true := by first | (simp [plainName, overriddenIn]; done) | decide +kernel
theorem own_ef19_null (m : MethodId) (p1 : Int32) (p2 : Int32) : entryFrame m #[.int p1, .int p2, .null] 3 = mkF m 0 #[.val (.int p1), .val (.int p2), .val .null] [] := by first | (simp [entryFrame, mkF, argsToLocals, Value.category]; done) | rfl
theorem own_d19_0 : decode jdk_41_method_11_code 0 = .ok (.iload_n 0, 1) := by decide +kernel
theorem own_d19_1 : decode jdk_41_method_11_code 1 = .ok (.ifCond .lt 8, 3) := by decide +kernel
theorem own_d19_4 : decode jdk_41_method_11_code 4 = .ok (.iload_n 0, 1) := by decide +kernel
theorem own_d19_5 : decode jdk_41_method_11_code 5 = .ok (.iload_n 1, 1) := by decide +kernel
theorem own_d19_6 : decode jdk_41_method_11_code 6 = .ok (.if_icmp .lt 10, 3) := by decide +kernel
theorem own_d19_16 : decode jdk_41_method_11_code 16 = .ok (.iload_n 0, 1) := by decide +kernel
theorem own_d19_17 : decode jdk_41_method_11_code 17 = .ok (.ireturn, 1) := by decide +kernel
def own_f19_n (p1 : Int32) (p2 : Int32) : Int32 := p1
set_option maxRecDepth 65536 in
set_option maxHeartbeats 40000000 in
theorem rm19_n (l : Launch) (Z : State) (a0 : Array Value) (hw : ∀ d ∈ tables_1, d.before a0 Z = true) (ws : List Jvm.Cond) (p1 : Int32) (p2 : Int32) (h0 : Heap)  (P1 : ¬ p1 < 0) (P2 : p1 < p2) :
    MetFree l (⟨"jdk/internal/util/Preconditions", "checkIndex", "(IILjava/util/function/BiFunction;)I"⟩ : MethodName) (head1 (Jvm.Cond.code (⟨"jdk/internal/util/Preconditions", "checkIndex", "(IILjava/util/function/BiFunction;)I"⟩ : MethodName) jdk_41_method_11_code 3 (some .int) :: ws) ({ frames := 0, cells := 0, slots := 0, locals := 0 } : Room)) (fun a U => a = #[.int p1, .int p2, .null] ∧ Z.Warmed39 U.vm ∧ U.heap = h0) (fun _ _ _ _ _ => True) (fun _ U o U' => ∃ v L, o = .returned v ∧ own_P (.int (own_f19_n p1 p2)) h0 v U'.heap L ∧ FrameEnd U o U' L ({ frames := 0, cells := 0, slots := 0, locals := 0 } : Room).cells ({ frames := 0, cells := 0, slots := 0, locals := 0 } : Room).slots) := by
  refine MetFree.of_bodySF (plainFor_of_name own_pn5) hisR ?_
  intro p e s m args below meth c s₁ Bd hml0 hP hK
  obtain ⟨rfl, hZ, hh⟩ := hP
  have hx := Bd.exec
  have hby := Bd.bytes
  have hml : c.maxLocals = 3 := hml0
  have hown : s.vm.findClass "jdk/internal/util/Preconditions" = some m.cls := findClass_of_methodNamed Bd.named
  have hnm := (name_of_methodNamed Bd.named Bd.method).1
  have hlk : meth.locks = false := BodyLoose.notSynchronized Bd
  have X0 : Stand p l e ({ frames := 0, cells := 0, slots := 0, locals := 0 } : Room) s m #[.int p1, .int p2, .null] below meth c s₁ [] 0 0 := Stand.of_body Bd
  have e0 : s₁.heap = h0 := by rw [← hh, Bd.state]; rfl
  show own_Go p e below (own_E s 0 0 (own_P (.int (own_f19_n p1 p2)) h0)) (s₁.setTop (entryFrame m #[.int p1, .int p2, .null] 3))
  rw [own_ef19_null]
  refine own_iloadN X0 hx (hb hby own_d19_0) (q := 1) rfl rfl ?_
  refine own_if0P X0 hx (hb hby own_d19_1) (cd := .lt) (x := p1) (pt := 9) (q := 4) (by decide) (by decide) rfl rfl (fun h => False.elim ((P1 : ¬ (p1 < (0 : Int32))) h)) (fun _ => ?_)
  refine own_iloadN X0 hx (hb hby own_d19_4) (q := 5) rfl rfl ?_
  refine own_iloadN X0 hx (hb hby own_d19_5) (q := 6) rfl rfl ?_
  refine own_icmpP X0 hx (hb hby own_d19_6) (cd := .lt) (x := p1) (y := p2) (pt := 16) (q := 9) (by decide) (by decide) rfl rfl (fun _ => ?_) (fun h => False.elim (h (P2 : p1 < p2)))
  refine own_iloadN X0 hx (hb hby own_d19_16) (q := 17) rfl rfl ?_
  refine own_retI X0 hx hlk Bd.returns (hb hby own_d19_17) ?_ (by decide) (by decide)
  have r : own_f19_n p1 p2 = p1 := by rw [own_f19_n]
  exact ⟨by rw [r] <;> rfl, e0, rfl⟩
theorem own_ef19 (m : MethodId) (p1 : Int32) (p2 : Int32) (a3 : Addr) : entryFrame m #[.int p1, .int p2, .ref a3] 3 = mkF m 0 #[.val (.int p1), .val (.int p2), .val (.ref a3)] [] := by first | (simp [entryFrame, mkF, argsToLocals, Value.category]; done) | rfl

def own_f19_r (p1 : Int32) (p2 : Int32) : Int32 := p1
set_option maxRecDepth 65536 in
set_option maxHeartbeats 40000000 in
theorem rm19_r (l : Launch) (Z : State) (a0 : Array Value) (hw : ∀ d ∈ tables_1, d.before a0 Z = true) (ws : List Jvm.Cond) (p1 : Int32) (p2 : Int32) (a3 : Addr) (h0 : Heap)  (P1 : ¬ p1 < 0) (P2 : p1 < p2) :
    MetFree l (⟨"jdk/internal/util/Preconditions", "checkIndex", "(IILjava/util/function/BiFunction;)I"⟩ : MethodName) (head1 (Jvm.Cond.code (⟨"jdk/internal/util/Preconditions", "checkIndex", "(IILjava/util/function/BiFunction;)I"⟩ : MethodName) jdk_41_method_11_code 3 (some .int) :: ws) ({ frames := 0, cells := 0, slots := 0, locals := 0 } : Room)) (fun a U => a = #[.int p1, .int p2, .ref a3] ∧ Z.Warmed39 U.vm ∧ U.heap = h0) (fun _ _ _ _ _ => True) (fun _ U o U' => ∃ v L, o = .returned v ∧ own_P (.int (own_f19_r p1 p2)) h0 v U'.heap L ∧ FrameEnd U o U' L ({ frames := 0, cells := 0, slots := 0, locals := 0 } : Room).cells ({ frames := 0, cells := 0, slots := 0, locals := 0 } : Room).slots) := by
  refine MetFree.of_bodySF (plainFor_of_name own_pn5) hisR ?_
  intro p e s m args below meth c s₁ Bd hml0 hP hK
  obtain ⟨rfl, hZ, hh⟩ := hP
  have hx := Bd.exec
  have hby := Bd.bytes
  have hml : c.maxLocals = 3 := hml0
  have hown : s.vm.findClass "jdk/internal/util/Preconditions" = some m.cls := findClass_of_methodNamed Bd.named
  have hnm := (name_of_methodNamed Bd.named Bd.method).1
  have hlk : meth.locks = false := BodyLoose.notSynchronized Bd
  have X0 : Stand p l e ({ frames := 0, cells := 0, slots := 0, locals := 0 } : Room) s m #[.int p1, .int p2, .ref a3] below meth c s₁ [] 0 0 := Stand.of_body Bd
  have e0 : s₁.heap = h0 := by rw [← hh, Bd.state]; rfl
  show own_Go p e below (own_E s 0 0 (own_P (.int (own_f19_r p1 p2)) h0)) (s₁.setTop (entryFrame m #[.int p1, .int p2, .ref a3] 3))
  rw [own_ef19]
  refine own_iloadN X0 hx (hb hby own_d19_0) (q := 1) rfl rfl ?_
  refine own_if0P X0 hx (hb hby own_d19_1) (cd := .lt) (x := p1) (pt := 9) (q := 4) (by decide) (by decide) rfl rfl (fun h => False.elim ((P1 : ¬ (p1 < (0 : Int32))) h)) (fun _ => ?_)
  refine own_iloadN X0 hx (hb hby own_d19_4) (q := 5) rfl rfl ?_
  refine own_iloadN X0 hx (hb hby own_d19_5) (q := 6) rfl rfl ?_
  refine own_icmpP X0 hx (hb hby own_d19_6) (cd := .lt) (x := p1) (y := p2) (pt := 16) (q := 9) (by decide) (by decide) rfl rfl (fun _ => ?_) (fun h => False.elim (h (P2 : p1 < p2)))
  refine own_iloadN X0 hx (hb hby own_d19_16) (q := 17) rfl rfl ?_
  refine own_retI X0 hx hlk Bd.returns (hb hby own_d19_17) ?_ (by decide) (by decide)
  have r : own_f19_r p1 p2 = p1 := by rw [own_f19_r]
  exact ⟨by rw [r] <;> rfl, e0, rfl⟩
theorem own_pd1 : parseMethodDescriptor "(IILjava/util/function/BiFunction;)I" = some ⟨[.int, .int, (.object "java/util/function/BiFunction")], some .int⟩ := by decide +kernel
theorem own_ef18 (m : MethodId) (p1 : Int32) (p2 : Int32) : entryFrame m #[.int p1, .int p2] 2 = mkF m 0 #[.val (.int p1), .val (.int p2)] [] := by first | (simp [entryFrame, mkF, argsToLocals, Value.category]; done) | rfl
theorem own_d18_0 : decode jdk_42_method_155_code 0 = .ok (.iload_n 0, 1) := by decide +kernel
theorem own_d18_1 : decode jdk_42_method_155_code 1 = .ok (.iload_n 1, 1) := by decide +kernel
theorem own_d18_2 : decode jdk_42_method_155_code 2 = .ok (.getstatic 1053, 3) := by decide +kernel
theorem own_d18_5 : decode jdk_42_method_155_code 5 = .ok (.invokestatic 1059, 3) := by decide +kernel
theorem own_d18_8 : decode jdk_42_method_155_code 8 = .ok (.pop, 1) := by decide +kernel
theorem own_d18_9 : decode jdk_42_method_155_code 9 = .ok (.return_, 1) := by decide +kernel
set_option maxRecDepth 65536 in
set_option maxHeartbeats 40000000 in
theorem rm18_n (l : Launch) (Z : State) (a0 : Array Value) (hw : ∀ d ∈ tables_1, d.before a0 Z = true) (ws : List Jvm.Cond) (p1 : Int32) (p2 : Int32) (h0 : Heap) (S0p : Sta Z h0 "jdk/internal/util/Preconditions" "SIOOBE_FORMATTER" "Ljava/util/function/BiFunction;" (.null)) (P1 : ¬ p1 < 0) (P2 : p1 < p2) :
    MetFree l (⟨"java/lang/String", "checkIndex", "(II)V"⟩ : MethodName) (head1 (Jvm.Cond.code (⟨"java/lang/String", "checkIndex", "(II)V"⟩ : MethodName) jdk_42_method_155_code 2 none :: ws) ({ frames := 1, cells := 0, slots := 0, locals := 14 } : Room)) (fun a U => a = #[.int p1, .int p2] ∧ Z.Warmed39 U.vm ∧ U.heap = h0) (fun _ _ _ _ _ => True) (fun _ U o U' => ∃ v L, o = .returned v ∧ own_V h0 v U'.heap L ∧ FrameEnd U o U' L ({ frames := 1, cells := 0, slots := 0, locals := 14 } : Room).cells ({ frames := 1, cells := 0, slots := 0, locals := 14 } : Room).slots) := by
  refine MetFree.of_bodySF (plainFor_of_name own_pn2) hisR ?_
  intro p e s m args below meth c s₁ Bd hml0 hP hK
  obtain ⟨rfl, hZ, hh⟩ := hP
  have hx := Bd.exec
  have hby := Bd.bytes
  have hml : c.maxLocals = 2 := hml0
  have hown : s.vm.findClass "java/lang/String" = some m.cls := findClass_of_methodNamed Bd.named
  have hnm := (name_of_methodNamed Bd.named Bd.method).1
  have hlk : meth.locks = false := BodyLoose.notSynchronized Bd
  have X0 : Stand p l e ({ frames := 1, cells := 0, slots := 0, locals := 14 } : Room) s m #[.int p1, .int p2] below meth c s₁ [] 0 0 := Stand.of_body Bd
  have e0 : s₁.heap = h0 := by rw [← hh, Bd.state]; rfl
  show own_Go p e below (own_E s 0 0 (own_V h0)) (s₁.setTop (entryFrame m #[.int p1, .int p2] 2))
  rw [own_ef18]
  refine own_iloadN X0 hx (hb hby own_d18_0) (q := 1) rfl rfl ?_
  refine own_iloadN X0 hx (hb hby own_d18_1) (q := 2) rfl rfl ?_
  refine own_getS X0 hx hZ hown (hw _ (List.mem_of_getElem? (i := 94) rfl)) Via.refl e0 S0p (hb hby own_d18_2) (q := 5) rfl (fun T13 X14 e15 => ?_)
  refine own_callSP X14 hx hZ hown (hw _ (List.mem_of_getElem? (i := 96) rfl)) (hw _ (List.mem_of_getElem? (i := 97) rfl)) (hw _ (List.mem_of_getElem? (i := 95) rfl)) (hw _ (List.mem_of_getElem? (i := 98) rfl)) (by decide) (rm19_n l Z a0 hw [] p1 p2 h0  P1 P2) own_pd1 rfl e15 (by rw [hml]; rfl) (argsL := [.int p1, .int p2, .null]) (st := []) rfl (W := 0) (Nat.le_of_eq rfl) (by decide) (by decide) (by decide) (by decide) (hb hby own_d18_5) (q := 8) rfl (fun T16 X17 e18 => ?_)
  refine own_pop X17 hx (hb hby own_d18_8) (q := 9) rfl rfl ?_
  refine own_retV X17 hx hlk (rest := []) Bd.returns (hb hby own_d18_9) ?_ (by decide) (by decide)
  exact ⟨rfl, e18, rfl⟩

set_option maxRecDepth 65536 in
set_option maxHeartbeats 40000000 in
theorem rm18_r (l : Launch) (Z : State) (a0 : Array Value) (hw : ∀ d ∈ tables_1, d.before a0 Z = true) (ws : List Jvm.Cond) (p1 : Int32) (p2 : Int32) (g : Addr) (h0 : Heap) (S0p : Sta Z h0 "jdk/internal/util/Preconditions" "SIOOBE_FORMATTER" "Ljava/util/function/BiFunction;" (.ref g)) (P1 : ¬ p1 < 0) (P2 : p1 < p2) :
    MetFree l (⟨"java/lang/String", "checkIndex", "(II)V"⟩ : MethodName) (head1 (Jvm.Cond.code (⟨"java/lang/String", "checkIndex", "(II)V"⟩ : MethodName) jdk_42_method_155_code 2 none :: ws) ({ frames := 1, cells := 0, slots := 0, locals := 14 } : Room)) (fun a U => a = #[.int p1, .int p2] ∧ Z.Warmed39 U.vm ∧ U.heap = h0) (fun _ _ _ _ _ => True) (fun _ U o U' => ∃ v L, o = .returned v ∧ own_V h0 v U'.heap L ∧ FrameEnd U o U' L ({ frames := 1, cells := 0, slots := 0, locals := 14 } : Room).cells ({ frames := 1, cells := 0, slots := 0, locals := 14 } : Room).slots) := by
  refine MetFree.of_bodySF (plainFor_of_name own_pn2) hisR ?_
  intro p e s m args below meth c s₁ Bd hml0 hP hK
  obtain ⟨rfl, hZ, hh⟩ := hP
  have hx := Bd.exec
  have hby := Bd.bytes
  have hml : c.maxLocals = 2 := hml0
  have hown : s.vm.findClass "java/lang/String" = some m.cls := findClass_of_methodNamed Bd.named
  have hnm := (name_of_methodNamed Bd.named Bd.method).1
  have hlk : meth.locks = false := BodyLoose.notSynchronized Bd
  have X0 : Stand p l e ({ frames := 1, cells := 0, slots := 0, locals := 14 } : Room) s m #[.int p1, .int p2] below meth c s₁ [] 0 0 := Stand.of_body Bd
  have e0 : s₁.heap = h0 := by rw [← hh, Bd.state]; rfl
  show own_Go p e below (own_E s 0 0 (own_V h0)) (s₁.setTop (entryFrame m #[.int p1, .int p2] 2))
  rw [own_ef18]
  refine own_iloadN X0 hx (hb hby own_d18_0) (q := 1) rfl rfl ?_
  refine own_iloadN X0 hx (hb hby own_d18_1) (q := 2) rfl rfl ?_
  refine own_getS X0 hx hZ hown (hw _ (List.mem_of_getElem? (i := 94) rfl)) Via.refl e0 S0p (hb hby own_d18_2) (q := 5) rfl (fun T19 X20 e21 => ?_)
  refine own_callSP X20 hx hZ hown (hw _ (List.mem_of_getElem? (i := 96) rfl)) (hw _ (List.mem_of_getElem? (i := 97) rfl)) (hw _ (List.mem_of_getElem? (i := 95) rfl)) (hw _ (List.mem_of_getElem? (i := 98) rfl)) (by decide) (rm19_r l Z a0 hw [] p1 p2 g h0  P1 P2) own_pd1 rfl e21 (by rw [hml]; rfl) (argsL := [.int p1, .int p2, .ref g]) (st := []) rfl (W := 0) (Nat.le_of_eq rfl) (by decide) (by decide) (by decide) (by decide) (hb hby own_d18_5) (q := 8) rfl (fun T22 X23 e24 => ?_)
  refine own_pop X23 hx (hb hby own_d18_8) (q := 9) rfl rfl ?_
  refine own_retV X23 hx hlk (rest := []) Bd.returns (hb hby own_d18_9) ?_ (by decide) (by decide)
  exact ⟨rfl, e24, rfl⟩
theorem rm18 (l : Launch) (Z : State) (a0 : Array Value) (hw : ∀ d ∈ tables_1, d.before a0 Z = true) (ws : List Jvm.Cond) (p1 : Int32) (p2 : Int32) (G : Value) (h0 : Heap) (S0p : Sta Z h0 "jdk/internal/util/Preconditions" "SIOOBE_FORMATTER" "Ljava/util/function/BiFunction;" G) (rG : G.isRef = true) (P1 : ¬ p1 < 0) (P2 : p1 < p2) :
    MetFree l (⟨"java/lang/String", "checkIndex", "(II)V"⟩ : MethodName) (head1 (Jvm.Cond.code (⟨"java/lang/String", "checkIndex", "(II)V"⟩ : MethodName) jdk_42_method_155_code 2 none :: ws) ({ frames := 1, cells := 0, slots := 0, locals := 14 } : Room)) (fun a U => a = #[.int p1, .int p2] ∧ Z.Warmed39 U.vm ∧ U.heap = h0) (fun _ _ _ _ _ => True) (fun _ U o U' => ∃ v L, o = .returned v ∧ own_V h0 v U'.heap L ∧ FrameEnd U o U' L ({ frames := 1, cells := 0, slots := 0, locals := 14 } : Room).cells ({ frames := 1, cells := 0, slots := 0, locals := 14 } : Room).slots) := by
  rcases ref_cases rG with rfl | ⟨g, rfl⟩
  · exact rm18_n l Z a0 hw ws p1 p2 h0 S0p P1 P2
  · exact rm18_r l Z a0 hw ws p1 p2 g h0 S0p P1 P2
theorem own_pd2 : parseMethodDescriptor "(II)V" = some ⟨[.int, .int], none⟩ := by decide +kernel
theorem own_pn9 : plainName "java/lang/StringLatin1" = true := by first | (simp [plainName, overriddenIn]; done) | decide +kernel
theorem own_ef17 (m : MethodId) (a1 : Addr) (p2 : Int32) : entryFrame m #[.ref a1, .int p2] 2 = mkF m 0 #[.val (.ref a1), .val (.int p2)] [] := by first | (simp [entryFrame, mkF, argsToLocals, Value.category]; done) | rfl
theorem own_d17_0 : decode jdk_43_method_2_code 0 = .ok (.iload_n 1, 1) := by decide +kernel
theorem own_d17_1 : decode jdk_43_method_2_code 1 = .ok (.aload_n 0, 1) := by decide +kernel
theorem own_d17_2 : decode jdk_43_method_2_code 2 = .ok (.arraylength, 1) := by decide +kernel
theorem own_d17_3 : decode jdk_43_method_2_code 3 = .ok (.invokestatic 9, 3) := by decide +kernel
theorem own_d17_6 : decode jdk_43_method_2_code 6 = .ok (.aload_n 0, 1) := by decide +kernel
theorem own_d17_7 : decode jdk_43_method_2_code 7 = .ok (.iload_n 1, 1) := by decide +kernel
theorem own_d17_8 : decode jdk_43_method_2_code 8 = .ok (.baload, 1) := by decide +kernel
theorem own_d17_9 : decode jdk_43_method_2_code 9 = .ok (.sipush 255, 3) := by decide +kernel
theorem own_d17_12 : decode jdk_43_method_2_code 12 = .ok (.iand, 1) := by decide +kernel
theorem own_d17_13 : decode jdk_43_method_2_code 13 = .ok (.i2c, 1) := by decide +kernel
theorem own_d17_14 : decode jdk_43_method_2_code 14 = .ok (.ireturn, 1) := by decide +kernel
def own_f17 (p2 : Int32) (G : Value) (u0 : Int32) (u1 : Int32) (u2 : Int32) (u3 : Int32) : Int32 := nar .char (((own_cat u0 u1 u2 u3 p2) &&& (255 : Int32)).toUInt32.toUInt16.toUInt32.toInt32)
set_option maxRecDepth 65536 in
set_option maxHeartbeats 40000000 in
theorem rm17 (l : Launch) (Z : State) (a0 : Array Value) (hw : ∀ d ∈ tables_1, d.before a0 Z = true) (ws : List Jvm.Cond) (a1 : Addr) (p2 : Int32) (G : Value) (u0 : Int32) (u1 : Int32) (u2 : Int32) (u3 : Int32) (h0 : Heap) (S0p : Sta Z h0 "jdk/internal/util/Preconditions" "SIOOBE_FORMATTER" "Ljava/util/function/BiFunction;" (G)) (V1p : own_A Z h0 a1 .byte [.int u0, .int u1, .int u2, .int u3]) (rG : G.isRef = true) (P1 : ¬ p2 < 0) (P2 : p2 < 4) :
    MetFree l (⟨"java/lang/StringLatin1", "charAt", "([BI)C"⟩ : MethodName) (head1 (Jvm.Cond.code (⟨"java/lang/StringLatin1", "charAt", "([BI)C"⟩ : MethodName) jdk_43_method_2_code 2 (some .char) :: ws) ({ frames := 2, cells := 0, slots := 0, locals := 27 } : Room)) (fun a U => a = #[.ref a1, .int p2] ∧ Z.Warmed39 U.vm ∧ U.heap = h0) (fun _ _ _ _ _ => True) (fun _ U o U' => ∃ v L, o = .returned v ∧ own_P (.int (own_f17 p2 G u0 u1 u2 u3)) h0 v U'.heap L ∧ FrameEnd U o U' L ({ frames := 2, cells := 0, slots := 0, locals := 27 } : Room).cells ({ frames := 2, cells := 0, slots := 0, locals := 27 } : Room).slots) := by
  refine MetFree.of_bodySF (plainFor_of_name own_pn9) hisR ?_
  intro p e s m args below meth c s₁ Bd hml0 hP hK
  obtain ⟨rfl, hZ, hh⟩ := hP
  have hx := Bd.exec
  have hby := Bd.bytes
  have hml : c.maxLocals = 2 := hml0
  have hown : s.vm.findClass "java/lang/StringLatin1" = some m.cls := findClass_of_methodNamed Bd.named
  have hnm := (name_of_methodNamed Bd.named Bd.method).1
  have hlk : meth.locks = false := BodyLoose.notSynchronized Bd
  have X0 : Stand p l e ({ frames := 2, cells := 0, slots := 0, locals := 27 } : Room) s m #[.ref a1, .int p2] below meth c s₁ [] 0 0 := Stand.of_body Bd
  have e0 : s₁.heap = h0 := by rw [← hh, Bd.state]; rfl
  show own_Go p e below (own_E s 0 0 (own_P (.int (own_f17 p2 G u0 u1 u2 u3)) h0)) (s₁.setTop (entryFrame m #[.ref a1, .int p2] 2))
  rw [own_ef17]
  refine own_iloadN X0 hx (hb hby own_d17_0) (q := 1) rfl rfl ?_
  refine own_aloadN X0 hx (hb hby own_d17_1) (q := 2) rfl rfl rfl ?_
  refine own_alen X0 hx hZ (n := (4 : Int32)) e0 V1p rfl (hb hby own_d17_2) (q := 3) rfl ?_
  refine own_callSV X0 hx hZ hown (hw _ (List.mem_of_getElem? (i := 91) rfl)) (hw _ (List.mem_of_getElem? (i := 92) rfl)) (hw _ (List.mem_of_getElem? (i := 11) rfl)) (hw _ (List.mem_of_getElem? (i := 93) rfl)) (by decide) (rm18 l Z a0 hw [] p2 (4 : Int32) G h0 S0p rG P1 P2) own_pd2 rfl e0 (by rw [hml]; rfl) (argsL := [.int p2, .int (4 : Int32)]) (st := []) rfl (W := 0) (Nat.le_of_eq rfl) (by decide) (by decide) (by decide) (by decide) (hb hby own_d17_3) (q := 6) rfl (fun T28 X29 e30 => ?_)
  refine own_aloadN X29 hx (hb hby own_d17_6) (q := 7) rfl rfl rfl ?_
  refine own_iloadN X29 hx (hb hby own_d17_7) (q := 8) rfl rfl ?_
  refine own_baload X29 hx hZ (i := (p2).toNatClampNeg) (v := .int (own_cat u0 u1 u2 u3 p2)) e30 V1p P1 rfl (own_catV P1 P2) (hb hby own_d17_8) (q := 9) rfl ?_
  refine own_sipush X29 hx (v := (255 : Int32)) (hb hby own_d17_9) (q := 12) rfl rfl ?_
  refine own_iand X29 hx (hb hby own_d17_12) (q := 13) rfl ?_
  refine own_i2c X29 hx (hb hby own_d17_13) (q := 14) rfl ?_
  refine own_retN X29 hx hlk (t := .char) (by simp) Bd.returns (hb hby own_d17_14) ?_ (by decide) (by decide)
  have r : own_f17 p2 G u0 u1 u2 u3 = nar .char (((own_cat u0 u1 u2 u3 p2) &&& (255 : Int32)).toUInt32.toUInt16.toUInt32.toInt32) := by rw [own_f17]
  exact ⟨by rw [r] <;> rfl, e30, rfl⟩
theorem own_ef16 (m : MethodId) (a1 : Addr) : entryFrame m #[.ref a1] 1 = mkF m 0 #[.val (.ref a1)] [] := by first | (simp [entryFrame, mkF, argsToLocals, Value.category]; done) | rfl
theorem own_d16_0 : decode jdk_42_method_154_code 0 = .ok (.getstatic 38, 3) := by decide +kernel
theorem own_d16_3 : decode jdk_42_method_154_code 3 = .ok (.ifCond .eq 14, 3) := by decide +kernel
theorem own_d16_6 : decode jdk_42_method_154_code 6 = .ok (.aload_n 0, 1) := by decide +kernel
theorem own_d16_7 : decode jdk_42_method_154_code 7 = .ok (.getfield 15, 3) := by decide +kernel
theorem own_d16_10 : decode jdk_42_method_154_code 10 = .ok (.ifCond .ne 7, 3) := by decide +kernel
theorem own_d16_13 : decode jdk_42_method_154_code 13 = .ok (.iconst 1, 1) := by decide +kernel
theorem own_d16_14 : decode jdk_42_method_154_code 14 = .ok (.goto 4, 3) := by decide +kernel
theorem own_d16_18 : decode jdk_42_method_154_code 18 = .ok (.ireturn, 1) := by decide +kernel
def own_f16 (cs : Int32) : Int32 := (1 : Int32)
set_option maxRecDepth 65536 in
set_option maxHeartbeats 40000000 in
theorem rm16 (l : Launch) (Z : State) (a0 : Array Value) (hw : ∀ d ∈ tables_1, d.before a0 Z = true) (ws : List Jvm.Cond) (a1 : Addr) (cs : Int32) (h0 : Heap) (S0p : Sta Z h0 "java/lang/String" "COMPACT_STRINGS" "Z" (.int cs)) (F1p : Fld Z h0 a1 "java/lang/String" "coder" "B" (.int (0 : Int32))) (P0 : ¬ cs = 0) :
    MetFree l (⟨"java/lang/String", "isLatin1", "()Z"⟩ : MethodName) (head1 (Jvm.Cond.code (⟨"java/lang/String", "isLatin1", "()Z"⟩ : MethodName) jdk_42_method_154_code 1 (some .boolean) :: ws) ({ frames := 0, cells := 0, slots := 0, locals := 0 } : Room)) (fun a U => a = #[.ref a1] ∧ Z.Warmed39 U.vm ∧ U.heap = h0) (fun _ _ _ _ _ => True) (fun _ U o U' => ∃ v L, o = .returned v ∧ own_P (.int (own_f16 cs)) h0 v U'.heap L ∧ FrameEnd U o U' L ({ frames := 0, cells := 0, slots := 0, locals := 0 } : Room).cells ({ frames := 0, cells := 0, slots := 0, locals := 0 } : Room).slots) := by
  refine MetFree.of_bodySF (plainFor_of_name own_pn2) hisR ?_
  intro p e s m args below meth c s₁ Bd hml0 hP hK
  obtain ⟨rfl, hZ, hh⟩ := hP
  have hx := Bd.exec
  have hby := Bd.bytes
  have hml : c.maxLocals = 1 := hml0
  have hown : s.vm.findClass "java/lang/String" = some m.cls := findClass_of_methodNamed Bd.named
  have hnm := (name_of_methodNamed Bd.named Bd.method).1
  have hlk : meth.locks = false := BodyLoose.notSynchronized Bd
  have X0 : Stand p l e ({ frames := 0, cells := 0, slots := 0, locals := 0 } : Room) s m #[.ref a1] below meth c s₁ [] 0 0 := Stand.of_body Bd
  have e0 : s₁.heap = h0 := by rw [← hh, Bd.state]; rfl
  show own_Go p e below (own_E s 0 0 (own_P (.int (own_f16 cs)) h0)) (s₁.setTop (entryFrame m #[.ref a1] 1))
  rw [own_ef16]
  refine own_getS X0 hx hZ hown (hw _ (List.mem_of_getElem? (i := 22) rfl)) Via.refl e0 S0p (hb hby own_d16_0) (q := 3) rfl (fun T31 X32 e33 => ?_)
  refine own_if0P X32 hx (hb hby own_d16_3) (cd := .eq) (x := cs) (pt := 17) (q := 6) (by decide) (by decide) rfl rfl (fun h => False.elim ((P0 : ¬ (cs = (0 : Int32))) h)) (fun _ => ?_)
  refine own_aloadN X32 hx (hb hby own_d16_6) (q := 7) rfl rfl rfl ?_
  refine own_getF X32 hx hZ hown (host := "") (Or.inl (hw _ (List.mem_of_getElem? (i := 34) rfl))) Via.refl e33 F1p (hb hby own_d16_7) (q := 10) rfl (fun T34 X35 e36 => ?_)
  refine own_if0M X35 hx (hb hby own_d16_10) (cd := .ne) (x := (0 : Int32)) (pt := 17) (q := 13) (by decide) (by decide) rfl rfl (fun h => False.elim (h ((by decide) : (0 : Int32) = (0 : Int32)))) (fun _ => ?_)
  refine own_iconst X35 hx (v := (1 : Int32)) (hb hby own_d16_13) (q := 14) rfl rfl ?_
  refine own_goto X35 hx (hb hby own_d16_14) (q := 18) (by decide) (by decide) ?_
  refine own_retN X35 hx hlk (t := .boolean) (by simp) Bd.returns (hb hby own_d16_18) ?_ (by decide) (by decide)
  have r : own_f16 cs = (1 : Int32) := by rw [own_f16]
  exact ⟨by rw [r] <;> rfl, e36, rfl⟩
theorem own_pd3 : parseMethodDescriptor "()Z" = some ⟨[], some .boolean⟩ := by decide +kernel
theorem own_pd4 : parseMethodDescriptor "([BI)C" = some ⟨[(.array .byte), .int], some .char⟩ := by decide +kernel
theorem own_ef15 (m : MethodId) (a1 : Addr) (p2 : Int32) : entryFrame m #[.ref a1, .int p2] 2 = mkF m 0 #[.val (.ref a1), .val (.int p2)] [] := by first | (simp [entryFrame, mkF, argsToLocals, Value.category]; done) | rfl
theorem own_d15_0 : decode jdk_42_method_56_code 0 = .ok (.aload_n 0, 1) := by decide +kernel
theorem own_d15_1 : decode jdk_42_method_56_code 1 = .ok (.invokevirtual 492, 3) := by decide +kernel
theorem own_d15_4 : decode jdk_42_method_56_code 4 = .ok (.ifCond .eq 12, 3) := by decide +kernel
theorem own_d15_7 : decode jdk_42_method_56_code 7 = .ok (.aload_n 0, 1) := by decide +kernel
theorem own_d15_8 : decode jdk_42_method_56_code 8 = .ok (.getfield 9, 3) := by decide +kernel
theorem own_d15_11 : decode jdk_42_method_56_code 11 = .ok (.iload_n 1, 1) := by decide +kernel
theorem own_d15_12 : decode jdk_42_method_56_code 12 = .ok (.invokestatic 495, 3) := by decide +kernel
theorem own_d15_15 : decode jdk_42_method_56_code 15 = .ok (.ireturn, 1) := by decide +kernel
def own_f15 (p2 : Int32) (cs : Int32) (G : Value) (b1 : Addr) (u0 : Int32) (u1 : Int32) (u2 : Int32) (u3 : Int32) : Int32 := nar .char (own_f17 p2 G u0 u1 u2 u3)
set_option maxRecDepth 65536 in
set_option maxHeartbeats 40000000 in
theorem rm15 (l : Launch) (Z : State) (a0 : Array Value) (hw : ∀ d ∈ tables_1, d.before a0 Z = true) (ws : List Jvm.Cond) (a1 : Addr) (p2 : Int32) (cs : Int32) (G : Value) (b1 : Addr) (u0 : Int32) (u1 : Int32) (u2 : Int32) (u3 : Int32) (h0 : Heap) (S0p : Sta Z h0 "java/lang/String" "COMPACT_STRINGS" "Z" (.int cs)) (S1p : Sta Z h0 "jdk/internal/util/Preconditions" "SIOOBE_FORMATTER" "Ljava/util/function/BiFunction;" (G)) (E2p : Exa Z h0 a1 "java/lang/String") (F3p : Fld Z h0 a1 "java/lang/String" "value" "[B" (.ref b1)) (F4p : Fld Z h0 a1 "java/lang/String" "coder" "B" (.int (0 : Int32))) (V5p : own_A Z h0 b1 .byte [.int u0, .int u1, .int u2, .int u3]) (P0 : ¬ cs = 0) (rG : G.isRef = true) (P1 : ¬ p2 < 0) (P2 : p2 < 4) :
    MetFree l (⟨"java/lang/String", "charAt", "(I)C"⟩ : MethodName) (head1 (Jvm.Cond.code (⟨"java/lang/String", "charAt", "(I)C"⟩ : MethodName) jdk_42_method_56_code 2 (some .char) :: ws) ({ frames := 3, cells := 0, slots := 0, locals := 40 } : Room)) (fun a U => a = #[.ref a1, .int p2] ∧ Z.Warmed39 U.vm ∧ U.heap = h0) (fun _ _ _ _ _ => True) (fun _ U o U' => ∃ v L, o = .returned v ∧ own_P (.int (own_f15 p2 cs G b1 u0 u1 u2 u3)) h0 v U'.heap L ∧ FrameEnd U o U' L ({ frames := 3, cells := 0, slots := 0, locals := 40 } : Room).cells ({ frames := 3, cells := 0, slots := 0, locals := 40 } : Room).slots) := by
  refine MetFree.of_bodySF (plainFor_of_name own_pn2) hisR ?_
  intro p e s m args below meth c s₁ Bd hml0 hP hK
  obtain ⟨rfl, hZ, hh⟩ := hP
  have hx := Bd.exec
  have hby := Bd.bytes
  have hml : c.maxLocals = 2 := hml0
  have hown : s.vm.findClass "java/lang/String" = some m.cls := findClass_of_methodNamed Bd.named
  have hnm := (name_of_methodNamed Bd.named Bd.method).1
  have hlk : meth.locks = false := BodyLoose.notSynchronized Bd
  have X0 : Stand p l e ({ frames := 3, cells := 0, slots := 0, locals := 40 } : Room) s m #[.ref a1, .int p2] below meth c s₁ [] 0 0 := Stand.of_body Bd
  have e0 : s₁.heap = h0 := by rw [← hh, Bd.state]; rfl
  show own_Go p e below (own_E s 0 0 (own_P (.int (own_f15 p2 cs G b1 u0 u1 u2 u3)) h0)) (s₁.setTop (entryFrame m #[.ref a1, .int p2] 2))
  rw [own_ef15]
  refine own_aloadN X0 hx (hb hby own_d15_0) (q := 1) rfl rfl rfl ?_
  refine own_callVP X0 hx hZ hown (hw _ (List.mem_of_getElem? (i := 82) rfl)) (hw _ (List.mem_of_getElem? (i := 83) rfl)) (hw _ (List.mem_of_getElem? (i := 85) rfl)) (hw _ (List.mem_of_getElem? (i := 85) rfl)) (hw _ (List.mem_of_getElem? (i := 84) rfl)) (hw _ (List.mem_of_getElem? (i := 11) rfl)) (hw _ (List.mem_of_getElem? (i := 86) rfl)) E2p (by decide) (rm16 l Z a0 hw [] a1 cs h0 S0p F4p P0) own_pd3 rfl e0 (by rw [hml]; rfl) (argsL := []) (st := []) rfl (W := 0) (Nat.le_of_eq rfl) (by decide) (by decide) (by decide) (by decide) (hb hby own_d15_1) (q := 4) rfl (fun T37 X38 e39 => ?_)
  rw [show (own_f16 cs : Int32) = (1 : Int32) from rfl]
  refine own_if0P X38 hx (hb hby own_d15_4) (cd := .eq) (x := (1 : Int32)) (pt := 16) (q := 7) (by decide) (by decide) rfl rfl (fun h => False.elim (((by decide) : ¬ ((1 : Int32) = (0 : Int32))) h)) (fun _ => ?_)
  refine own_aloadN X38 hx (hb hby own_d15_7) (q := 8) rfl rfl rfl ?_
  refine own_getF X38 hx hZ hown (host := "") (Or.inl (hw _ (List.mem_of_getElem? (i := 36) rfl))) Via.refl e39 F3p (hb hby own_d15_8) (q := 11) rfl (fun T40 X41 e42 => ?_)
  refine own_iloadN X41 hx (hb hby own_d15_11) (q := 12) rfl rfl ?_
  refine own_callSP X41 hx hZ hown (hw _ (List.mem_of_getElem? (i := 87) rfl)) (hw _ (List.mem_of_getElem? (i := 88) rfl)) (hw _ (List.mem_of_getElem? (i := 89) rfl)) (hw _ (List.mem_of_getElem? (i := 90) rfl)) (by decide) (rm17 l Z a0 hw [] b1 p2 G u0 u1 u2 u3 h0 S1p V5p rG P1 P2) own_pd4 rfl e42 (by rw [hml]; rfl) (argsL := [.ref b1, .int p2]) (st := []) rfl (W := 0) (Nat.le_of_eq rfl) (by decide) (by decide) (by decide) (by decide) (hb hby own_d15_12) (q := 15) rfl (fun T43 X44 e45 => ?_)
  refine own_retN X44 hx hlk (t := .char) (by simp) Bd.returns (hb hby own_d15_15) ?_ (by decide) (by decide)
  have r : own_f15 p2 cs G b1 u0 u1 u2 u3 = nar .char (own_f17 p2 G u0 u1 u2 u3) := by rw [own_f15]
  exact ⟨by rw [r] <;> rfl, e45, rfl⟩
theorem own_pd5 : parseMethodDescriptor "()I" = some ⟨[], some .int⟩ := by decide +kernel
theorem own_pn13 : plainName "com/example/tisza/tisza/tree/TextScanner" = true := by first | (simp [plainName, overriddenIn]; done) | decide +kernel
theorem own_ef9 (m : MethodId) (a1 : Addr) (a2 : Addr) (p3 : Int32) (p4 : Int32) (p5 : Int32) : entryFrame m #[.ref a1, .ref a2, .int p3, .int p4, .int p5] 5 = mkF m 0 #[.val (.ref a1), .val (.ref a2), .val (.int p3), .val (.int p4), .val (.int p5)] [] := by first | (simp [entryFrame, mkF, argsToLocals, Value.category]; done) | rfl
theorem own_d9_0 : decode prog_129_method_1_code 0 = .ok (.aload_n 0, 1) := by decide +kernel
theorem own_d9_1 : decode prog_129_method_1_code 1 = .ok (.invokespecial 1, 3) := by decide +kernel
theorem own_d9_4 : decode prog_129_method_1_code 4 = .ok (.iload_n 2, 1) := by decide +kernel
theorem own_d9_5 : decode prog_129_method_1_code 5 = .ok (.ifCond .lt 16, 3) := by decide +kernel
theorem own_d9_8 : decode prog_129_method_1_code 8 = .ok (.iload_n 2, 1) := by decide +kernel
theorem own_d9_9 : decode prog_129_method_1_code 9 = .ok (.iload_n 3, 1) := by decide +kernel
theorem own_d9_10 : decode prog_129_method_1_code 10 = .ok (.if_icmp .gt 11, 3) := by decide +kernel
theorem own_d9_13 : decode prog_129_method_1_code 13 = .ok (.iload_n 3, 1) := by decide +kernel
theorem own_d9_14 : decode prog_129_method_1_code 14 = .ok (.aload_n 1, 1) := by decide +kernel
theorem own_d9_15 : decode prog_129_method_1_code 15 = .ok (.invokevirtual 7, 3) := by decide +kernel
theorem own_d9_18 : decode prog_129_method_1_code 18 = .ok (.if_icmp .le 22, 3) := by decide +kernel
theorem own_d9_40 : decode prog_129_method_1_code 40 = .ok (.aload_n 0, 1) := by decide +kernel
theorem own_d9_41 : decode prog_129_method_1_code 41 = .ok (.aload_n 1, 1) := by decide +kernel
theorem own_d9_42 : decode prog_129_method_1_code 42 = .ok (.putfield 22, 3) := by decide +kernel
theorem own_d9_45 : decode prog_129_method_1_code 45 = .ok (.aload_n 0, 1) := by decide +kernel
theorem own_d9_46 : decode prog_129_method_1_code 46 = .ok (.iload_n 3, 1) := by decide +kernel
theorem own_d9_47 : decode prog_129_method_1_code 47 = .ok (.putfield 28, 3) := by decide +kernel
theorem own_d9_50 : decode prog_129_method_1_code 50 = .ok (.aload_n 0, 1) := by decide +kernel
theorem own_d9_51 : decode prog_129_method_1_code 51 = .ok (.iload_n 2, 1) := by decide +kernel
theorem own_d9_52 : decode prog_129_method_1_code 52 = .ok (.putfield 32, 3) := by decide +kernel
theorem own_d9_55 : decode prog_129_method_1_code 55 = .ok (.aload_n 0, 1) := by decide +kernel
theorem own_d9_56 : decode prog_129_method_1_code 56 = .ok (.iload 4, 2) := by decide +kernel
theorem own_d9_58 : decode prog_129_method_1_code 58 = .ok (.putfield 35, 3) := by decide +kernel
theorem own_d9_61 : decode prog_129_method_1_code 61 = .ok (.return_, 1) := by decide +kernel
def own_Q9 (Z : State) (a1 : Addr) (a2 : Addr) (p3 : Int32) (p4 : Int32) (p5 : Int32) (cs : Int32) (b2 : Addr) (u0 : Int32) (u1 : Int32) (u2 : Int32) (u3 : Int32) (h0 : Heap) (n0 : Nat) (v : Option Value) (h : Heap) (L : List Loc) : Prop := v = none ∧ Fr n0 L ∧ Keep h0 h [a1] ∧ Exa Z h a1 "com/example/tisza/tisza/tree/TextScanner" ∧ Fld Z h a1 "com/example/tisza/tisza/tree/TextScanner" "text" "Ljava/lang/String;" (.ref a2) ∧ Fld Z h a1 "com/example/tisza/tisza/tree/TextScanner" "end" "I" (.int p4) ∧ Fld Z h a1 "com/example/tisza/tisza/tree/TextScanner" "position" "I" (.int p3) ∧ Fld Z h a1 "com/example/tisza/tisza/tree/TextScanner" "line" "I" (.int p5)
set_option maxRecDepth 65536 in
set_option maxHeartbeats 40000000 in
theorem rm9 (l : Launch) (Z : State) (a0 : Array Value) (hw : ∀ d ∈ tables_1, d.before a0 Z = true) (ws : List Jvm.Cond) (a1 : Addr) (a2 : Addr) (p3 : Int32) (p4 : Int32) (p5 : Int32) (cs : Int32) (b2 : Addr) (u0 : Int32) (u1 : Int32) (u2 : Int32) (u3 : Int32) (h0 : Heap) (n0 : Nat) (E0p : Exa Z h0 a1 "com/example/tisza/tisza/tree/TextScanner") (F1p : Fld Z h0 a1 "com/example/tisza/tisza/tree/TextScanner" "text" "Ljava/lang/String;" (.null)) (F2p : Fld Z h0 a1 "com/example/tisza/tisza/tree/TextScanner" "end" "I" (.int (0 : Int32))) (F3p : Fld Z h0 a1 "com/example/tisza/tisza/tree/TextScanner" "position" "I" (.int (0 : Int32))) (F4p : Fld Z h0 a1 "com/example/tisza/tisza/tree/TextScanner" "line" "I" (.int (0 : Int32))) (S5p : Sta Z h0 "java/lang/String" "COMPACT_STRINGS" "Z" (.int cs)) (E6p : Exa Z h0 a2 "java/lang/String") (F7p : Fld Z h0 a2 "java/lang/String" "value" "[B" (.ref b2)) (F8p : Fld Z h0 a2 "java/lang/String" "coder" "B" (.int (0 : Int32))) (V9p : own_A Z h0 b2 .byte [.int u0, .int u1, .int u2, .int u3]) (G_a1 : n0 ≤ a1) (P0 : ¬ cs = 0) (P1 : ¬ p3 < 0) (P2 : ¬ p4 < p3) (P3 : ¬ (4 : Int32) < p4) :
    MetFree l (⟨"com/example/tisza/tisza/tree/TextScanner", "<init>", "(Ljava/lang/String;III)V"⟩ : MethodName) (head1 (Jvm.Cond.code (⟨"com/example/tisza/tisza/tree/TextScanner", "<init>", "(Ljava/lang/String;III)V"⟩ : MethodName) prog_129_method_1_code 5 none :: ws) ({ frames := 2, cells := 0, slots := 0, locals := 26 } : Room)) (fun a U => a = #[.ref a1, .ref a2, .int p3, .int p4, .int p5] ∧ Z.Warmed39 U.vm ∧ U.heap = h0) (fun _ _ _ _ _ => True) (fun _ U o U' => ∃ v L, o = .returned v ∧ own_Q9 Z a1 a2 p3 p4 p5 cs b2 u0 u1 u2 u3 h0 n0 v U'.heap L ∧ FrameEnd U o U' L ({ frames := 2, cells := 0, slots := 0, locals := 26 } : Room).cells ({ frames := 2, cells := 0, slots := 0, locals := 26 } : Room).slots) := by
  refine MetFree.of_bodySF (plainFor_of_name own_pn13) hisR ?_
  intro p e s m args below meth c s₁ Bd hml0 hP hK
  obtain ⟨rfl, hZ, hh⟩ := hP
  have hx := Bd.exec
  have hby := Bd.bytes
  have hml : c.maxLocals = 5 := hml0
  have hown : s.vm.findClass "com/example/tisza/tisza/tree/TextScanner" = some m.cls := findClass_of_methodNamed Bd.named
  have hnm := (name_of_methodNamed Bd.named Bd.method).1
  have hlk : meth.locks = false := BodyLoose.notSynchronized Bd
  have X0 : Stand p l e ({ frames := 2, cells := 0, slots := 0, locals := 26 } : Room) s m #[.ref a1, .ref a2, .int p3, .int p4, .int p5] below meth c s₁ [] 0 0 := Stand.of_body Bd
  have e0 : s₁.heap = h0 := by rw [← hh, Bd.state]; rfl
  have N0 := Fr.nil n0
  have K0 := Keep.refl h0 [a1]
  show own_Go p e below (own_E s 0 0 (own_Q9 Z a1 a2 p3 p4 p5 cs b2 u0 u1 u2 u3 h0 n0)) (s₁.setTop (entryFrame m #[.ref a1, .ref a2, .int p3, .int p4, .int p5] 5))
  rw [own_ef9]
  refine own_aloadN X0 hx (hb hby own_d9_0) (q := 1) rfl rfl rfl ?_
  refine own_initO X0 hx hZ hown (hw _ (List.mem_of_getElem? (i := 44) rfl)) (hw _ (List.mem_of_getElem? (i := 20) rfl)) (hw _ (List.mem_of_getElem? (i := 21) rfl)) e0 (by rw [hml]; rfl) (by decide) (W := 0) (Nat.le_of_eq rfl) (by decide) (hb hby own_d9_1) (q := 4) rfl (fun T46 X47 e48 => ?_)
  refine own_iloadN X47 hx (hb hby own_d9_4) (q := 5) rfl rfl ?_
  refine own_if0P X47 hx (hb hby own_d9_5) (cd := .lt) (x := p3) (pt := 21) (q := 8) (by decide) (by decide) rfl rfl (fun h => False.elim ((P1 : ¬ (p3 < (0 : Int32))) h)) (fun _ => ?_)
  refine own_iloadN X47 hx (hb hby own_d9_8) (q := 9) rfl rfl ?_
  refine own_iloadN X47 hx (hb hby own_d9_9) (q := 10) rfl rfl ?_
  refine own_icmpP X47 hx (hb hby own_d9_10) (cd := .gt) (x := p3) (y := p4) (pt := 21) (q := 13) (by decide) (by decide) rfl rfl (fun h => False.elim ((P2 : ¬ (p4 < p3)) h)) (fun _ => ?_)
  refine own_iloadN X47 hx (hb hby own_d9_13) (q := 14) rfl rfl ?_
  refine own_aloadN X47 hx (hb hby own_d9_14) (q := 15) rfl rfl rfl ?_
  refine own_callVP X47 hx hZ hown (hw _ (List.mem_of_getElem? (i := 45) rfl)) (hw _ (List.mem_of_getElem? (i := 46) rfl)) (hw _ (List.mem_of_getElem? (i := 48) rfl)) (hw _ (List.mem_of_getElem? (i := 48) rfl)) (hw _ (List.mem_of_getElem? (i := 47) rfl)) (hw _ (List.mem_of_getElem? (i := 11) rfl)) (hw _ (List.mem_of_getElem? (i := 49) rfl)) E6p (by decide) (rm10 l Z a0 hw [] a2 cs b2 u0 u1 u2 u3 h0 S5p E6p F7p F8p V9p P0) own_pd5 rfl e48 (by rw [hml]; rfl) (argsL := []) (st := [.int p4]) rfl (W := 1) (Nat.le_of_eq rfl) (by decide) (by decide) (by decide) (by decide) (hb hby own_d9_15) (q := 18) rfl (fun T49 X50 e51 => ?_)
  rw [show (own_f10 cs b2 u0 u1 u2 u3 : Int32) = (4 : Int32) from rfl]
  refine own_icmpM X50 hx (hb hby own_d9_18) (cd := .le) (x := p4) (y := (4 : Int32)) (pt := 40) (q := 21) (by decide) (by decide) rfl rfl (fun _ => ?_) (fun h => False.elim ((P3 : ¬ ((4 : Int32) < p4)) h))
  refine own_aloadN X50 hx (hb hby own_d9_40) (q := 41) rfl rfl rfl ?_
  refine own_aloadN X50 hx (hb hby own_d9_41) (q := 42) rfl rfl rfl ?_
  refine own_putF X50 hx hZ hown (host := "") (Or.inl (hw _ (List.mem_of_getElem? (i := 55) rfl))) Via.refl e51 F1p E0p (Or.inr ⟨(hw _ (List.mem_of_getElem? (i := 56) rfl)), rfl, hnm⟩) (hw _ (List.mem_of_getElem? (i := 39) rfl)) (ty := (.object "java/lang/String")) (by decide) rfl rfl (hb hby own_d9_42) (q := 45) rfl (fun T52 h55 X53 e54 W56 => ?_)
  have E57 := Exa.wr W56 E0p
  have F58 := Fld.same W56 F1p
  have F59 := Fld.other W56 F2p (Or.inr (slot_ne (C := "com/example/tisza/tisza/tree/TextScanner") (Or.inr (hw _ (List.mem_of_getElem? (i := 58) rfl))) (Or.inr (hw _ (List.mem_of_getElem? (i := 56) rfl))) (by decide) (t := .int) (t' := (.object "java/lang/String")) (by decide) (by decide)))
  have F60 := Fld.other W56 F3p (Or.inr (slot_ne (C := "com/example/tisza/tisza/tree/TextScanner") (Or.inl (hw _ (List.mem_of_getElem? (i := 60) rfl))) (Or.inr (hw _ (List.mem_of_getElem? (i := 56) rfl))) (by decide) (t := .int) (t' := (.object "java/lang/String")) (by decide) (by decide)))
  have F61 := Fld.other W56 F4p (Or.inr (slot_ne (C := "com/example/tisza/tisza/tree/TextScanner") (Or.inl (hw _ (List.mem_of_getElem? (i := 62) rfl))) (Or.inr (hw _ (List.mem_of_getElem? (i := 56) rfl))) (by decide) (t := .int) (t' := (.object "java/lang/String")) (by decide) (by decide)))
  have S62 := Sta.wr W56 S5p
  have K63 := K0.wr W56 (Or.inl (List.mem_of_getElem? (i := 0) rfl))
  have N64 := Fr.snoc X53 N0 G_a1
  refine own_aloadN X53 hx (hb hby own_d9_45) (q := 46) rfl rfl rfl ?_
  refine own_iloadN X53 hx (hb hby own_d9_46) (q := 47) rfl rfl ?_
  refine own_putF X53 hx hZ hown (host := "") (Or.inl (hw _ (List.mem_of_getElem? (i := 57) rfl))) Via.refl e54 F59 E57 (Or.inr ⟨(hw _ (List.mem_of_getElem? (i := 58) rfl)), rfl, hnm⟩) (hw _ (List.mem_of_getElem? (i := 39) rfl)) (ty := .int) (by decide) rfl rfl (hb hby own_d9_47) (q := 50) rfl (fun T65 h68 X66 e67 W69 => ?_)
  have E70 := Exa.wr W69 E57
  have F71 := Fld.other W69 F58 (Or.inr (slot_ne (C := "com/example/tisza/tisza/tree/TextScanner") (Or.inr (hw _ (List.mem_of_getElem? (i := 56) rfl))) (Or.inr (hw _ (List.mem_of_getElem? (i := 58) rfl))) (by decide) (t := (.object "java/lang/String")) (t' := .int) (by decide) (by decide)))
  have F72 := Fld.same W69 F59
  have F73 := Fld.other W69 F60 (Or.inr (slot_ne (C := "com/example/tisza/tisza/tree/TextScanner") (Or.inl (hw _ (List.mem_of_getElem? (i := 60) rfl))) (Or.inr (hw _ (List.mem_of_getElem? (i := 58) rfl))) (by decide) (t := .int) (t' := .int) (by decide) (by decide)))
  have F74 := Fld.other W69 F61 (Or.inr (slot_ne (C := "com/example/tisza/tisza/tree/TextScanner") (Or.inl (hw _ (List.mem_of_getElem? (i := 62) rfl))) (Or.inr (hw _ (List.mem_of_getElem? (i := 58) rfl))) (by decide) (t := .int) (t' := .int) (by decide) (by decide)))
  have S75 := Sta.wr W69 S62
  have K76 := K63.wr W69 (Or.inl (List.mem_of_getElem? (i := 0) rfl))
  have N77 := Fr.snoc X66 N64 G_a1
  refine own_aloadN X66 hx (hb hby own_d9_50) (q := 51) rfl rfl rfl ?_
  refine own_iloadN X66 hx (hb hby own_d9_51) (q := 52) rfl rfl ?_
  refine own_putF X66 hx hZ hown (host := "") (Or.inl (hw _ (List.mem_of_getElem? (i := 59) rfl))) Via.refl e67 F73 E70 (Or.inl (hw _ (List.mem_of_getElem? (i := 60) rfl))) (hw _ (List.mem_of_getElem? (i := 39) rfl)) (ty := .int) (by decide) rfl rfl (hb hby own_d9_52) (q := 55) rfl (fun T78 h81 X79 e80 W82 => ?_)
  have E83 := Exa.wr W82 E70
  have F84 := Fld.other W82 F71 (Or.inr (slot_ne (C := "com/example/tisza/tisza/tree/TextScanner") (Or.inr (hw _ (List.mem_of_getElem? (i := 56) rfl))) (Or.inl (hw _ (List.mem_of_getElem? (i := 60) rfl))) (by decide) (t := (.object "java/lang/String")) (t' := .int) (by decide) (by decide)))
  have F85 := Fld.other W82 F72 (Or.inr (slot_ne (C := "com/example/tisza/tisza/tree/TextScanner") (Or.inr (hw _ (List.mem_of_getElem? (i := 58) rfl))) (Or.inl (hw _ (List.mem_of_getElem? (i := 60) rfl))) (by decide) (t := .int) (t' := .int) (by decide) (by decide)))
  have F86 := Fld.same W82 F73
  have F87 := Fld.other W82 F74 (Or.inr (slot_ne (C := "com/example/tisza/tisza/tree/TextScanner") (Or.inl (hw _ (List.mem_of_getElem? (i := 62) rfl))) (Or.inl (hw _ (List.mem_of_getElem? (i := 60) rfl))) (by decide) (t := .int) (t' := .int) (by decide) (by decide)))
  have S88 := Sta.wr W82 S75
  have K89 := K76.wr W82 (Or.inl (List.mem_of_getElem? (i := 0) rfl))
  have N90 := Fr.snoc X79 N77 G_a1
  refine own_aloadN X79 hx (hb hby own_d9_55) (q := 56) rfl rfl rfl ?_
  refine own_iload X79 hx (hb hby own_d9_56) (q := 58) rfl rfl ?_
  refine own_putF X79 hx hZ hown (host := "") (Or.inl (hw _ (List.mem_of_getElem? (i := 61) rfl))) Via.refl e80 F87 E83 (Or.inl (hw _ (List.mem_of_getElem? (i := 62) rfl))) (hw _ (List.mem_of_getElem? (i := 39) rfl)) (ty := .int) (by decide) rfl rfl (hb hby own_d9_58) (q := 61) rfl (fun T91 h94 X92 e93 W95 => ?_)
  have E96 := Exa.wr W95 E83
  have F97 := Fld.other W95 F84 (Or.inr (slot_ne (C := "com/example/tisza/tisza/tree/TextScanner") (Or.inr (hw _ (List.mem_of_getElem? (i := 56) rfl))) (Or.inl (hw _ (List.mem_of_getElem? (i := 62) rfl))) (by decide) (t := (.object "java/lang/String")) (t' := .int) (by decide) (by decide)))
  have F98 := Fld.other W95 F85 (Or.inr (slot_ne (C := "com/example/tisza/tisza/tree/TextScanner") (Or.inr (hw _ (List.mem_of_getElem? (i := 58) rfl))) (Or.inl (hw _ (List.mem_of_getElem? (i := 62) rfl))) (by decide) (t := .int) (t' := .int) (by decide) (by decide)))
  have F99 := Fld.other W95 F86 (Or.inr (slot_ne (C := "com/example/tisza/tisza/tree/TextScanner") (Or.inl (hw _ (List.mem_of_getElem? (i := 60) rfl))) (Or.inl (hw _ (List.mem_of_getElem? (i := 62) rfl))) (by decide) (t := .int) (t' := .int) (by decide) (by decide)))
  have F100 := Fld.same W95 F87
  have S101 := Sta.wr W95 S88
  have K102 := K89.wr W95 (Or.inl (List.mem_of_getElem? (i := 0) rfl))
  have N103 := Fr.snoc X92 N90 G_a1
  refine own_retV X92 hx hlk (rest := []) Bd.returns (hb hby own_d9_61) ?_ (by decide) (by decide)
  show own_Q9 Z a1 a2 p3 p4 p5 cs b2 u0 u1 u2 u3 h0 n0 _ T91.heap _
  rw [e93]
  exact ⟨rfl, N103, K102, E96, F97, F98, F99, F100⟩
theorem own_ef12 (m : MethodId) (a1 : Addr) : entryFrame m #[.ref a1] 1 = mkF m 0 #[.val (.ref a1)] [] := by first | (simp [entryFrame, mkF, argsToLocals, Value.category]; done) | rfl
theorem own_d12_0 : decode prog_129_method_6_code 0 = .ok (.aload_n 0, 1) := by decide +kernel
theorem own_d12_1 : decode prog_129_method_6_code 1 = .ok (.getfield 32, 3) := by decide +kernel
theorem own_d12_4 : decode prog_129_method_6_code 4 = .ok (.aload_n 0, 1) := by decide +kernel
theorem own_d12_5 : decode prog_129_method_6_code 5 = .ok (.getfield 28, 3) := by decide +kernel
theorem own_d12_8 : decode prog_129_method_6_code 8 = .ok (.if_icmp .ne 7, 3) := by decide +kernel
theorem own_d12_11 : decode prog_129_method_6_code 11 = .ok (.iconst 1, 1) := by decide +kernel
theorem own_d12_12 : decode prog_129_method_6_code 12 = .ok (.goto 4, 3) := by decide +kernel
theorem own_d12_15 : decode prog_129_method_6_code 15 = .ok (.iconst 0, 1) := by decide +kernel
theorem own_d12_16 : decode prog_129_method_6_code 16 = .ok (.ireturn, 1) := by decide +kernel
def own_f12 (fe : Int32) (fp : Int32) : Int32 := (if fp = fe then (1 : Int32) else (0 : Int32))
set_option maxRecDepth 65536 in
set_option maxHeartbeats 40000000 in
theorem rm12 (l : Launch) (Z : State) (a0 : Array Value) (hw : ∀ d ∈ tables_1, d.before a0 Z = true) (ws : List Jvm.Cond) (a1 : Addr) (fe : Int32) (fp : Int32) (h0 : Heap) (F0p : Fld Z h0 a1 "com/example/tisza/tisza/tree/TextScanner" "end" "I" (.int fe)) (F1p : Fld Z h0 a1 "com/example/tisza/tisza/tree/TextScanner" "position" "I" (.int fp)) :
    MetFree l (⟨"com/example/tisza/tisza/tree/TextScanner", "atEnd", "()Z"⟩ : MethodName) (head1 (Jvm.Cond.code (⟨"com/example/tisza/tisza/tree/TextScanner", "atEnd", "()Z"⟩ : MethodName) prog_129_method_6_code 1 (some .boolean) :: ws) ({ frames := 0, cells := 0, slots := 0, locals := 0 } : Room)) (fun a U => a = #[.ref a1] ∧ Z.Warmed39 U.vm ∧ U.heap = h0) (fun _ _ _ _ _ => True) (fun _ U o U' => ∃ v L, o = .returned v ∧ own_P (.int (own_f12 fe fp)) h0 v U'.heap L ∧ FrameEnd U o U' L ({ frames := 0, cells := 0, slots := 0, locals := 0 } : Room).cells ({ frames := 0, cells := 0, slots := 0, locals := 0 } : Room).slots) := by
  refine MetFree.of_bodySF (plainFor_of_name own_pn13) hisR ?_
  intro p e s m args below meth c s₁ Bd hml0 hP hK
  obtain ⟨rfl, hZ, hh⟩ := hP
  have hx := Bd.exec
  have hby := Bd.bytes
  have hml : c.maxLocals = 1 := hml0
  have hown : s.vm.findClass "com/example/tisza/tisza/tree/TextScanner" = some m.cls := findClass_of_methodNamed Bd.named
  have hnm := (name_of_methodNamed Bd.named Bd.method).1
  have hlk : meth.locks = false := BodyLoose.notSynchronized Bd
  have X0 : Stand p l e ({ frames := 0, cells := 0, slots := 0, locals := 0 } : Room) s m #[.ref a1] below meth c s₁ [] 0 0 := Stand.of_body Bd
  have e0 : s₁.heap = h0 := by rw [← hh, Bd.state]; rfl
  show own_Go p e below (own_E s 0 0 (own_P (.int (own_f12 fe fp)) h0)) (s₁.setTop (entryFrame m #[.ref a1] 1))
  rw [own_ef12]
  refine own_aloadN X0 hx (hb hby own_d12_0) (q := 1) rfl rfl rfl ?_
  refine own_getF X0 hx hZ hown (host := "") (Or.inl (hw _ (List.mem_of_getElem? (i := 59) rfl))) Via.refl e0 F1p (hb hby own_d12_1) (q := 4) rfl (fun T104 X105 e106 => ?_)
  refine own_aloadN X105 hx (hb hby own_d12_4) (q := 5) rfl rfl rfl ?_
  refine own_getF X105 hx hZ hown (host := "") (Or.inl (hw _ (List.mem_of_getElem? (i := 57) rfl))) Via.refl e106 F0p (hb hby own_d12_5) (q := 8) rfl (fun T107 X108 e109 => ?_)
  refine own_icmpM X108 hx (hb hby own_d12_8) (cd := .ne) (x := fp) (y := fe) (pt := 15) (q := 11) (by decide) (by decide) rfl rfl (fun (c1 : ¬ (fp = fe)) => ?_) (fun (c1 : fp = fe) => ?_)
  · refine own_iconst X108 hx (v := (0 : Int32)) (hb hby own_d12_15) (q := 16) rfl rfl ?_
    refine own_retN X108 hx hlk (t := .boolean) (by simp) Bd.returns (hb hby own_d12_16) ?_ (by decide) (by decide)
    have r : own_f12 fe fp = (0 : Int32) := by rw [own_f12, if_neg c1]
    exact ⟨by rw [r] <;> rfl, e109, rfl⟩
  · refine own_iconst X108 hx (v := (1 : Int32)) (hb hby own_d12_11) (q := 12) rfl rfl ?_
    refine own_goto X108 hx (hb hby own_d12_12) (q := 16) (by decide) (by decide) ?_
    refine own_retN X108 hx hlk (t := .boolean) (by simp) Bd.returns (hb hby own_d12_16) ?_ (by decide) (by decide)
    have r : own_f12 fe fp = (1 : Int32) := by rw [own_f12, if_pos c1]
    exact ⟨by rw [r] <;> rfl, e109, rfl⟩
theorem own_ef20 (m : MethodId) (a1 : Addr) : entryFrame m #[.ref a1] 1 = mkF m 0 #[.val (.ref a1)] [] := by first | (simp [entryFrame, mkF, argsToLocals, Value.category]; done) | rfl
theorem own_d20_0 : decode prog_129_method_4_code 0 = .ok (.aload_n 0, 1) := by decide +kernel
theorem own_d20_1 : decode prog_129_method_4_code 1 = .ok (.getfield 32, 3) := by decide +kernel
theorem own_d20_4 : decode prog_129_method_4_code 4 = .ok (.ireturn, 1) := by decide +kernel
def own_f20 (fp : Int32) : Int32 := fp
set_option maxRecDepth 65536 in
set_option maxHeartbeats 40000000 in
theorem rm20 (l : Launch) (Z : State) (a0 : Array Value) (hw : ∀ d ∈ tables_1, d.before a0 Z = true) (ws : List Jvm.Cond) (a1 : Addr) (fp : Int32) (h0 : Heap) (F0p : Fld Z h0 a1 "com/example/tisza/tisza/tree/TextScanner" "position" "I" (.int fp)) :
    MetFree l (⟨"com/example/tisza/tisza/tree/TextScanner", "getPosition", "()I"⟩ : MethodName) (head1 (Jvm.Cond.code (⟨"com/example/tisza/tisza/tree/TextScanner", "getPosition", "()I"⟩ : MethodName) prog_129_method_4_code 1 (some .int) :: ws) ({ frames := 0, cells := 0, slots := 0, locals := 0 } : Room)) (fun a U => a = #[.ref a1] ∧ Z.Warmed39 U.vm ∧ U.heap = h0) (fun _ _ _ _ _ => True) (fun _ U o U' => ∃ v L, o = .returned v ∧ own_P (.int (own_f20 fp)) h0 v U'.heap L ∧ FrameEnd U o U' L ({ frames := 0, cells := 0, slots := 0, locals := 0 } : Room).cells ({ frames := 0, cells := 0, slots := 0, locals := 0 } : Room).slots) := by
  refine MetFree.of_bodySF (plainFor_of_name own_pn13) hisR ?_
  intro p e s m args below meth c s₁ Bd hml0 hP hK
  obtain ⟨rfl, hZ, hh⟩ := hP
  have hx := Bd.exec
  have hby := Bd.bytes
  have hml : c.maxLocals = 1 := hml0
  have hown : s.vm.findClass "com/example/tisza/tisza/tree/TextScanner" = some m.cls := findClass_of_methodNamed Bd.named
  have hnm := (name_of_methodNamed Bd.named Bd.method).1
  have hlk : meth.locks = false := BodyLoose.notSynchronized Bd
  have X0 : Stand p l e ({ frames := 0, cells := 0, slots := 0, locals := 0 } : Room) s m #[.ref a1] below meth c s₁ [] 0 0 := Stand.of_body Bd
  have e0 : s₁.heap = h0 := by rw [← hh, Bd.state]; rfl
  show own_Go p e below (own_E s 0 0 (own_P (.int (own_f20 fp)) h0)) (s₁.setTop (entryFrame m #[.ref a1] 1))
  rw [own_ef20]
  refine own_aloadN X0 hx (hb hby own_d20_0) (q := 1) rfl rfl rfl ?_
  refine own_getF X0 hx hZ hown (host := "") (Or.inl (hw _ (List.mem_of_getElem? (i := 59) rfl))) Via.refl e0 F0p (hb hby own_d20_1) (q := 4) rfl (fun T110 X111 e112 => ?_)
  refine own_retI X111 hx hlk Bd.returns (hb hby own_d20_4) ?_ (by decide) (by decide)
  have r : own_f20 fp = fp := by rw [own_f20]
  exact ⟨by rw [r] <;> rfl, e112, rfl⟩
theorem own_lt4 {p e : Int32} (h : p < e) (h4 : ¬ (4 : Int32) < e) : p < 4 := by simp only [Int32.lt_iff_toInt_lt, Int32.reduceToInt] at *; omega
theorem own_pd6 : parseMethodDescriptor "(I)C" = some ⟨[.int], some .char⟩ := by decide +kernel
theorem own_ef14 (m : MethodId) (a1 : Addr) (p2 : Int32) : entryFrame m #[.ref a1, .int p2] 3 = mkF m 0 #[.val (.ref a1), .val (.int p2), .unset] [] := by first | (simp [entryFrame, mkF, argsToLocals, Value.category]; done) | rfl
theorem own_d14_0 : decode prog_129_method_8_code 0 = .ok (.aload_n 0, 1) := by decide +kernel
theorem own_d14_1 : decode prog_129_method_8_code 1 = .ok (.getfield 32, 3) := by decide +kernel
theorem own_d14_4 : decode prog_129_method_8_code 4 = .ok (.aload_n 0, 1) := by decide +kernel
theorem own_d14_5 : decode prog_129_method_8_code 5 = .ok (.getfield 28, 3) := by decide +kernel
theorem own_d14_8 : decode prog_129_method_8_code 8 = .ok (.if_icmp .ge 22, 3) := by decide +kernel
theorem own_d14_11 : decode prog_129_method_8_code 11 = .ok (.aload_n 0, 1) := by decide +kernel
theorem own_d14_12 : decode prog_129_method_8_code 12 = .ok (.getfield 22, 3) := by decide +kernel
theorem own_d14_15 : decode prog_129_method_8_code 15 = .ok (.aload_n 0, 1) := by decide +kernel
theorem own_d14_16 : decode prog_129_method_8_code 16 = .ok (.getfield 32, 3) := by decide +kernel
theorem own_d14_19 : decode prog_129_method_8_code 19 = .ok (.invokevirtual 44, 3) := by decide +kernel
theorem own_d14_22 : decode prog_129_method_8_code 22 = .ok (.iload_n 1, 1) := by decide +kernel
theorem own_d14_23 : decode prog_129_method_8_code 23 = .ok (.if_icmp .ne 7, 3) := by decide +kernel
theorem own_d14_26 : decode prog_129_method_8_code 26 = .ok (.iconst 1, 1) := by decide +kernel
theorem own_d14_27 : decode prog_129_method_8_code 27 = .ok (.goto 4, 3) := by decide +kernel
theorem own_d14_30 : decode prog_129_method_8_code 30 = .ok (.iconst 0, 1) := by decide +kernel
theorem own_d14_31 : decode prog_129_method_8_code 31 = .ok (.istore_n 2, 1) := by decide +kernel
theorem own_d14_32 : decode prog_129_method_8_code 32 = .ok (.iload_n 2, 1) := by decide +kernel
theorem own_d14_33 : decode prog_129_method_8_code 33 = .ok (.ifCond .eq 13, 3) := by decide +kernel
theorem own_d14_36 : decode prog_129_method_8_code 36 = .ok (.aload_n 0, 1) := by decide +kernel
theorem own_d14_37 : decode prog_129_method_8_code 37 = .ok (.dup, 1) := by decide +kernel
theorem own_d14_38 : decode prog_129_method_8_code 38 = .ok (.getfield 32, 3) := by decide +kernel
theorem own_d14_41 : decode prog_129_method_8_code 41 = .ok (.iconst 1, 1) := by decide +kernel
theorem own_d14_42 : decode prog_129_method_8_code 42 = .ok (.iadd, 1) := by decide +kernel
theorem own_d14_43 : decode prog_129_method_8_code 43 = .ok (.putfield 32, 3) := by decide +kernel
theorem own_d14_46 : decode prog_129_method_8_code 46 = .ok (.iload_n 2, 1) := by decide +kernel
theorem own_d14_47 : decode prog_129_method_8_code 47 = .ok (.ireturn, 1) := by decide +kernel
def own_f14 (a1 : Addr) (p2 : Int32) (a6 : Addr) (fe : Int32) (fp : Int32) (cs : Int32) (G : Value) (b6 : Addr) (u0 : Int32) (u1 : Int32) (u2 : Int32) (u3 : Int32) : Int32 := (if fp < fe then (if (own_f15 fp cs G b6 u0 u1 u2 u3) = p2 then (1 : Int32) else (0 : Int32)) else (0 : Int32))
def own_g14_3 (a1 : Addr) (p2 : Int32) (a6 : Addr) (fe : Int32) (fp : Int32) (cs : Int32) (G : Value) (b6 : Addr) (u0 : Int32) (u1 : Int32) (u2 : Int32) (u3 : Int32) : Int32 := (if fp < fe then (if (own_f15 fp cs G b6 u0 u1 u2 u3) = p2 then fp + (1 : Int32) else fp) else fp)
def own_Q14 (Z : State) (a1 : Addr) (p2 : Int32) (a6 : Addr) (fe : Int32) (fp : Int32) (cs : Int32) (G : Value) (b6 : Addr) (u0 : Int32) (u1 : Int32) (u2 : Int32) (u3 : Int32) (h0 : Heap) (n0 : Nat) (v : Option Value) (h : Heap) (L : List Loc) : Prop := v = some (.int (own_f14 a1 p2 a6 fe fp cs G b6 u0 u1 u2 u3)) ∧ Fr n0 L ∧ Keep h0 h [a1] ∧ Exa Z h a1 "com/example/tisza/tisza/tree/TextScanner" ∧ Fld Z h a1 "com/example/tisza/tisza/tree/TextScanner" "text" "Ljava/lang/String;" (.ref a6) ∧ Fld Z h a1 "com/example/tisza/tisza/tree/TextScanner" "end" "I" (.int fe) ∧ Fld Z h a1 "com/example/tisza/tisza/tree/TextScanner" "position" "I" (.int (own_g14_3 a1 p2 a6 fe fp cs G b6 u0 u1 u2 u3))
set_option maxRecDepth 65536 in
set_option maxHeartbeats 40000000 in
theorem rm14 (l : Launch) (Z : State) (a0 : Array Value) (hw : ∀ d ∈ tables_1, d.before a0 Z = true) (ws : List Jvm.Cond) (a1 : Addr) (p2 : Int32) (a6 : Addr) (fe : Int32) (fp : Int32) (cs : Int32) (G : Value) (b6 : Addr) (u0 : Int32) (u1 : Int32) (u2 : Int32) (u3 : Int32) (h0 : Heap) (n0 : Nat) (E0p : Exa Z h0 a1 "com/example/tisza/tisza/tree/TextScanner") (F1p : Fld Z h0 a1 "com/example/tisza/tisza/tree/TextScanner" "text" "Ljava/lang/String;" (.ref a6)) (F2p : Fld Z h0 a1 "com/example/tisza/tisza/tree/TextScanner" "end" "I" (.int fe)) (F3p : Fld Z h0 a1 "com/example/tisza/tisza/tree/TextScanner" "position" "I" (.int fp)) (S4p : Sta Z h0 "java/lang/String" "COMPACT_STRINGS" "Z" (.int cs)) (S5p : Sta Z h0 "jdk/internal/util/Preconditions" "SIOOBE_FORMATTER" "Ljava/util/function/BiFunction;" (G)) (E6p : Exa Z h0 a6 "java/lang/String") (F7p : Fld Z h0 a6 "java/lang/String" "value" "[B" (.ref b6)) (F8p : Fld Z h0 a6 "java/lang/String" "coder" "B" (.int (0 : Int32))) (V9p : own_A Z h0 b6 .byte [.int u0, .int u1, .int u2, .int u3]) (G_a1 : n0 ≤ a1) (P0 : ¬ cs = 0) (rG : G.isRef = true) (P1 : ¬ fp < 0) (P2 : ¬ (4 : Int32) < fe) :
    MetFree l (⟨"com/example/tisza/tisza/tree/TextScanner", "accept", "(C)Z"⟩ : MethodName) (head1 (Jvm.Cond.code (⟨"com/example/tisza/tisza/tree/TextScanner", "accept", "(C)Z"⟩ : MethodName) prog_129_method_8_code 3 (some .boolean) :: ws) ({ frames := 4, cells := 0, slots := 0, locals := 53 } : Room)) (fun a U => a = #[.ref a1, .int p2] ∧ Z.Warmed39 U.vm ∧ U.heap = h0) (fun _ _ _ _ _ => True) (fun _ U o U' => ∃ v L, o = .returned v ∧ own_Q14 Z a1 p2 a6 fe fp cs G b6 u0 u1 u2 u3 h0 n0 v U'.heap L ∧ FrameEnd U o U' L ({ frames := 4, cells := 0, slots := 0, locals := 53 } : Room).cells ({ frames := 4, cells := 0, slots := 0, locals := 53 } : Room).slots) := by
  refine MetFree.of_bodySF (plainFor_of_name own_pn13) hisR ?_
  intro p e s m args below meth c s₁ Bd hml0 hP hK
  obtain ⟨rfl, hZ, hh⟩ := hP
  have hx := Bd.exec
  have hby := Bd.bytes
  have hml : c.maxLocals = 3 := hml0
  have hown : s.vm.findClass "com/example/tisza/tisza/tree/TextScanner" = some m.cls := findClass_of_methodNamed Bd.named
  have hnm := (name_of_methodNamed Bd.named Bd.method).1
  have hlk : meth.locks = false := BodyLoose.notSynchronized Bd
  have X0 : Stand p l e ({ frames := 4, cells := 0, slots := 0, locals := 53 } : Room) s m #[.ref a1, .int p2] below meth c s₁ [] 0 0 := Stand.of_body Bd
  have e0 : s₁.heap = h0 := by rw [← hh, Bd.state]; rfl
  have N0 := Fr.nil n0
  have K0 := Keep.refl h0 [a1]
  show own_Go p e below (own_E s 0 0 (own_Q14 Z a1 p2 a6 fe fp cs G b6 u0 u1 u2 u3 h0 n0)) (s₁.setTop (entryFrame m #[.ref a1, .int p2] 3))
  rw [own_ef14]
  refine own_aloadN X0 hx (hb hby own_d14_0) (q := 1) rfl rfl rfl ?_
  refine own_getF X0 hx hZ hown (host := "") (Or.inl (hw _ (List.mem_of_getElem? (i := 59) rfl))) Via.refl e0 F3p (hb hby own_d14_1) (q := 4) rfl (fun T113 X114 e115 => ?_)
  refine own_aloadN X114 hx (hb hby own_d14_4) (q := 5) rfl rfl rfl ?_
  refine own_getF X114 hx hZ hown (host := "") (Or.inl (hw _ (List.mem_of_getElem? (i := 57) rfl))) Via.refl e115 F2p (hb hby own_d14_5) (q := 8) rfl (fun T116 X117 e118 => ?_)
  refine own_icmpM X117 hx (hb hby own_d14_8) (cd := .ge) (x := fp) (y := fe) (pt := 30) (q := 11) (by decide) (by decide) rfl rfl (fun (c1 : ¬ (fp < fe)) => ?_) (fun (c1 : fp < fe) => ?_)
  · refine own_iconst X117 hx (v := (0 : Int32)) (hb hby own_d14_30) (q := 31) rfl rfl ?_
    refine own_istoreN (L' := #[.val (.ref a1), .val (.int p2), .val (.int (0 : Int32))]) X117 hx (hb hby own_d14_31) (q := 32) rfl rfl ?_
    refine own_iloadN X117 hx (hb hby own_d14_32) (q := 33) rfl rfl ?_
    refine own_if0P X117 hx (hb hby own_d14_33) (cd := .eq) (x := (0 : Int32)) (pt := 46) (q := 36) (by decide) (by decide) rfl rfl (fun _ => ?_) (fun h => False.elim (h ((by decide) : (0 : Int32) = (0 : Int32))))
    refine own_iloadN X117 hx (hb hby own_d14_46) (q := 47) rfl rfl ?_
    refine own_retN X117 hx hlk (t := .boolean) (by simp) Bd.returns (hb hby own_d14_47) ?_ (by decide) (by decide)
    have r : own_f14 a1 p2 a6 fe fp cs G b6 u0 u1 u2 u3 = (0 : Int32) := by rw [own_f14, if_neg c1]
    have g3 : own_g14_3 a1 p2 a6 fe fp cs G b6 u0 u1 u2 u3 = fp := by rw [own_g14_3, if_neg c1]
    show own_Q14 Z a1 p2 a6 fe fp cs G b6 u0 u1 u2 u3 h0 n0 _ T116.heap _
    rw [e118]
    exact ⟨(by rw [r] <;> rfl), N0, K0, E0p, F1p, F2p, (by rw [g3]; exact F3p)⟩
  · refine own_aloadN X117 hx (hb hby own_d14_11) (q := 12) rfl rfl rfl ?_
    refine own_getF X117 hx hZ hown (host := "") (Or.inl (hw _ (List.mem_of_getElem? (i := 55) rfl))) Via.refl e118 F1p (hb hby own_d14_12) (q := 15) rfl (fun T119 X120 e121 => ?_)
    refine own_aloadN X120 hx (hb hby own_d14_15) (q := 16) rfl rfl rfl ?_
    refine own_getF X120 hx hZ hown (host := "") (Or.inl (hw _ (List.mem_of_getElem? (i := 59) rfl))) Via.refl e121 F3p (hb hby own_d14_16) (q := 19) rfl (fun T122 X123 e124 => ?_)
    refine own_callVP X123 hx hZ hown (hw _ (List.mem_of_getElem? (i := 77) rfl)) (hw _ (List.mem_of_getElem? (i := 78) rfl)) (hw _ (List.mem_of_getElem? (i := 80) rfl)) (hw _ (List.mem_of_getElem? (i := 80) rfl)) (hw _ (List.mem_of_getElem? (i := 79) rfl)) (hw _ (List.mem_of_getElem? (i := 11) rfl)) (hw _ (List.mem_of_getElem? (i := 81) rfl)) E6p (by decide) (rm15 l Z a0 hw [] a6 fp cs G b6 u0 u1 u2 u3 h0 S4p S5p E6p F7p F8p V9p P0 rG P1 (own_lt4 c1 P2)) own_pd6 rfl e124 (by rw [hml]; rfl) (argsL := [.int fp]) (st := []) rfl (W := 0) (Nat.le_of_eq rfl) (by decide) (by decide) (by decide) (by decide) (hb hby own_d14_19) (q := 22) rfl (fun T125 X126 e127 => ?_)
    refine own_iloadN X126 hx (hb hby own_d14_22) (q := 23) rfl rfl ?_
    refine own_icmpM X126 hx (hb hby own_d14_23) (cd := .ne) (x := own_f15 fp cs G b6 u0 u1 u2 u3) (y := p2) (pt := 30) (q := 26) (by decide) (by decide) rfl rfl (fun (c3 : ¬ ((own_f15 fp cs G b6 u0 u1 u2 u3) = p2)) => ?_) (fun (c3 : (own_f15 fp cs G b6 u0 u1 u2 u3) = p2) => ?_)
    · refine own_iconst X126 hx (v := (0 : Int32)) (hb hby own_d14_30) (q := 31) rfl rfl ?_
      refine own_istoreN (L' := #[.val (.ref a1), .val (.int p2), .val (.int (0 : Int32))]) X126 hx (hb hby own_d14_31) (q := 32) rfl rfl ?_
      refine own_iloadN X126 hx (hb hby own_d14_32) (q := 33) rfl rfl ?_
      refine own_if0P X126 hx (hb hby own_d14_33) (cd := .eq) (x := (0 : Int32)) (pt := 46) (q := 36) (by decide) (by decide) rfl rfl (fun _ => ?_) (fun h => False.elim (h ((by decide) : (0 : Int32) = (0 : Int32))))
      refine own_iloadN X126 hx (hb hby own_d14_46) (q := 47) rfl rfl ?_
      refine own_retN X126 hx hlk (t := .boolean) (by simp) Bd.returns (hb hby own_d14_47) ?_ (by decide) (by decide)
      have r : own_f14 a1 p2 a6 fe fp cs G b6 u0 u1 u2 u3 = (0 : Int32) := by rw [own_f14, if_pos c1, if_neg c3]
      have g3 : own_g14_3 a1 p2 a6 fe fp cs G b6 u0 u1 u2 u3 = fp := by rw [own_g14_3, if_pos c1, if_neg c3]
      show own_Q14 Z a1 p2 a6 fe fp cs G b6 u0 u1 u2 u3 h0 n0 _ T125.heap _
      rw [e127]
      exact ⟨(by rw [r] <;> rfl), N0, K0, E0p, F1p, F2p, (by rw [g3]; exact F3p)⟩
    · refine own_iconst X126 hx (v := (1 : Int32)) (hb hby own_d14_26) (q := 27) rfl rfl ?_
      refine own_goto X126 hx (hb hby own_d14_27) (q := 31) (by decide) (by decide) ?_
      refine own_istoreN (L' := #[.val (.ref a1), .val (.int p2), .val (.int (1 : Int32))]) X126 hx (hb hby own_d14_31) (q := 32) rfl rfl ?_
      refine own_iloadN X126 hx (hb hby own_d14_32) (q := 33) rfl rfl ?_
      refine own_if0P X126 hx (hb hby own_d14_33) (cd := .eq) (x := (1 : Int32)) (pt := 46) (q := 36) (by decide) (by decide) rfl rfl (fun h => False.elim (((by decide) : ¬ ((1 : Int32) = (0 : Int32))) h)) (fun _ => ?_)
      refine own_aloadN X126 hx (hb hby own_d14_36) (q := 37) rfl rfl rfl ?_
      refine own_dup X126 hx (hb hby own_d14_37) (q := 38) rfl rfl ?_
      refine own_getF X126 hx hZ hown (host := "") (Or.inl (hw _ (List.mem_of_getElem? (i := 59) rfl))) Via.refl e127 F3p (hb hby own_d14_38) (q := 41) rfl (fun T128 X129 e130 => ?_)
      refine own_iconst X129 hx (v := (1 : Int32)) (hb hby own_d14_41) (q := 42) rfl rfl ?_
      refine own_iadd X129 hx (hb hby own_d14_42) (q := 43) rfl ?_
      refine own_putF X129 hx hZ hown (host := "") (Or.inl (hw _ (List.mem_of_getElem? (i := 59) rfl))) Via.refl e130 F3p E0p (Or.inl (hw _ (List.mem_of_getElem? (i := 60) rfl))) (hw _ (List.mem_of_getElem? (i := 39) rfl)) (ty := .int) (by decide) rfl rfl (hb hby own_d14_43) (q := 46) rfl (fun T131 h134 X132 e133 W135 => ?_)
      have E136 := Exa.wr W135 E0p
      have F137 := Fld.other W135 F1p (Or.inr (slot_ne (C := "com/example/tisza/tisza/tree/TextScanner") (Or.inr (hw _ (List.mem_of_getElem? (i := 56) rfl))) (Or.inl (hw _ (List.mem_of_getElem? (i := 60) rfl))) (by decide) (t := (.object "java/lang/String")) (t' := .int) (by decide) (by decide)))
      have F138 := Fld.other W135 F2p (Or.inr (slot_ne (C := "com/example/tisza/tisza/tree/TextScanner") (Or.inr (hw _ (List.mem_of_getElem? (i := 58) rfl))) (Or.inl (hw _ (List.mem_of_getElem? (i := 60) rfl))) (by decide) (t := .int) (t' := .int) (by decide) (by decide)))
      have F139 := Fld.same W135 F3p
      have S140 := Sta.wr W135 S4p
      have S141 := Sta.wr W135 S5p
      have K142 := K0.wr W135 (Or.inl (List.mem_of_getElem? (i := 0) rfl))
      have N143 := Fr.snoc X132 N0 G_a1
      refine own_iloadN X132 hx (hb hby own_d14_46) (q := 47) rfl rfl ?_
      refine own_retN X132 hx hlk (t := .boolean) (by simp) Bd.returns (hb hby own_d14_47) ?_ (by decide) (by decide)
      have r : own_f14 a1 p2 a6 fe fp cs G b6 u0 u1 u2 u3 = (1 : Int32) := by rw [own_f14, if_pos c1, if_pos c3]
      have g3 : own_g14_3 a1 p2 a6 fe fp cs G b6 u0 u1 u2 u3 = fp + (1 : Int32) := by rw [own_g14_3, if_pos c1, if_pos c3]
      show own_Q14 Z a1 p2 a6 fe fp cs G b6 u0 u1 u2 u3 h0 n0 _ T131.heap _
      rw [e133]
      exact ⟨(by rw [r] <;> rfl), N143, K142, E136, F137, F138, (by rw [g3]; exact F139)⟩
theorem own_lo {x : Int32} (h : ¬ x < 0 ∧ ¬ (255 : Int32) < x) : (x.toInt8.toInt32 &&& 255) = x := by
  have a := c_mask x.toInt8.toInt32 255 8 (by decide) (by decide)
  have b := c_i2b x
  rw [← Int32.toInt_inj, a]
  simp only [Int32.lt_iff_toInt_lt, Int32.reduceToInt] at *; omega
theorem own_narc {x : Int32} (h : ¬ x < 0 ∧ ¬ (255 : Int32) < x) : x.toUInt32.toUInt16.toUInt32.toInt32 = x := by
  have b := c_i2c x
  rw [← Int32.toInt_inj]
  simp only [Int32.lt_iff_toInt_lt, Int32.reduceToInt] at *; omega
theorem own_catR {c0 c1 c2 c3 p : Int32} (h0 : ¬ c0 < 0 ∧ ¬ (255 : Int32) < c0) (h1 : ¬ c1 < 0 ∧ ¬ (255 : Int32) < c1) (h2 : ¬ c2 < 0 ∧ ¬ (255 : Int32) < c2) (h3 : ¬ c3 < 0 ∧ ¬ (255 : Int32) < c3) : ¬ own_cat c0 c1 c2 c3 p < 0 ∧ ¬ (255 : Int32) < own_cat c0 c1 c2 c3 p := by
  unfold own_cat; repeat' split
  all_goals assumption
theorem own_catM (c0 c1 c2 c3 p : Int32) : own_cat c0.toInt8.toInt32 c1.toInt8.toInt32 c2.toInt8.toInt32 c3.toInt8.toInt32 p = (own_cat c0 c1 c2 c3 p).toInt8.toInt32 := by
  unfold own_cat; repeat' split
  all_goals rfl
theorem own_read {c0 c1 c2 c3 p cs : Int32} {G : Value} {b : Addr} (h0 : ¬ c0 < 0 ∧ ¬ (255 : Int32) < c0) (h1 : ¬ c1 < 0 ∧ ¬ (255 : Int32) < c1) (h2 : ¬ c2 < 0 ∧ ¬ (255 : Int32) < c2) (h3 : ¬ c3 < 0 ∧ ¬ (255 : Int32) < c3) : own_f15 p cs G b c0.toInt8.toInt32 c1.toInt8.toInt32 c2.toInt8.toInt32 c3.toInt8.toInt32 = own_cat c0 c1 c2 c3 p := by
  have R := own_catR (p := p) h0 h1 h2 h3
  unfold own_f15 own_f17
  rw [own_catM, own_lo R]
  show (((own_cat c0 c1 c2 c3 p).toUInt32.toUInt16.toUInt32.toInt32).toUInt32.toUInt16.toUInt32.toInt32).toUInt32.toUInt16.toUInt32.toInt32 = _
  rw [own_narc R, own_narc R, own_narc R]
def own_chr (p x c0 c1 c2 c3 : Int32) : Int32 := if (x &&& (1 : Int32)) = (0 : Int32) then ((XT.ushr x (1 : Int32)) &&& (255 : Int32)).toUInt32.toUInt16.toUInt32.toInt32 else (if p < (4 : Int32) then own_cat c0 c1 c2 c3 p else ((XT.ushr x (1 : Int32)) &&& (255 : Int32)).toUInt32.toUInt16.toUInt32.toInt32)
def own_q (p e ch c0 c1 c2 c3 : Int32) : Int32 := if p < e then (if own_cat c0 c1 c2 c3 p = ch then p + (1 : Int32) else p) else p
theorem own_succ {p e : Int32} (h : p < e) : (p + 1).toInt = p.toInt + 1 := by
  have a := c_iadd p 1; have b := rng32 (p + 1); have d := rng32 e; have d' := rng32 p
  simp only [Int32.lt_iff_toInt_lt, Int32.reduceToInt] at *; omega
theorem own_qR {p e ch c0 c1 c2 c3 : Int32} (h : ¬ p < 0) : ¬ own_q p e ch c0 c1 c2 c3 < 0 := by
  unfold own_q
  split
  · rename_i hlt
    have := own_succ hlt
    split
    · simp only [Int32.lt_iff_toInt_lt, Int32.reduceToInt] at *; omega
    · exact h
  · exact h
theorem own_posq {a1 a6 b6 : Addr} {G : Value} {p e ch cs c0 c1 c2 c3 : Int32} (h0 : ¬ c0 < 0 ∧ ¬ (255 : Int32) < c0) (h1 : ¬ c1 < 0 ∧ ¬ (255 : Int32) < c1) (h2 : ¬ c2 < 0 ∧ ¬ (255 : Int32) < c2) (h3 : ¬ c3 < 0 ∧ ¬ (255 : Int32) < c3) : own_g14_3 a1 ch a6 e p cs G b6 c0.toInt8.toInt32 c1.toInt8.toInt32 c2.toInt8.toInt32 c3.toInt8.toInt32 = own_q p e ch c0 c1 c2 c3 := by
  unfold own_g14_3 own_q
  rw [own_read h0 h1 h2 h3]
theorem own_got {a1 a6 b6 : Addr} {G : Value} {p e ch cs c0 c1 c2 c3 z : Int32} (h0 : ¬ c0 < 0 ∧ ¬ (255 : Int32) < c0) (h1 : ¬ c1 < 0 ∧ ¬ (255 : Int32) < c1) (h2 : ¬ c2 < 0 ∧ ¬ (255 : Int32) < c2) (h3 : ¬ c3 < 0 ∧ ¬ (255 : Int32) < c3) (hz : z = if own_q p e ch c0 c1 c2 c3 = p then (0 : Int32) else 1) : own_f14 a1 ch a6 e p cs G b6 c0.toInt8.toInt32 c1.toInt8.toInt32 c2.toInt8.toInt32 c3.toInt8.toInt32 = z := by
  subst hz
  unfold own_f14 own_q
  rw [own_read h0 h1 h2 h3]
  by_cases hlt : p < e
  · rw [if_pos hlt, if_pos hlt]
    have hs := own_succ hlt
    have hne : ¬ p + 1 = p := fun h => by rw [← Int32.toInt_inj] at h; omega
    by_cases hc : own_cat c0 c1 c2 c3 p = ch
    · rw [if_pos hc, if_pos hc, if_neg hne]
    · rw [if_neg hc, if_neg hc, if_pos rfl]
  · rw [if_neg hlt, if_neg hlt, if_pos rfl]
theorem own_pd7 : parseMethodDescriptor "(C)Z" = some ⟨[.char], some .boolean⟩ := by decide +kernel
theorem own_pn18 : plainName "com/example/tisza/tisza/tree/TextScannerAtEndPinLaw" = true := by first | (simp [plainName, overriddenIn]; done) | decide +kernel
theorem own_ef13 (m : MethodId) (a1 : Addr) (a2 : Addr) (p3 : Int32) (p4 : Int32) (p5 : Int32) : entryFrame m #[.ref a1, .ref a2, .int p3, .int p4, .int p5] 8 = mkF m 0 #[.val (.ref a1), .val (.ref a2), .val (.int p3), .val (.int p4), .val (.int p5), .unset, .unset, .unset] [] := by first | (simp [entryFrame, mkF, argsToLocals, Value.category]; done) | rfl
theorem own_d13_0 : decode method_2_code 0 = .ok (.iload_n 3, 1) := by decide +kernel
theorem own_d13_1 : decode method_2_code 1 = .ok (.ifCond .ge 5, 3) := by decide +kernel
theorem own_d13_6 : decode method_2_code 6 = .ok (.iload 4, 2) := by decide +kernel
theorem own_d13_8 : decode method_2_code 8 = .ok (.iconst 1, 1) := by decide +kernel
theorem own_d13_9 : decode method_2_code 9 = .ok (.iand, 1) := by decide +kernel
theorem own_d13_10 : decode method_2_code 10 = .ok (.ifCond .eq 14, 3) := by decide +kernel
theorem own_d13_13 : decode method_2_code 13 = .ok (.iload_n 3, 1) := by decide +kernel
theorem own_d13_14 : decode method_2_code 14 = .ok (.iconst 4, 1) := by decide +kernel
theorem own_d13_15 : decode method_2_code 15 = .ok (.if_icmp .ge 9, 3) := by decide +kernel
theorem own_d13_18 : decode method_2_code 18 = .ok (.aload_n 1, 1) := by decide +kernel
theorem own_d13_19 : decode method_2_code 19 = .ok (.iload_n 3, 1) := by decide +kernel
theorem own_d13_20 : decode method_2_code 20 = .ok (.caload, 1) := by decide +kernel
theorem own_d13_21 : decode method_2_code 21 = .ok (.goto 12, 3) := by decide +kernel
theorem own_d13_24 : decode method_2_code 24 = .ok (.iload 4, 2) := by decide +kernel
theorem own_d13_26 : decode method_2_code 26 = .ok (.iconst 1, 1) := by decide +kernel
theorem own_d13_27 : decode method_2_code 27 = .ok (.iushr, 1) := by decide +kernel
theorem own_d13_28 : decode method_2_code 28 = .ok (.sipush 255, 3) := by decide +kernel
theorem own_d13_31 : decode method_2_code 31 = .ok (.iand, 1) := by decide +kernel
theorem own_d13_32 : decode method_2_code 32 = .ok (.i2c, 1) := by decide +kernel
theorem own_d13_33 : decode method_2_code 33 = .ok (.istore 5, 2) := by decide +kernel
theorem own_d13_35 : decode method_2_code 35 = .ok (.aload_n 0, 1) := by decide +kernel
theorem own_d13_36 : decode method_2_code 36 = .ok (.iload 5, 2) := by decide +kernel
theorem own_d13_38 : decode method_2_code 38 = .ok (.invokevirtual 7, 3) := by decide +kernel
theorem own_d13_41 : decode method_2_code 41 = .ok (.istore 6, 2) := by decide +kernel
theorem own_d13_43 : decode method_2_code 43 = .ok (.iload_n 3, 1) := by decide +kernel
theorem own_d13_44 : decode method_2_code 44 = .ok (.iload_n 2, 1) := by decide +kernel
theorem own_d13_45 : decode method_2_code 45 = .ok (.if_icmp .ge 17, 3) := by decide +kernel
theorem own_d13_48 : decode method_2_code 48 = .ok (.aload_n 1, 1) := by decide +kernel
theorem own_d13_49 : decode method_2_code 49 = .ok (.iload_n 3, 1) := by decide +kernel
theorem own_d13_50 : decode method_2_code 50 = .ok (.caload, 1) := by decide +kernel
theorem own_d13_51 : decode method_2_code 51 = .ok (.iload 5, 2) := by decide +kernel
theorem own_d13_53 : decode method_2_code 53 = .ok (.if_icmp .ne 9, 3) := by decide +kernel
theorem own_d13_56 : decode method_2_code 56 = .ok (.iload_n 3, 1) := by decide +kernel
theorem own_d13_57 : decode method_2_code 57 = .ok (.iconst 1, 1) := by decide +kernel
theorem own_d13_58 : decode method_2_code 58 = .ok (.iadd, 1) := by decide +kernel
theorem own_d13_59 : decode method_2_code 59 = .ok (.goto 4, 3) := by decide +kernel
theorem own_d13_62 : decode method_2_code 62 = .ok (.iload_n 3, 1) := by decide +kernel
theorem own_d13_63 : decode method_2_code 63 = .ok (.istore 7, 2) := by decide +kernel
theorem own_d13_65 : decode method_2_code 65 = .ok (.iload 6, 2) := by decide +kernel
theorem own_d13_67 : decode method_2_code 67 = .ok (.iload 7, 2) := by decide +kernel
theorem own_d13_69 : decode method_2_code 69 = .ok (.iload_n 3, 1) := by decide +kernel
theorem own_d13_70 : decode method_2_code 70 = .ok (.if_icmp .eq 7, 3) := by decide +kernel
theorem own_d13_73 : decode method_2_code 73 = .ok (.iconst 1, 1) := by decide +kernel
theorem own_d13_74 : decode method_2_code 74 = .ok (.goto 4, 3) := by decide +kernel
theorem own_d13_77 : decode method_2_code 77 = .ok (.iconst 0, 1) := by decide +kernel
theorem own_d13_78 : decode method_2_code 78 = .ok (.if_icmp .eq 5, 3) := by decide +kernel
theorem own_d13_83 : decode method_2_code 83 = .ok (.aload_n 0, 1) := by decide +kernel
theorem own_d13_84 : decode method_2_code 84 = .ok (.invokevirtual 13, 3) := by decide +kernel
theorem own_d13_87 : decode method_2_code 87 = .ok (.iload 7, 2) := by decide +kernel
theorem own_d13_89 : decode method_2_code 89 = .ok (.iload_n 2, 1) := by decide +kernel
theorem own_d13_90 : decode method_2_code 90 = .ok (.if_icmp .ne 7, 3) := by decide +kernel
theorem own_d13_93 : decode method_2_code 93 = .ok (.iconst 1, 1) := by decide +kernel
theorem own_d13_94 : decode method_2_code 94 = .ok (.goto 4, 3) := by decide +kernel
theorem own_d13_97 : decode method_2_code 97 = .ok (.iconst 0, 1) := by decide +kernel
theorem own_d13_98 : decode method_2_code 98 = .ok (.if_icmp .eq 5, 3) := by decide +kernel
theorem own_d13_103 : decode method_2_code 103 = .ok (.iload 7, 2) := by decide +kernel
theorem own_d13_105 : decode method_2_code 105 = .ok (.ireturn, 1) := by decide +kernel
def own_f13 (a1 : Addr) (a2 : Addr) (p3 : Int32) (p4 : Int32) (p5 : Int32) (a6 : Addr) (cs : Int32) (G : Value) (b6 : Addr) (c0 : Int32) (c1 : Int32) (c2 : Int32) (c3 : Int32) : Int32 := own_q p4 p3 (own_chr p4 p5 c0 c1 c2 c3) c0 c1 c2 c3
def own_Q13 (Z : State) (a1 : Addr) (a2 : Addr) (p3 : Int32) (p4 : Int32) (p5 : Int32) (a6 : Addr) (cs : Int32) (G : Value) (b6 : Addr) (c0 : Int32) (c1 : Int32) (c2 : Int32) (c3 : Int32) (h0 : Heap) (n0 : Nat) (v : Option Value) (h : Heap) (L : List Loc) : Prop := v = some (.int (own_f13 a1 a2 p3 p4 p5 a6 cs G b6 c0 c1 c2 c3)) ∧ Fr n0 L ∧ Keep h0 h [a1] ∧ Exa Z h a1 "com/example/tisza/tisza/tree/TextScanner" ∧ Fld Z h a1 "com/example/tisza/tisza/tree/TextScanner" "text" "Ljava/lang/String;" (.ref a6) ∧ Fld Z h a1 "com/example/tisza/tisza/tree/TextScanner" "end" "I" (.int p3) ∧ Fld Z h a1 "com/example/tisza/tisza/tree/TextScanner" "position" "I" (.int (own_q p4 p3 (own_chr p4 p5 c0 c1 c2 c3) c0 c1 c2 c3)) ∧ own_A Z h a2 .char [.int c0, .int c1, .int c2, .int c3]
set_option maxRecDepth 65536 in
set_option maxHeartbeats 40000000 in
theorem rm13 (l : Launch) (Z : State) (a0 : Array Value) (hw : ∀ d ∈ tables_1, d.before a0 Z = true) (ws : List Jvm.Cond) (a1 : Addr) (a2 : Addr) (p3 : Int32) (p4 : Int32) (p5 : Int32) (a6 : Addr) (cs : Int32) (G : Value) (b6 : Addr) (c0 : Int32) (c1 : Int32) (c2 : Int32) (c3 : Int32) (h0 : Heap) (n0 : Nat) (E0p : Exa Z h0 a1 "com/example/tisza/tisza/tree/TextScanner") (F1p : Fld Z h0 a1 "com/example/tisza/tisza/tree/TextScanner" "text" "Ljava/lang/String;" (.ref a6)) (F2p : Fld Z h0 a1 "com/example/tisza/tisza/tree/TextScanner" "end" "I" (.int p3)) (F3p : Fld Z h0 a1 "com/example/tisza/tisza/tree/TextScanner" "position" "I" (.int p4)) (S4p : Sta Z h0 "java/lang/String" "COMPACT_STRINGS" "Z" (.int cs)) (S5p : Sta Z h0 "jdk/internal/util/Preconditions" "SIOOBE_FORMATTER" "Ljava/util/function/BiFunction;" (G)) (E6p : Exa Z h0 a6 "java/lang/String") (F7p : Fld Z h0 a6 "java/lang/String" "value" "[B" (.ref b6)) (F8p : Fld Z h0 a6 "java/lang/String" "coder" "B" (.int (0 : Int32))) (V9p : own_A Z h0 b6 .byte [.int c0.toInt8.toInt32, .int c1.toInt8.toInt32, .int c2.toInt8.toInt32, .int c3.toInt8.toInt32]) (V10p : own_A Z h0 a2 .char [.int c0, .int c1, .int c2, .int c3]) (G_a1 : n0 ≤ a1) (ne_a2_a1 : a2 ≠ a1) (P0 : ¬ cs = 0) (rG : G.isRef = true) (P1 : ¬ p4 < 0) (P2 : ¬ (4 : Int32) < p3) (C0 : ¬ c0 < 0 ∧ ¬ (255 : Int32) < c0) (C1 : ¬ c1 < 0 ∧ ¬ (255 : Int32) < c1) (C2 : ¬ c2 < 0 ∧ ¬ (255 : Int32) < c2) (C3 : ¬ c3 < 0 ∧ ¬ (255 : Int32) < c3) :
    MetFree l (⟨"com/example/tisza/tisza/tree/TextScannerAtEndPinLaw", "step", "(Lcom/example/tisza/tisza/tree/TextScanner;[CIII)I"⟩ : MethodName) (head1 (Jvm.Cond.code (⟨"com/example/tisza/tisza/tree/TextScannerAtEndPinLaw", "step", "(Lcom/example/tisza/tisza/tree/TextScanner;[CIII)I"⟩ : MethodName) method_2_code 8 (some .int) :: ws) ({ frames := 5, cells := 0, slots := 0, locals := 67 } : Room)) (fun a U => a = #[.ref a1, .ref a2, .int p3, .int p4, .int p5] ∧ Z.Warmed39 U.vm ∧ U.heap = h0) (fun _ _ _ _ _ => True) (fun _ U o U' => ∃ v L, o = .returned v ∧ own_Q13 Z a1 a2 p3 p4 p5 a6 cs G b6 c0 c1 c2 c3 h0 n0 v U'.heap L ∧ FrameEnd U o U' L ({ frames := 5, cells := 0, slots := 0, locals := 67 } : Room).cells ({ frames := 5, cells := 0, slots := 0, locals := 67 } : Room).slots) := by
  refine MetFree.of_bodySF (plainFor_of_name own_pn18) hisR ?_
  intro p e s m args below meth c s₁ Bd hml0 hP hK
  obtain ⟨rfl, hZ, hh⟩ := hP
  have hx := Bd.exec
  have hby := Bd.bytes
  have hml : c.maxLocals = 8 := hml0
  have hown : s.vm.findClass "com/example/tisza/tisza/tree/TextScannerAtEndPinLaw" = some m.cls := findClass_of_methodNamed Bd.named
  have hnm := (name_of_methodNamed Bd.named Bd.method).1
  have hlk : meth.locks = false := BodyLoose.notSynchronized Bd
  have X0 : Stand p l e ({ frames := 5, cells := 0, slots := 0, locals := 67 } : Room) s m #[.ref a1, .ref a2, .int p3, .int p4, .int p5] below meth c s₁ [] 0 0 := Stand.of_body Bd
  have e0 : s₁.heap = h0 := by rw [← hh, Bd.state]; rfl
  have N0 := Fr.nil n0
  have K0 := Keep.refl h0 [a1]
  show own_Go p e below (own_E s 0 0 (own_Q13 Z a1 a2 p3 p4 p5 a6 cs G b6 c0 c1 c2 c3 h0 n0)) (s₁.setTop (entryFrame m #[.ref a1, .ref a2, .int p3, .int p4, .int p5] 8))
  rw [own_ef13]
  refine own_iloadN X0 hx (hb hby own_d13_0) (q := 1) rfl rfl ?_
  refine own_if0M X0 hx (hb hby own_d13_1) (cd := .ge) (x := p4) (pt := 6) (q := 4) (by decide) (by decide) rfl rfl (fun _ => ?_) (fun h => False.elim ((P1 : ¬ (p4 < (0 : Int32))) h))
  refine own_iload X0 hx (hb hby own_d13_6) (q := 8) rfl rfl ?_
  refine own_iconst X0 hx (v := (1 : Int32)) (hb hby own_d13_8) (q := 9) rfl rfl ?_
  refine own_iand X0 hx (hb hby own_d13_9) (q := 10) rfl ?_
  have J145 : ∀ (z144 : Int32), z144 = (if (p5 &&& (1 : Int32)) = (0 : Int32) then ((XT.ushr p5 (1 : Int32)) &&& (255 : Int32)).toUInt32.toUInt16.toUInt32.toInt32 else (if p4 < (4 : Int32) then own_cat c0 c1 c2 c3 p4 else ((XT.ushr p5 (1 : Int32)) &&& (255 : Int32)).toUInt32.toUInt16.toUInt32.toInt32)) → own_Go p e below (own_E s 0 0 (own_Q13 Z a1 a2 p3 p4 p5 a6 cs G b6 c0 c1 c2 c3 h0 n0)) (s₁.setTop (mkF m 33 #[.val (.ref a1), .val (.ref a2), .val (.int p3), .val (.int p4), .val (.int p5), .unset, .unset, .unset] [.int z144])) := by
    intro z144 hz150
    obtain rfl : z144 = own_chr p4 p5 c0 c1 c2 c3 := hz150
    refine own_istore (L' := #[.val (.ref a1), .val (.ref a2), .val (.int p3), .val (.int p4), .val (.int p5), .val (.int (own_chr p4 p5 c0 c1 c2 c3)), .unset, .unset]) X0 hx (hb hby own_d13_33) (q := 35) rfl rfl ?_
    refine own_aloadN X0 hx (hb hby own_d13_35) (q := 36) rfl rfl rfl ?_
    refine own_iload X0 hx (hb hby own_d13_36) (q := 38) rfl rfl ?_
    refine own_callV X0 hx hZ hown (hw _ (List.mem_of_getElem? (i := 72) rfl)) (hw _ (List.mem_of_getElem? (i := 73) rfl)) (hw _ (List.mem_of_getElem? (i := 75) rfl)) (hw _ (List.mem_of_getElem? (i := 75) rfl)) (hw _ (List.mem_of_getElem? (i := 74) rfl)) (hw _ (List.mem_of_getElem? (i := 40) rfl)) (hw _ (List.mem_of_getElem? (i := 76) rfl)) E0p (by decide) (rm14 l Z a0 hw [] a1 (own_chr p4 p5 c0 c1 c2 c3) a6 p3 p4 cs G b6 c0.toInt8.toInt32 c1.toInt8.toInt32 c2.toInt8.toInt32 c3.toInt8.toInt32 h0 n0 E0p F1p F2p F3p S4p S5p E6p F7p F8p V9p G_a1 P0 rG P1 P2) own_pd7 rfl e0 (by rw [hml]; rfl) (argsL := [.int (own_chr p4 p5 c0 c1 c2 c3)]) (st := []) rfl (W := 0) (Nat.le_of_eq rfl) (by decide) (by decide) (by decide) (by decide) (hb hby own_d13_38) (q := 41) rfl (fun v154 T155 L156 X157 hQ158 => ?_)
    obtain ⟨rfl, N159, K160, E162, F163, F164, F165⟩ := hQ158
    have S166 := own_staKeep S4p K160 (allS (own_exaPlain E0p) all0)
    have S167 := own_staKeep S5p K160 (allS (own_exaPlain E0p) all0)
    have V168 := V10p.keep K160 (ninS ne_a2_a1 nin0)
    have K169 := K0.trans K160 (allS (Or.inl (List.mem_of_getElem? (i := 0) rfl)) all0)
    have N161 := Fr.app N0 N159
    show own_Go p e below (own_E s 0 0 (own_Q13 Z a1 a2 p3 p4 p5 a6 cs G b6 c0 c1 c2 c3 h0 n0)) (T155.setTop (mkF m 41 #[.val (.ref a1), .val (.ref a2), .val (.int p3), .val (.int p4), .val (.int p5), .val (.int (own_chr p4 p5 c0 c1 c2 c3)), .unset, .unset] [.int (own_f14 a1 (own_chr p4 p5 c0 c1 c2 c3) a6 p3 p4 cs G b6 c0.toInt8.toInt32 c1.toInt8.toInt32 c2.toInt8.toInt32 c3.toInt8.toInt32)]))
    refine own_istore (L' := #[.val (.ref a1), .val (.ref a2), .val (.int p3), .val (.int p4), .val (.int p5), .val (.int (own_chr p4 p5 c0 c1 c2 c3)), .val (.int (own_f14 a1 (own_chr p4 p5 c0 c1 c2 c3) a6 p3 p4 cs G b6 c0.toInt8.toInt32 c1.toInt8.toInt32 c2.toInt8.toInt32 c3.toInt8.toInt32)), .unset]) X157 hx (hb hby own_d13_41) (q := 43) rfl rfl ?_
    refine own_iloadN X157 hx (hb hby own_d13_43) (q := 44) rfl rfl ?_
    refine own_iloadN X157 hx (hb hby own_d13_44) (q := 45) rfl rfl ?_
    have J171 : ∀ (z170 : Int32), z170 = (if p4 < p3 then (if (own_cat c0 c1 c2 c3 p4) = (own_chr p4 p5 c0 c1 c2 c3) then p4 + (1 : Int32) else p4) else p4) → own_Go p e below (own_E s 0 0 (own_Q13 Z a1 a2 p3 p4 p5 a6 cs G b6 c0 c1 c2 c3 h0 n0)) (T155.setTop (mkF m 63 #[.val (.ref a1), .val (.ref a2), .val (.int p3), .val (.int p4), .val (.int p5), .val (.int (own_chr p4 p5 c0 c1 c2 c3)), .val (.int (own_f14 a1 (own_chr p4 p5 c0 c1 c2 c3) a6 p3 p4 cs G b6 c0.toInt8.toInt32 c1.toInt8.toInt32 c2.toInt8.toInt32 c3.toInt8.toInt32)), .unset] [.int z170])) := by
      intro z170 hz176
      obtain rfl : z170 = own_q p4 p3 (own_chr p4 p5 c0 c1 c2 c3) c0 c1 c2 c3 := hz176
      refine own_istore (L' := #[.val (.ref a1), .val (.ref a2), .val (.int p3), .val (.int p4), .val (.int p5), .val (.int (own_chr p4 p5 c0 c1 c2 c3)), .val (.int (own_f14 a1 (own_chr p4 p5 c0 c1 c2 c3) a6 p3 p4 cs G b6 c0.toInt8.toInt32 c1.toInt8.toInt32 c2.toInt8.toInt32 c3.toInt8.toInt32)), .val (.int (own_q p4 p3 (own_chr p4 p5 c0 c1 c2 c3) c0 c1 c2 c3))]) X157 hx (hb hby own_d13_63) (q := 65) rfl rfl ?_
      refine own_iload X157 hx (hb hby own_d13_65) (q := 67) rfl rfl ?_
      refine own_iload X157 hx (hb hby own_d13_67) (q := 69) rfl rfl ?_
      refine own_iloadN X157 hx (hb hby own_d13_69) (q := 70) rfl rfl ?_
      have J178 : ∀ (z177 : Int32), z177 = (if (own_q p4 p3 (own_chr p4 p5 c0 c1 c2 c3) c0 c1 c2 c3) = p4 then (0 : Int32) else (1 : Int32)) → own_Go p e below (own_E s 0 0 (own_Q13 Z a1 a2 p3 p4 p5 a6 cs G b6 c0 c1 c2 c3 h0 n0)) (T155.setTop (mkF m 78 #[.val (.ref a1), .val (.ref a2), .val (.int p3), .val (.int p4), .val (.int p5), .val (.int (own_chr p4 p5 c0 c1 c2 c3)), .val (.int (own_f14 a1 (own_chr p4 p5 c0 c1 c2 c3) a6 p3 p4 cs G b6 c0.toInt8.toInt32 c1.toInt8.toInt32 c2.toInt8.toInt32 c3.toInt8.toInt32)), .val (.int (own_q p4 p3 (own_chr p4 p5 c0 c1 c2 c3) c0 c1 c2 c3))] [.int z177, .int (own_f14 a1 (own_chr p4 p5 c0 c1 c2 c3) a6 p3 p4 cs G b6 c0.toInt8.toInt32 c1.toInt8.toInt32 c2.toInt8.toInt32 c3.toInt8.toInt32)])) := by
        intro z177 hz183
        refine own_icmpP X157 hx (hb hby own_d13_78) (cd := .eq) (x := own_f14 a1 (own_chr p4 p5 c0 c1 c2 c3) a6 p3 p4 cs G b6 c0.toInt8.toInt32 c1.toInt8.toInt32 c2.toInt8.toInt32 c3.toInt8.toInt32) (y := z177) (pt := 83) (q := 81) (by decide) (by decide) rfl rfl (fun _ => ?_) (fun h => False.elim (h (own_got C0 C1 C2 C3 hz183 : (own_f14 a1 (own_chr p4 p5 c0 c1 c2 c3) a6 p3 p4 cs G b6 c0.toInt8.toInt32 c1.toInt8.toInt32 c2.toInt8.toInt32 c3.toInt8.toInt32) = z177)))
        rw [own_posq C0 C1 C2 C3] at F165
        refine own_aloadN X157 hx (hb hby own_d13_83) (q := 84) rfl rfl rfl ?_
        refine own_callVP X157 hx hZ hown (hw _ (List.mem_of_getElem? (i := 63) rfl)) (hw _ (List.mem_of_getElem? (i := 64) rfl)) (hw _ (List.mem_of_getElem? (i := 66) rfl)) (hw _ (List.mem_of_getElem? (i := 66) rfl)) (hw _ (List.mem_of_getElem? (i := 65) rfl)) (hw _ (List.mem_of_getElem? (i := 40) rfl)) (hw _ (List.mem_of_getElem? (i := 67) rfl)) E162 (by decide) (rm12 l Z a0 hw [] a1 p3 (own_q p4 p3 (own_chr p4 p5 c0 c1 c2 c3) c0 c1 c2 c3) T155.heap F164 F165) own_pd3 rfl rfl (by rw [hml]; rfl) (argsL := []) (st := []) rfl (W := 0) (Nat.le_of_eq rfl) (by decide) (by decide) (by decide) (by decide) (hb hby own_d13_84) (q := 87) rfl (fun T184 X185 e186 => ?_)
        refine own_iload X185 hx (hb hby own_d13_87) (q := 89) rfl rfl ?_
        refine own_iloadN X185 hx (hb hby own_d13_89) (q := 90) rfl rfl ?_
        have J188 : ∀ (z187 : Int32), z187 = (if (own_q p4 p3 (own_chr p4 p5 c0 c1 c2 c3) c0 c1 c2 c3) = p3 then (1 : Int32) else (0 : Int32)) → own_Go p e below (own_E s 0 0 (own_Q13 Z a1 a2 p3 p4 p5 a6 cs G b6 c0 c1 c2 c3 h0 n0)) (T184.setTop (mkF m 98 #[.val (.ref a1), .val (.ref a2), .val (.int p3), .val (.int p4), .val (.int p5), .val (.int (own_chr p4 p5 c0 c1 c2 c3)), .val (.int (own_f14 a1 (own_chr p4 p5 c0 c1 c2 c3) a6 p3 p4 cs G b6 c0.toInt8.toInt32 c1.toInt8.toInt32 c2.toInt8.toInt32 c3.toInt8.toInt32)), .val (.int (own_q p4 p3 (own_chr p4 p5 c0 c1 c2 c3) c0 c1 c2 c3))] [.int z187, .int (own_f12 p3 (own_q p4 p3 (own_chr p4 p5 c0 c1 c2 c3) c0 c1 c2 c3))])) := by
          intro z187 hz193
          refine own_icmpP X185 hx (hb hby own_d13_98) (cd := .eq) (x := own_f12 p3 (own_q p4 p3 (own_chr p4 p5 c0 c1 c2 c3) c0 c1 c2 c3)) (y := z187) (pt := 103) (q := 101) (by decide) (by decide) rfl rfl (fun _ => ?_) (fun h => False.elim (h ((by rw [hz193]; rfl) : (own_f12 p3 (own_q p4 p3 (own_chr p4 p5 c0 c1 c2 c3) c0 c1 c2 c3)) = z187)))
          refine own_iload X185 hx (hb hby own_d13_103) (q := 105) rfl rfl ?_
          refine own_retI X185 hx hlk Bd.returns (hb hby own_d13_105) ?_ (by decide) (by decide)
          have r : own_f13 a1 a2 p3 p4 p5 a6 cs G b6 c0 c1 c2 c3 = own_q p4 p3 (own_chr p4 p5 c0 c1 c2 c3) c0 c1 c2 c3 := by rw [own_f13]
          show own_Q13 Z a1 a2 p3 p4 p5 a6 cs G b6 c0 c1 c2 c3 h0 n0 _ T184.heap _
          rw [e186]
          exact ⟨(by rw [r] <;> rfl), N161, K169, E162, F163, F164, F165, V168⟩
        refine own_icmpM X185 hx (hb hby own_d13_90) (cd := .ne) (x := own_q p4 p3 (own_chr p4 p5 c0 c1 c2 c3) c0 c1 c2 c3) (y := p3) (pt := 97) (q := 93) (by decide) (by decide) rfl rfl (fun (c8 : ¬ ((own_q p4 p3 (own_chr p4 p5 c0 c1 c2 c3) c0 c1 c2 c3) = p3)) => ?_) (fun (c8 : (own_q p4 p3 (own_chr p4 p5 c0 c1 c2 c3) c0 c1 c2 c3) = p3) => ?_)
        · refine own_iconst X185 hx (v := (0 : Int32)) (hb hby own_d13_97) (q := 98) rfl rfl ?_
          exact J188 _ (by rw [if_neg c8])
        · refine own_iconst X185 hx (v := (1 : Int32)) (hb hby own_d13_93) (q := 94) rfl rfl ?_
          refine own_goto X185 hx (hb hby own_d13_94) (q := 98) (by decide) (by decide) ?_
          exact J188 _ (by rw [if_pos c8])
      refine own_icmpP X157 hx (hb hby own_d13_70) (cd := .eq) (x := own_q p4 p3 (own_chr p4 p5 c0 c1 c2 c3) c0 c1 c2 c3) (y := p4) (pt := 77) (q := 73) (by decide) (by decide) rfl rfl (fun (c9 : (own_q p4 p3 (own_chr p4 p5 c0 c1 c2 c3) c0 c1 c2 c3) = p4) => ?_) (fun (c9 : ¬ ((own_q p4 p3 (own_chr p4 p5 c0 c1 c2 c3) c0 c1 c2 c3) = p4)) => ?_)
      · refine own_iconst X157 hx (v := (0 : Int32)) (hb hby own_d13_77) (q := 78) rfl rfl ?_
        exact J178 _ (by rw [if_pos c9])
      · refine own_iconst X157 hx (v := (1 : Int32)) (hb hby own_d13_73) (q := 74) rfl rfl ?_
        refine own_goto X157 hx (hb hby own_d13_74) (q := 78) (by decide) (by decide) ?_
        exact J178 _ (by rw [if_neg c9])
    refine own_icmpM X157 hx (hb hby own_d13_45) (cd := .ge) (x := p4) (y := p3) (pt := 62) (q := 48) (by decide) (by decide) rfl rfl (fun (c10 : ¬ (p4 < p3)) => ?_) (fun (c10 : p4 < p3) => ?_)
    · refine own_iloadN X157 hx (hb hby own_d13_62) (q := 63) rfl rfl ?_
      exact J171 _ (by rw [if_neg c10])
    · refine own_aloadN X157 hx (hb hby own_d13_48) (q := 49) rfl rfl rfl ?_
      refine own_iloadN X157 hx (hb hby own_d13_49) (q := 50) rfl rfl ?_
      refine own_caload X157 hx hZ (i := (p4).toNatClampNeg) (v := .int (own_cat c0 c1 c2 c3 p4)) rfl V168 P1 rfl (own_catV P1 (own_lt4 c10 P2)) (hb hby own_d13_50) (q := 51) rfl ?_
      refine own_iload X157 hx (hb hby own_d13_51) (q := 53) rfl rfl ?_
      refine own_icmpM X157 hx (hb hby own_d13_53) (cd := .ne) (x := own_cat c0 c1 c2 c3 p4) (y := own_chr p4 p5 c0 c1 c2 c3) (pt := 62) (q := 56) (by decide) (by decide) rfl rfl (fun (c11 : ¬ ((own_cat c0 c1 c2 c3 p4) = (own_chr p4 p5 c0 c1 c2 c3))) => ?_) (fun (c11 : (own_cat c0 c1 c2 c3 p4) = (own_chr p4 p5 c0 c1 c2 c3)) => ?_)
      · refine own_iloadN X157 hx (hb hby own_d13_62) (q := 63) rfl rfl ?_
        exact J171 _ (by rw [if_pos c10, if_neg c11])
      · refine own_iloadN X157 hx (hb hby own_d13_56) (q := 57) rfl rfl ?_
        refine own_iconst X157 hx (v := (1 : Int32)) (hb hby own_d13_57) (q := 58) rfl rfl ?_
        refine own_iadd X157 hx (hb hby own_d13_58) (q := 59) rfl ?_
        refine own_goto X157 hx (hb hby own_d13_59) (q := 63) (by decide) (by decide) ?_
        exact J171 _ (by rw [if_pos c10, if_pos c11])
  refine own_if0P X0 hx (hb hby own_d13_10) (cd := .eq) (x := p5 &&& (1 : Int32)) (pt := 24) (q := 13) (by decide) (by decide) rfl rfl (fun (c12 : (p5 &&& (1 : Int32)) = (0 : Int32)) => ?_) (fun (c12 : ¬ ((p5 &&& (1 : Int32)) = (0 : Int32))) => ?_)
  · refine own_iload X0 hx (hb hby own_d13_24) (q := 26) rfl rfl ?_
    refine own_iconst X0 hx (v := (1 : Int32)) (hb hby own_d13_26) (q := 27) rfl rfl ?_
    refine own_iushr X0 hx (hb hby own_d13_27) (q := 28) rfl ?_
    refine own_sipush X0 hx (v := (255 : Int32)) (hb hby own_d13_28) (q := 31) rfl rfl ?_
    refine own_iand X0 hx (hb hby own_d13_31) (q := 32) rfl ?_
    refine own_i2c X0 hx (hb hby own_d13_32) (q := 33) rfl ?_
    exact J145 _ (by rw [if_pos c12])
  · refine own_iloadN X0 hx (hb hby own_d13_13) (q := 14) rfl rfl ?_
    refine own_iconst X0 hx (v := (4 : Int32)) (hb hby own_d13_14) (q := 15) rfl rfl ?_
    refine own_icmpM X0 hx (hb hby own_d13_15) (cd := .ge) (x := p4) (y := (4 : Int32)) (pt := 24) (q := 18) (by decide) (by decide) rfl rfl (fun (c13 : ¬ (p4 < (4 : Int32))) => ?_) (fun (c13 : p4 < (4 : Int32)) => ?_)
    · refine own_iload X0 hx (hb hby own_d13_24) (q := 26) rfl rfl ?_
      refine own_iconst X0 hx (v := (1 : Int32)) (hb hby own_d13_26) (q := 27) rfl rfl ?_
      refine own_iushr X0 hx (hb hby own_d13_27) (q := 28) rfl ?_
      refine own_sipush X0 hx (v := (255 : Int32)) (hb hby own_d13_28) (q := 31) rfl rfl ?_
      refine own_iand X0 hx (hb hby own_d13_31) (q := 32) rfl ?_
      refine own_i2c X0 hx (hb hby own_d13_32) (q := 33) rfl ?_
      exact J145 _ (by rw [if_neg c12, if_neg c13])
    · refine own_aloadN X0 hx (hb hby own_d13_18) (q := 19) rfl rfl rfl ?_
      refine own_iloadN X0 hx (hb hby own_d13_19) (q := 20) rfl rfl ?_
      refine own_caload X0 hx hZ (i := (p4).toNatClampNeg) (v := .int (own_cat c0 c1 c2 c3 p4)) e0 V10p P1 rfl (own_catV P1 c13) (hb hby own_d13_20) (q := 21) rfl ?_
      refine own_goto X0 hx (hb hby own_d13_21) (q := 33) (by decide) (by decide) ?_
      exact J145 _ (by rw [if_neg c12, if_pos c13])
theorem own_ab (x y : Int32) (hx : 0 ≤ x.toInt) (hy : 0 ≤ y.toInt) : ¬ own_f1 (x % 5) (y % 5) < 0 ∧ ¬ own_f2 (x % 5) (y % 5) < own_f1 (x % 5) (y % 5) ∧ ¬ (4 : Int32) < own_f2 (x % 5) (y % 5) := by
  have h1 := (c_irem x 5 5 (by decide)).1 hx
  have h2 := (c_irem y 5 5 (by decide)).1 hy
  unfold own_f1 own_f2
  simp only [Int32.lt_iff_toInt_lt, Int32.reduceToInt] at *
  rw [h1, h2]
  split <;> split <;> (try simp only [h1, h2]) <;> omega
theorem own_m31 (x : Int32) : 0 ≤ (x &&& (2147483647 : Int32)).toInt := by
  have h := c_mask x 2147483647 31 (by decide) (by decide)
  rw [h]; omega
theorem own_u16 (x : Int32) : 0 ≤ (XT.ushr x 16).toInt := by
  have h : (XT.ushr x 16).toInt = (x.toInt % 4294967296) / (2 ^ 16 : Nat) := c_iushr x 16 16 (by decide) (by decide)
  rw [h]; omega
theorem own_pd8 : parseMethodDescriptor "(II)I" = some ⟨[.int, .int], some .int⟩ := by decide +kernel
theorem own_pd9 : parseMethodDescriptor "([C)V" = some ⟨[(.array .char)], none⟩ := by decide +kernel
theorem own_pd10 : parseMethodDescriptor "(Ljava/lang/String;III)V" = some ⟨[(.object "java/lang/String"), .int, .int, .int], none⟩ := by decide +kernel
theorem own_pd11 : parseMethodDescriptor "(Lcom/example/tisza/tisza/tree/TextScanner;[CIII)I" = some ⟨[(.object "com/example/tisza/tisza/tree/TextScanner"), (.array .char), .int, .int, .int], some .int⟩ := by decide +kernel
theorem own_ef0 (m : MethodId) (p1 : Int32) (p2 : Int32) (p3 : Int32) (p4 : Int32) (p5 : Int32) (p6 : Int32) : entryFrame m #[.int p1, .int p2, .int p3, .int p4, .int p5, .int p6] maxLocals = mkF m 0 #[.val (.int p1), .val (.int p2), .val (.int p3), .val (.int p4), .val (.int p5), .val (.int p6), .unset, .unset, .unset, .unset, .unset, .unset, .unset, .unset, .unset] [] := by first | (simp [entryFrame, mkF, argsToLocals, Value.category, maxLocals]; done) | rfl
def own_Q0 (n0 : Nat) (v : Option Value) (h : Heap) (L : List Loc) : Prop := v = some (.int 1) ∧ Fr n0 L
set_option maxRecDepth 65536 in
set_option maxHeartbeats 40000000 in
theorem rm0 (l : Launch) (Z : State) (a0 : Array Value) (hw : ∀ d ∈ tables_1, d.before a0 Z = true) (ws : List Jvm.Cond) (p1 : Int32) (p2 : Int32) (p3 : Int32) (p4 : Int32) (p5 : Int32) (p6 : Int32) (h0 : Heap) (n0 : Nat) (Z0 : n0 ≤ h0.size) {cs : Int32} {G : Value} (SCS : Sta Z h0 "java/lang/String" "COMPACT_STRINGS" "Z" (.int cs)) (PCS : ¬ cs = 0) (SSG : Sta Z h0 "jdk/internal/util/Preconditions" "SIOOBE_FORMATTER" "Ljava/util/function/BiFunction;" G) (rG : G.isRef = true) :
    MetFree l x (head1 (Jvm.Cond.code x code maxLocals ret :: ws) room_1) (fun a U => a = #[.int p1, .int p2, .int p3, .int p4, .int p5, .int p6] ∧ Z.Warmed39 U.vm ∧ U.heap = h0) (fun _ _ _ _ _ => True) (fun _ U o U' => ∃ v L, o = .returned v ∧ own_Q0 n0 v U'.heap L ∧ FrameEnd U o U' L 16 128) := by
  refine MetFree.of_bodySF (plainFor_of_name own_pn18) hisR ?_
  intro p e s m args below meth c s₁ Bd hml0 hP hK
  obtain ⟨rfl, hZ, hh⟩ := hP
  have hx := Bd.exec
  have hby := Bd.bytes
  have hml : c.maxLocals = 15 := hml0
  have hown : s.vm.findClass "com/example/tisza/tisza/tree/TextScannerAtEndPinLaw" = some m.cls := findClass_of_methodNamed Bd.named
  have hnm := (name_of_methodNamed Bd.named Bd.method).1
  have hlk : meth.locks = false := BodyLoose.notSynchronized Bd
  have X0 : Stand p l e room_1 s m #[.int p1, .int p2, .int p3, .int p4, .int p5, .int p6] below meth c s₁ [] 0 0 := Stand.of_body Bd
  have e0 : s₁.heap = h0 := by rw [← hh, Bd.state]; rfl
  have N0 := Fr.nil n0
  show own_Go p e below (own_E s 16 128 (own_Q0 n0)) (s₁.setTop (entryFrame m #[.int p1, .int p2, .int p3, .int p4, .int p5, .int p6] maxLocals))
  rw [own_ef0]
  refine own_iconst X0 hx (v := (4 : Int32)) (hb hby at_0) (q := 1) rfl rfl ?_
  refine own_newA X0 hx hZ (aty := .char) (ty := .char) (k := 4) (cap := 4) rfl (hw _ (List.mem_of_getElem? (i := 0) rfl)) e0 (by decide) (by decide) (by decide) (by decide) (by decide) (by decide) (hb hby at_1) (q := 3) rfl (fun T194 h197 a198 X195 e196 g199 E200 A201 => ?_)
  have S202 := Sta.ext E200 SCS
  have S203 := Sta.ext E200 SSG
  have Z204 : n0 ≤ a198 := by rw [g199]; exact Z0
  have Z205 : n0 ≤ h197.size := Nat.le_trans Z0 E200.1
  replace A201 : own_A Z h197 a198 .char [.int (0 : Int32), .int (0 : Int32), .int (0 : Int32), .int (0 : Int32)] := A201
  refine own_astore (L' := #[.val (.int p1), .val (.int p2), .val (.int p3), .val (.int p4), .val (.int p5), .val (.int p6), .val (.ref a198), .unset, .unset, .unset, .unset, .unset, .unset, .unset, .unset]) X195 hx (hb hby at_3) (q := 5) rfl rfl rfl ?_
  refine own_aload X195 hx (hb hby at_5) (q := 7) rfl rfl rfl ?_
  refine own_iconst X195 hx (v := (0 : Int32)) (hb hby at_7) (q := 8) rfl rfl ?_
  refine own_iloadN X195 hx (hb hby at_8) (q := 9) rfl rfl ?_
  refine own_sipush X195 hx (v := (255 : Int32)) (hb hby at_9) (q := 12) rfl rfl ?_
  refine own_iand X195 hx (hb hby at_12) (q := 13) rfl ?_
  refine own_i2c X195 hx (hb hby at_13) (q := 14) rfl ?_
  refine own_castore X195 hx hZ (i := 0) e196 A201 (by decide) (by decide) (Nat.le_of_ble_eq_true rfl) (hb hby at_14) (q := 15) rfl (fun T206 h209 X207 e208 W210 A211 => ?_)
  replace A211 : own_A Z h209 a198 .char [.int (nar .char ((p1 &&& (255 : Int32)).toUInt32.toUInt16.toUInt32.toInt32)), .int (0 : Int32), .int (0 : Int32), .int (0 : Int32)] := A211
  have S212 := Sta.wr W210 S202
  have S213 := Sta.wr W210 S203
  have Z214 : n0 ≤ h209.size := W210.size ▸ Z205
  have N215 := Fr.snoc X207 N0 Z204
  refine own_aload X207 hx (hb hby at_15) (q := 17) rfl rfl rfl ?_
  refine own_iconst X207 hx (v := (1 : Int32)) (hb hby at_17) (q := 18) rfl rfl ?_
  refine own_iloadN X207 hx (hb hby at_18) (q := 19) rfl rfl ?_
  refine own_bipush X207 hx (v := (8 : Int32)) (hb hby at_19) (q := 21) rfl rfl ?_
  refine own_iushr X207 hx (hb hby at_21) (q := 22) rfl ?_
  refine own_sipush X207 hx (v := (255 : Int32)) (hb hby at_22) (q := 25) rfl rfl ?_
  refine own_iand X207 hx (hb hby at_25) (q := 26) rfl ?_
  refine own_i2c X207 hx (hb hby at_26) (q := 27) rfl ?_
  refine own_castore X207 hx hZ (i := 1) e208 A211 (by decide) (by decide) (Nat.le_of_ble_eq_true rfl) (hb hby at_27) (q := 28) rfl (fun T216 h219 X217 e218 W220 A221 => ?_)
  replace A221 : own_A Z h219 a198 .char [.int (nar .char ((p1 &&& (255 : Int32)).toUInt32.toUInt16.toUInt32.toInt32)), .int (nar .char (((XT.ushr p1 (8 : Int32)) &&& (255 : Int32)).toUInt32.toUInt16.toUInt32.toInt32)), .int (0 : Int32), .int (0 : Int32)] := A221
  have S222 := Sta.wr W220 S212
  have S223 := Sta.wr W220 S213
  have Z224 : n0 ≤ h219.size := W220.size ▸ Z214
  have N225 := Fr.snoc X217 N215 Z204
  refine own_aload X217 hx (hb hby at_28) (q := 30) rfl rfl rfl ?_
  refine own_iconst X217 hx (v := (2 : Int32)) (hb hby at_30) (q := 31) rfl rfl ?_
  refine own_iloadN X217 hx (hb hby at_31) (q := 32) rfl rfl ?_
  refine own_bipush X217 hx (v := (16 : Int32)) (hb hby at_32) (q := 34) rfl rfl ?_
  refine own_iushr X217 hx (hb hby at_34) (q := 35) rfl ?_
  refine own_sipush X217 hx (v := (255 : Int32)) (hb hby at_35) (q := 38) rfl rfl ?_
  refine own_iand X217 hx (hb hby at_38) (q := 39) rfl ?_
  refine own_i2c X217 hx (hb hby at_39) (q := 40) rfl ?_
  refine own_castore X217 hx hZ (i := 2) e218 A221 (by decide) (by decide) (Nat.le_of_ble_eq_true rfl) (hb hby at_40) (q := 41) rfl (fun T226 h229 X227 e228 W230 A231 => ?_)
  replace A231 : own_A Z h229 a198 .char [.int (nar .char ((p1 &&& (255 : Int32)).toUInt32.toUInt16.toUInt32.toInt32)), .int (nar .char (((XT.ushr p1 (8 : Int32)) &&& (255 : Int32)).toUInt32.toUInt16.toUInt32.toInt32)), .int (nar .char (((XT.ushr p1 (16 : Int32)) &&& (255 : Int32)).toUInt32.toUInt16.toUInt32.toInt32)), .int (0 : Int32)] := A231
  have S232 := Sta.wr W230 S222
  have S233 := Sta.wr W230 S223
  have Z234 : n0 ≤ h229.size := W230.size ▸ Z224
  have N235 := Fr.snoc X227 N225 Z204
  refine own_aload X227 hx (hb hby at_41) (q := 43) rfl rfl rfl ?_
  refine own_iconst X227 hx (v := (3 : Int32)) (hb hby at_43) (q := 44) rfl rfl ?_
  refine own_iloadN X227 hx (hb hby at_44) (q := 45) rfl rfl ?_
  refine own_bipush X227 hx (v := (24 : Int32)) (hb hby at_45) (q := 47) rfl rfl ?_
  refine own_iushr X227 hx (hb hby at_47) (q := 48) rfl ?_
  refine own_sipush X227 hx (v := (255 : Int32)) (hb hby at_48) (q := 51) rfl rfl ?_
  refine own_iand X227 hx (hb hby at_51) (q := 52) rfl ?_
  refine own_i2c X227 hx (hb hby at_52) (q := 53) rfl ?_
  refine own_castore X227 hx hZ (i := 3) e228 A231 (by decide) (by decide) (Nat.le_of_ble_eq_true rfl) (hb hby at_53) (q := 54) rfl (fun T236 h239 X237 e238 W240 A241 => ?_)
  replace A241 : own_A Z h239 a198 .char [.int (nar .char ((p1 &&& (255 : Int32)).toUInt32.toUInt16.toUInt32.toInt32)), .int (nar .char (((XT.ushr p1 (8 : Int32)) &&& (255 : Int32)).toUInt32.toUInt16.toUInt32.toInt32)), .int (nar .char (((XT.ushr p1 (16 : Int32)) &&& (255 : Int32)).toUInt32.toUInt16.toUInt32.toInt32)), .int (nar .char (((XT.ushr p1 (24 : Int32)) &&& (255 : Int32)).toUInt32.toUInt16.toUInt32.toInt32))] := A241
  have S242 := Sta.wr W240 S232
  have S243 := Sta.wr W240 S233
  have Z244 : n0 ≤ h239.size := W240.size ▸ Z234
  have N245 := Fr.snoc X237 N235 Z204
  refine own_iloadN X237 hx (hb hby at_54) (q := 55) rfl rfl ?_
  refine own_ldc X237 hx hZ hown (hw _ (List.mem_of_getElem? (i := 1) rfl)) (hb hby at_55) (q := 57) rfl ?_
  refine own_iand X237 hx (hb hby at_57) (q := 58) rfl ?_
  refine own_iconst X237 hx (v := (5 : Int32)) (hb hby at_58) (q := 59) rfl rfl ?_
  refine own_irem X237 hx (hb hby at_59) (q := 60) rfl (by decide) ?_
  refine own_istore (L' := #[.val (.int p1), .val (.int p2), .val (.int p3), .val (.int p4), .val (.int p5), .val (.int p6), .val (.ref a198), .val (.int ((p2 &&& (2147483647 : Int32)) % (5 : Int32))), .unset, .unset, .unset, .unset, .unset, .unset, .unset]) X237 hx (hb hby at_60) (q := 62) rfl rfl ?_
  refine own_iloadN X237 hx (hb hby at_62) (q := 63) rfl rfl ?_
  refine own_bipush X237 hx (v := (16 : Int32)) (hb hby at_63) (q := 65) rfl rfl ?_
  refine own_iushr X237 hx (hb hby at_65) (q := 66) rfl ?_
  refine own_iconst X237 hx (v := (5 : Int32)) (hb hby at_66) (q := 67) rfl rfl ?_
  refine own_irem X237 hx (hb hby at_67) (q := 68) rfl (by decide) ?_
  refine own_istore (L' := #[.val (.int p1), .val (.int p2), .val (.int p3), .val (.int p4), .val (.int p5), .val (.int p6), .val (.ref a198), .val (.int ((p2 &&& (2147483647 : Int32)) % (5 : Int32))), .val (.int ((XT.ushr p2 (16 : Int32)) % (5 : Int32))), .unset, .unset, .unset, .unset, .unset, .unset]) X237 hx (hb hby at_68) (q := 70) rfl rfl ?_
  refine own_iload X237 hx (hb hby at_70) (q := 72) rfl rfl ?_
  refine own_iload X237 hx (hb hby at_72) (q := 74) rfl rfl ?_
  refine own_callSP X237 hx hZ hown (hw _ (List.mem_of_getElem? (i := 2) rfl)) (hw _ (List.mem_of_getElem? (i := 3) rfl)) (hw _ (List.mem_of_getElem? (i := 4) rfl)) (hw _ (List.mem_of_getElem? (i := 5) rfl)) (by decide) (rm1 l Z a0 hw [] ((p2 &&& (2147483647 : Int32)) % (5 : Int32)) ((XT.ushr p2 (16 : Int32)) % (5 : Int32)) h239) own_pd8 rfl e238 (by rw [hml]; rfl) (argsL := [.int ((p2 &&& (2147483647 : Int32)) % (5 : Int32)), .int ((XT.ushr p2 (16 : Int32)) % (5 : Int32))]) (st := []) rfl (W := 0) (Nat.le_of_eq rfl) (by decide) (by decide) (by decide) (by decide) (hb hby at_74) (q := 77) rfl (fun T246 X247 e248 => ?_)
  refine own_istore (L' := #[.val (.int p1), .val (.int p2), .val (.int p3), .val (.int p4), .val (.int p5), .val (.int p6), .val (.ref a198), .val (.int ((p2 &&& (2147483647 : Int32)) % (5 : Int32))), .val (.int ((XT.ushr p2 (16 : Int32)) % (5 : Int32))), .val (.int (own_f1 ((p2 &&& (2147483647 : Int32)) % (5 : Int32)) ((XT.ushr p2 (16 : Int32)) % (5 : Int32)))), .unset, .unset, .unset, .unset, .unset]) X247 hx (hb hby at_77) (q := 79) rfl rfl ?_
  refine own_iload X247 hx (hb hby at_79) (q := 81) rfl rfl ?_
  refine own_iload X247 hx (hb hby at_81) (q := 83) rfl rfl ?_
  refine own_callSP X247 hx hZ hown (hw _ (List.mem_of_getElem? (i := 6) rfl)) (hw _ (List.mem_of_getElem? (i := 7) rfl)) (hw _ (List.mem_of_getElem? (i := 4) rfl)) (hw _ (List.mem_of_getElem? (i := 8) rfl)) (by decide) (rm2 l Z a0 hw [] ((p2 &&& (2147483647 : Int32)) % (5 : Int32)) ((XT.ushr p2 (16 : Int32)) % (5 : Int32)) h239) own_pd8 rfl e248 (by rw [hml]; rfl) (argsL := [.int ((p2 &&& (2147483647 : Int32)) % (5 : Int32)), .int ((XT.ushr p2 (16 : Int32)) % (5 : Int32))]) (st := []) rfl (W := 0) (Nat.le_of_eq rfl) (by decide) (by decide) (by decide) (by decide) (hb hby at_83) (q := 86) rfl (fun T249 X250 e251 => ?_)
  refine own_istore (L' := #[.val (.int p1), .val (.int p2), .val (.int p3), .val (.int p4), .val (.int p5), .val (.int p6), .val (.ref a198), .val (.int ((p2 &&& (2147483647 : Int32)) % (5 : Int32))), .val (.int ((XT.ushr p2 (16 : Int32)) % (5 : Int32))), .val (.int (own_f1 ((p2 &&& (2147483647 : Int32)) % (5 : Int32)) ((XT.ushr p2 (16 : Int32)) % (5 : Int32)))), .val (.int (own_f2 ((p2 &&& (2147483647 : Int32)) % (5 : Int32)) ((XT.ushr p2 (16 : Int32)) % (5 : Int32)))), .unset, .unset, .unset, .unset]) X250 hx (hb hby at_86) (q := 88) rfl rfl ?_
  obtain ⟨ok0, ok1, ok2⟩ := own_ab _ _ (own_m31 p2) (own_u16 p2)
  have okp0 := ok0
  refine own_new X250 hx hZ hown (hw _ (List.mem_of_getElem? (i := 9) rfl)) (hw _ (List.mem_of_getElem? (i := 10) rfl)) (hw _ (List.mem_of_getElem? (i := 11) rfl)) e251 (hb hby at_88) (by decide) (by decide) (q := 91) rfl (fun T252 h255 a256 X253 e254 g257 E258 A259 D260 => ?_)
  have S261 := Sta.ext E258 S242
  have S262 := Sta.ext E258 S243
  have A263 := A241.ext E258
  have ne264 : a198 ≠ a256 := by rw [g257]; exact Nat.ne_of_lt A241.lt
  have Z265 : n0 ≤ a256 := by rw [g257]; exact Z244
  have Z266 : n0 ≤ h255.size := Nat.le_trans Z244 E258.1
  have F267 : Fld Z h255 a256 "java/lang/String" "coder" "B" (.int (0 : Int32)) := D260 (Or.inr (hw _ (List.mem_of_getElem? (i := 35) rfl))) (ty := .byte) (by decide)
  have F268 : Fld Z h255 a256 "java/lang/String" "value" "[B" (.null) := D260 (Or.inr (hw _ (List.mem_of_getElem? (i := 37) rfl))) (ty := (.array .byte)) (by decide)
  refine own_dup X253 hx (hb hby at_91) (q := 92) rfl rfl ?_
  refine own_aload X253 hx (hb hby at_92) (q := 94) rfl rfl rfl ?_
  obtain ⟨k272, Kv273⟩ : ∃ k, Arv Z h255 a198 k .char (4 : Int32) [.int (nar .char ((p1 &&& (255 : Int32)).toUInt32.toUInt16.toUInt32.toInt32)), .int (nar .char (((XT.ushr p1 (8 : Int32)) &&& (255 : Int32)).toUInt32.toUInt16.toUInt32.toInt32)), .int (nar .char (((XT.ushr p1 (16 : Int32)) &&& (255 : Int32)).toUInt32.toUInt16.toUInt32.toInt32)), .int (nar .char (((XT.ushr p1 (24 : Int32)) &&& (255 : Int32)).toUInt32.toUInt16.toUInt32.toInt32))] (.int 0) := A263.arv rfl (by decide) (by
    intro v hv; simp only [List.mem_cons, List.not_mem_nil, or_false] at hv; rcases hv with rfl | rfl | rfl | rfl
    · exact fits_nar_char _
    · exact fits_nar_char _
    · exact fits_nar_char _
    · exact fits_nar_char _)
  have hp274 : ∀ c ∈ ([nar .char ((p1 &&& (255 : Int32)).toUInt32.toUInt16.toUInt32.toInt32), nar .char (((XT.ushr p1 (8 : Int32)) &&& (255 : Int32)).toUInt32.toUInt16.toUInt32.toInt32), nar .char (((XT.ushr p1 (16 : Int32)) &&& (255 : Int32)).toUInt32.toUInt16.toUInt32.toInt32), nar .char (((XT.ushr p1 (24 : Int32)) &&& (255 : Int32)).toUInt32.toUInt16.toUInt32.toInt32)] : List Int32), ¬ c < 0 ∧ ¬ (255 : Int32) < c := by
    intro c hc; simp only [List.mem_cons, List.not_mem_nil, or_false] at hc; rcases hc with rfl | rfl | rfl | rfl
    · exact own_ch _
    · exact own_ch _
    · exact own_ch _
    · exact own_ch _
  refine own_callCB X253 hx hZ hown rfl (hw _ (List.mem_of_getElem? (i := 12) rfl)) (hw _ (List.mem_of_getElem? (i := 13) rfl)) (hw _ (List.mem_of_getElem? (i := 14) rfl)) (by decide) (StrChars.Road.backV (W := 1) hZ (fun d hd => hw d (own_ws d hd)) (kI := 4) (hw _ (List.mem_of_getElem? (i := 10) rfl)) Z265 Z266 A259 F268 F267 Kv273 S261 PCS (cs := [nar .char ((p1 &&& (255 : Int32)).toUInt32.toUInt16.toUInt32.toInt32), nar .char (((XT.ushr p1 (8 : Int32)) &&& (255 : Int32)).toUInt32.toUInt16.toUInt32.toInt32), nar .char (((XT.ushr p1 (16 : Int32)) &&& (255 : Int32)).toUInt32.toUInt16.toUInt32.toInt32), nar .char (((XT.ushr p1 (24 : Int32)) &&& (255 : Int32)).toUInt32.toUInt16.toUInt32.toInt32)]) (n := 4) rfl rfl (by decide) (by decide) hp274 rfl (by decide) (by decide)) own_pd9 rfl e254 (by rw [hml]; rfl) (argsL := [.ref a198]) (st := [.ref a256]) rfl (Nat.le_of_eq rfl) (by decide) (by decide) (hb hby at_94) (q := 97) rfl (fun v275 T276 L277 X278 hQ279 => ?_)
  obtain ⟨rfl, N280, K281, E283, F284, a285, kb286, G287, G288, G289, F290, A291⟩ := hQ279
  have S292 := own_staKeep S261 K281 (allS (own_exaPlain A259) all0)
  have S293 := own_staKeep S262 K281 (allS (own_exaPlain A259) all0)
  have A294 := A263.keep K281 (ninS ne264 nin0)
  have Z295 : n0 ≤ T276.heap.size := Nat.le_trans Z266 K281.1
  have N282 := Fr.app N245 N280
  have A291b : own_A Z T276.heap a285 .byte [.int ((nar .char ((p1 &&& (255 : Int32)).toUInt32.toUInt16.toUInt32.toInt32)).toInt8.toInt32), .int ((nar .char (((XT.ushr p1 (8 : Int32)) &&& (255 : Int32)).toUInt32.toUInt16.toUInt32.toInt32)).toInt8.toInt32), .int ((nar .char (((XT.ushr p1 (16 : Int32)) &&& (255 : Int32)).toUInt32.toUInt16.toUInt32.toInt32)).toInt8.toInt32), .int ((nar .char (((XT.ushr p1 (24 : Int32)) &&& (255 : Int32)).toUInt32.toUInt16.toUInt32.toInt32)).toInt8.toInt32)] := own_A.of_arv A291 rfl
  have ne296 : a198 ≠ a285 := Nat.ne_of_lt (Nat.lt_of_lt_of_le A263.lt G288)
  have ne297 : a256 ≠ a285 := Nat.ne_of_lt (Nat.lt_of_lt_of_le A259.lt G288)
  show own_Go p e below (own_E s 16 128 (own_Q0 n0)) (T276.setTop (mkF m 97 #[.val (.int p1), .val (.int p2), .val (.int p3), .val (.int p4), .val (.int p5), .val (.int p6), .val (.ref a198), .val (.int ((p2 &&& (2147483647 : Int32)) % (5 : Int32))), .val (.int ((XT.ushr p2 (16 : Int32)) % (5 : Int32))), .val (.int (own_f1 ((p2 &&& (2147483647 : Int32)) % (5 : Int32)) ((XT.ushr p2 (16 : Int32)) % (5 : Int32)))), .val (.int (own_f2 ((p2 &&& (2147483647 : Int32)) % (5 : Int32)) ((XT.ushr p2 (16 : Int32)) % (5 : Int32)))), .unset, .unset, .unset, .unset] [.ref a256]))
  refine own_astore (L' := #[.val (.int p1), .val (.int p2), .val (.int p3), .val (.int p4), .val (.int p5), .val (.int p6), .val (.ref a198), .val (.int ((p2 &&& (2147483647 : Int32)) % (5 : Int32))), .val (.int ((XT.ushr p2 (16 : Int32)) % (5 : Int32))), .val (.int (own_f1 ((p2 &&& (2147483647 : Int32)) % (5 : Int32)) ((XT.ushr p2 (16 : Int32)) % (5 : Int32)))), .val (.int (own_f2 ((p2 &&& (2147483647 : Int32)) % (5 : Int32)) ((XT.ushr p2 (16 : Int32)) % (5 : Int32)))), .val (.ref a256), .unset, .unset, .unset]) X278 hx (hb hby at_97) (q := 99) rfl rfl rfl ?_
  refine own_new X278 hx hZ hown (hw _ (List.mem_of_getElem? (i := 38) rfl)) (hw _ (List.mem_of_getElem? (i := 39) rfl)) (hw _ (List.mem_of_getElem? (i := 40) rfl)) rfl (hb hby at_99) (by decide) (by decide) (q := 102) rfl (fun T298 h301 a302 X299 e300 g303 E304 A305 D306 => ?_)
  have S307 := Sta.ext E304 S292
  have S308 := Sta.ext E304 S293
  have A309 := A294.ext E304
  have E310 := Exa.ext E304 E283
  have F311 := Fld.ext E304 F284
  have F312 := Fld.ext E304 F290
  have A313 := A291b.ext E304
  have ne314 : a198 ≠ a302 := by rw [g303]; exact Nat.ne_of_lt A294.lt
  have ne315 : a256 ≠ a302 := by rw [g303]; exact Nat.ne_of_lt E283.lt
  have ne316 : a285 ≠ a302 := by rw [g303]; exact Nat.ne_of_lt A291b.lt
  have Z317 : n0 ≤ a302 := by rw [g303]; exact Z295
  have Z318 : n0 ≤ h301.size := Nat.le_trans Z295 E304.1
  have F319 : Fld Z h301 a302 "com/example/tisza/tisza/tree/TextScanner" "text" "Ljava/lang/String;" (.null) := D306 (Or.inr (hw _ (List.mem_of_getElem? (i := 56) rfl))) (ty := (.object "java/lang/String")) (by decide)
  have F320 : Fld Z h301 a302 "com/example/tisza/tisza/tree/TextScanner" "end" "I" (.int (0 : Int32)) := D306 (Or.inr (hw _ (List.mem_of_getElem? (i := 58) rfl))) (ty := .int) (by decide)
  have F321 : Fld Z h301 a302 "com/example/tisza/tisza/tree/TextScanner" "position" "I" (.int (0 : Int32)) := D306 (Or.inl (hw _ (List.mem_of_getElem? (i := 60) rfl))) (ty := .int) (by decide)
  have F322 : Fld Z h301 a302 "com/example/tisza/tisza/tree/TextScanner" "line" "I" (.int (0 : Int32)) := D306 (Or.inl (hw _ (List.mem_of_getElem? (i := 62) rfl))) (ty := .int) (by decide)
  refine own_dup X299 hx (hb hby at_102) (q := 103) rfl rfl ?_
  refine own_aload X299 hx (hb hby at_103) (q := 105) rfl rfl rfl ?_
  refine own_iload X299 hx (hb hby at_105) (q := 107) rfl rfl ?_
  refine own_iload X299 hx (hb hby at_107) (q := 109) rfl rfl ?_
  refine own_iconst X299 hx (v := (1 : Int32)) (hb hby at_109) (q := 110) rfl rfl ?_
  refine own_callC X299 hx hZ hown rfl (hw _ (List.mem_of_getElem? (i := 41) rfl)) (hw _ (List.mem_of_getElem? (i := 42) rfl)) (hw _ (List.mem_of_getElem? (i := 40) rfl)) (hw _ (List.mem_of_getElem? (i := 43) rfl)) (by decide) (rm9 l Z a0 hw [] a302 a256 (own_f1 ((p2 &&& (2147483647 : Int32)) % (5 : Int32)) ((XT.ushr p2 (16 : Int32)) % (5 : Int32))) (own_f2 ((p2 &&& (2147483647 : Int32)) % (5 : Int32)) ((XT.ushr p2 (16 : Int32)) % (5 : Int32))) (1 : Int32) cs a285 ((nar .char ((p1 &&& (255 : Int32)).toUInt32.toUInt16.toUInt32.toInt32)).toInt8.toInt32) ((nar .char (((XT.ushr p1 (8 : Int32)) &&& (255 : Int32)).toUInt32.toUInt16.toUInt32.toInt32)).toInt8.toInt32) ((nar .char (((XT.ushr p1 (16 : Int32)) &&& (255 : Int32)).toUInt32.toUInt16.toUInt32.toInt32)).toInt8.toInt32) ((nar .char (((XT.ushr p1 (24 : Int32)) &&& (255 : Int32)).toUInt32.toUInt16.toUInt32.toInt32)).toInt8.toInt32) h301 n0 A305 F319 F320 F321 F322 S307 E310 F312 F311 A313 Z317 PCS ok0 ok1 ok2) own_pd10 rfl e300 (by rw [hml]; rfl) (argsL := [.ref a256, .int (own_f1 ((p2 &&& (2147483647 : Int32)) % (5 : Int32)) ((XT.ushr p2 (16 : Int32)) % (5 : Int32))), .int (own_f2 ((p2 &&& (2147483647 : Int32)) % (5 : Int32)) ((XT.ushr p2 (16 : Int32)) % (5 : Int32))), .int (1 : Int32)]) (st := [.ref a302]) rfl (W := 1) (Nat.le_of_eq rfl) (by decide) (by decide) (by decide) (by decide) (hb hby at_110) (q := 113) rfl (fun v326 T327 L328 X329 hQ330 => ?_)
  obtain ⟨rfl, N331, K332, E334, F335, F336, F337, F338⟩ := hQ330
  have S339 := own_staKeep S307 K332 (allS (own_exaPlain A305) all0)
  have S340 := own_staKeep S308 K332 (allS (own_exaPlain A305) all0)
  have A341 := A309.keep K332 (ninS ne314 nin0)
  have E342 := E310.keep K332
  have F343 := F311.keep K332 (ninS ne315 nin0)
  have F344 := F312.keep K332 (ninS ne315 nin0)
  have A345 := A313.keep K332 (ninS ne316 nin0)
  have Z346 : n0 ≤ T327.heap.size := Nat.le_trans Z318 K332.1
  have N333 := Fr.app N282 N331
  show own_Go p e below (own_E s 16 128 (own_Q0 n0)) (T327.setTop (mkF m 113 #[.val (.int p1), .val (.int p2), .val (.int p3), .val (.int p4), .val (.int p5), .val (.int p6), .val (.ref a198), .val (.int ((p2 &&& (2147483647 : Int32)) % (5 : Int32))), .val (.int ((XT.ushr p2 (16 : Int32)) % (5 : Int32))), .val (.int (own_f1 ((p2 &&& (2147483647 : Int32)) % (5 : Int32)) ((XT.ushr p2 (16 : Int32)) % (5 : Int32)))), .val (.int (own_f2 ((p2 &&& (2147483647 : Int32)) % (5 : Int32)) ((XT.ushr p2 (16 : Int32)) % (5 : Int32)))), .val (.ref a256), .unset, .unset, .unset] [.ref a302]))
  refine own_astore (L' := #[.val (.int p1), .val (.int p2), .val (.int p3), .val (.int p4), .val (.int p5), .val (.int p6), .val (.ref a198), .val (.int ((p2 &&& (2147483647 : Int32)) % (5 : Int32))), .val (.int ((XT.ushr p2 (16 : Int32)) % (5 : Int32))), .val (.int (own_f1 ((p2 &&& (2147483647 : Int32)) % (5 : Int32)) ((XT.ushr p2 (16 : Int32)) % (5 : Int32)))), .val (.int (own_f2 ((p2 &&& (2147483647 : Int32)) % (5 : Int32)) ((XT.ushr p2 (16 : Int32)) % (5 : Int32)))), .val (.ref a256), .val (.ref a302), .unset, .unset]) X329 hx (hb hby at_113) (q := 115) rfl rfl rfl ?_
  refine own_aload X329 hx (hb hby at_115) (q := 117) rfl rfl rfl ?_
  refine own_callVP X329 hx hZ hown (hw _ (List.mem_of_getElem? (i := 63) rfl)) (hw _ (List.mem_of_getElem? (i := 64) rfl)) (hw _ (List.mem_of_getElem? (i := 66) rfl)) (hw _ (List.mem_of_getElem? (i := 66) rfl)) (hw _ (List.mem_of_getElem? (i := 65) rfl)) (hw _ (List.mem_of_getElem? (i := 40) rfl)) (hw _ (List.mem_of_getElem? (i := 67) rfl)) E334 (by decide) (rm12 l Z a0 hw [] a302 (own_f2 ((p2 &&& (2147483647 : Int32)) % (5 : Int32)) ((XT.ushr p2 (16 : Int32)) % (5 : Int32))) (own_f1 ((p2 &&& (2147483647 : Int32)) % (5 : Int32)) ((XT.ushr p2 (16 : Int32)) % (5 : Int32))) T327.heap F336 F337) own_pd3 rfl rfl (by rw [hml]; rfl) (argsL := []) (st := []) rfl (W := 0) (Nat.le_of_eq rfl) (by decide) (by decide) (by decide) (by decide) (hb hby at_117) (q := 120) rfl (fun T347 X348 e349 => ?_)
  refine own_iload X348 hx (hb hby at_120) (q := 122) rfl rfl ?_
  refine own_iload X348 hx (hb hby at_122) (q := 124) rfl rfl ?_
  have J351 : ∀ (z350 : Int32), z350 = (if (own_f1 ((p2 &&& (2147483647 : Int32)) % (5 : Int32)) ((XT.ushr p2 (16 : Int32)) % (5 : Int32))) = (own_f2 ((p2 &&& (2147483647 : Int32)) % (5 : Int32)) ((XT.ushr p2 (16 : Int32)) % (5 : Int32))) then (1 : Int32) else (0 : Int32)) → own_Go p e below (own_E s 16 128 (own_Q0 n0)) (T347.setTop (mkF m 132 #[.val (.int p1), .val (.int p2), .val (.int p3), .val (.int p4), .val (.int p5), .val (.int p6), .val (.ref a198), .val (.int ((p2 &&& (2147483647 : Int32)) % (5 : Int32))), .val (.int ((XT.ushr p2 (16 : Int32)) % (5 : Int32))), .val (.int (own_f1 ((p2 &&& (2147483647 : Int32)) % (5 : Int32)) ((XT.ushr p2 (16 : Int32)) % (5 : Int32)))), .val (.int (own_f2 ((p2 &&& (2147483647 : Int32)) % (5 : Int32)) ((XT.ushr p2 (16 : Int32)) % (5 : Int32)))), .val (.ref a256), .val (.ref a302), .unset, .unset] [.int z350, .int (own_f12 (own_f2 ((p2 &&& (2147483647 : Int32)) % (5 : Int32)) ((XT.ushr p2 (16 : Int32)) % (5 : Int32))) (own_f1 ((p2 &&& (2147483647 : Int32)) % (5 : Int32)) ((XT.ushr p2 (16 : Int32)) % (5 : Int32))))])) := by
    intro z350 hz356
    refine own_icmpM X348 hx (hb hby at_132) (cd := .ne) (x := own_f12 (own_f2 ((p2 &&& (2147483647 : Int32)) % (5 : Int32)) ((XT.ushr p2 (16 : Int32)) % (5 : Int32))) (own_f1 ((p2 &&& (2147483647 : Int32)) % (5 : Int32)) ((XT.ushr p2 (16 : Int32)) % (5 : Int32)))) (y := z350) (pt := 139) (q := 135) (by decide) (by decide) rfl rfl (fun h => False.elim (h ((by rw [hz356]; rfl) : (own_f12 (own_f2 ((p2 &&& (2147483647 : Int32)) % (5 : Int32)) ((XT.ushr p2 (16 : Int32)) % (5 : Int32))) (own_f1 ((p2 &&& (2147483647 : Int32)) % (5 : Int32)) ((XT.ushr p2 (16 : Int32)) % (5 : Int32)))) = z350))) (fun _ => ?_)
    refine own_iconst X348 hx (v := (1 : Int32)) (hb hby at_135) (q := 136) rfl rfl ?_
    refine own_goto X348 hx (hb hby at_136) (q := 140) (by decide) (by decide) ?_
    refine own_istore (L' := #[.val (.int p1), .val (.int p2), .val (.int p3), .val (.int p4), .val (.int p5), .val (.int p6), .val (.ref a198), .val (.int ((p2 &&& (2147483647 : Int32)) % (5 : Int32))), .val (.int ((XT.ushr p2 (16 : Int32)) % (5 : Int32))), .val (.int (own_f1 ((p2 &&& (2147483647 : Int32)) % (5 : Int32)) ((XT.ushr p2 (16 : Int32)) % (5 : Int32)))), .val (.int (own_f2 ((p2 &&& (2147483647 : Int32)) % (5 : Int32)) ((XT.ushr p2 (16 : Int32)) % (5 : Int32)))), .val (.ref a256), .val (.ref a302), .val (.int (1 : Int32)), .unset]) X348 hx (hb hby at_140) (q := 142) rfl rfl ?_
    refine own_iload X348 hx (hb hby at_142) (q := 144) rfl rfl ?_
    refine own_istore (L' := #[.val (.int p1), .val (.int p2), .val (.int p3), .val (.int p4), .val (.int p5), .val (.int p6), .val (.ref a198), .val (.int ((p2 &&& (2147483647 : Int32)) % (5 : Int32))), .val (.int ((XT.ushr p2 (16 : Int32)) % (5 : Int32))), .val (.int (own_f1 ((p2 &&& (2147483647 : Int32)) % (5 : Int32)) ((XT.ushr p2 (16 : Int32)) % (5 : Int32)))), .val (.int (own_f2 ((p2 &&& (2147483647 : Int32)) % (5 : Int32)) ((XT.ushr p2 (16 : Int32)) % (5 : Int32)))), .val (.ref a256), .val (.ref a302), .val (.int (1 : Int32)), .val (.int (own_f1 ((p2 &&& (2147483647 : Int32)) % (5 : Int32)) ((XT.ushr p2 (16 : Int32)) % (5 : Int32))))]) X348 hx (hb hby at_144) (q := 146) rfl rfl ?_
    refine own_aload X348 hx (hb hby at_146) (q := 148) rfl rfl rfl ?_
    refine own_aload X348 hx (hb hby at_148) (q := 150) rfl rfl rfl ?_
    refine own_iload X348 hx (hb hby at_150) (q := 152) rfl rfl ?_
    refine own_iload X348 hx (hb hby at_152) (q := 154) rfl rfl ?_
    refine own_iloadN X348 hx (hb hby at_154) (q := 155) rfl rfl ?_
    refine own_callS X348 hx hZ hown (hw _ (List.mem_of_getElem? (i := 68) rfl)) (hw _ (List.mem_of_getElem? (i := 69) rfl)) (hw _ (List.mem_of_getElem? (i := 70) rfl)) (hw _ (List.mem_of_getElem? (i := 71) rfl)) (by decide) (rm13 l Z a0 hw [] a302 a198 (own_f2 ((p2 &&& (2147483647 : Int32)) % (5 : Int32)) ((XT.ushr p2 (16 : Int32)) % (5 : Int32))) (own_f1 ((p2 &&& (2147483647 : Int32)) % (5 : Int32)) ((XT.ushr p2 (16 : Int32)) % (5 : Int32))) p3 a256 cs G a285 (nar .char ((p1 &&& (255 : Int32)).toUInt32.toUInt16.toUInt32.toInt32)) (nar .char (((XT.ushr p1 (8 : Int32)) &&& (255 : Int32)).toUInt32.toUInt16.toUInt32.toInt32)) (nar .char (((XT.ushr p1 (16 : Int32)) &&& (255 : Int32)).toUInt32.toUInt16.toUInt32.toInt32)) (nar .char (((XT.ushr p1 (24 : Int32)) &&& (255 : Int32)).toUInt32.toUInt16.toUInt32.toInt32)) T327.heap n0 E334 F335 F336 F337 S339 S340 E342 F344 F343 A345 A341 Z317 ne314 PCS rG okp0 ok2 (own_ch _) (own_ch _) (own_ch _) (own_ch _)) own_pd11 rfl e349 (by rw [hml]; rfl) (argsL := [.ref a302, .ref a198, .int (own_f2 ((p2 &&& (2147483647 : Int32)) % (5 : Int32)) ((XT.ushr p2 (16 : Int32)) % (5 : Int32))), .int (own_f1 ((p2 &&& (2147483647 : Int32)) % (5 : Int32)) ((XT.ushr p2 (16 : Int32)) % (5 : Int32))), .int p3]) (st := []) rfl (W := 0) (Nat.le_of_eq rfl) (by decide) (by decide) (by decide) (by decide) (hb hby at_155) (q := 158) rfl (fun v363 T364 L365 X366 hQ367 => ?_)
    obtain ⟨rfl, N368, K369, E371, F372, F373, F374, A375⟩ := hQ367
    have S376 := own_staKeep S339 K369 (allS (own_exaPlain E334) all0)
    have S377 := own_staKeep S340 K369 (allS (own_exaPlain E334) all0)
    have E378 := E342.keep K369
    have F379 := F343.keep K369 (ninS ne315 nin0)
    have F380 := F344.keep K369 (ninS ne315 nin0)
    have A381 := A345.keep K369 (ninS ne316 nin0)
    have Z382 : n0 ≤ T364.heap.size := Nat.le_trans Z346 K369.1
    have N370 := Fr.app N333 N368
    show own_Go p e below (own_E s 16 128 (own_Q0 n0)) (T364.setTop (mkF m 158 #[.val (.int p1), .val (.int p2), .val (.int p3), .val (.int p4), .val (.int p5), .val (.int p6), .val (.ref a198), .val (.int ((p2 &&& (2147483647 : Int32)) % (5 : Int32))), .val (.int ((XT.ushr p2 (16 : Int32)) % (5 : Int32))), .val (.int (own_f1 ((p2 &&& (2147483647 : Int32)) % (5 : Int32)) ((XT.ushr p2 (16 : Int32)) % (5 : Int32)))), .val (.int (own_f2 ((p2 &&& (2147483647 : Int32)) % (5 : Int32)) ((XT.ushr p2 (16 : Int32)) % (5 : Int32)))), .val (.ref a256), .val (.ref a302), .val (.int (1 : Int32)), .val (.int (own_f1 ((p2 &&& (2147483647 : Int32)) % (5 : Int32)) ((XT.ushr p2 (16 : Int32)) % (5 : Int32))))] [.int (own_f13 a302 a198 (own_f2 ((p2 &&& (2147483647 : Int32)) % (5 : Int32)) ((XT.ushr p2 (16 : Int32)) % (5 : Int32))) (own_f1 ((p2 &&& (2147483647 : Int32)) % (5 : Int32)) ((XT.ushr p2 (16 : Int32)) % (5 : Int32))) p3 a256 cs G a285 (nar .char ((p1 &&& (255 : Int32)).toUInt32.toUInt16.toUInt32.toInt32)) (nar .char (((XT.ushr p1 (8 : Int32)) &&& (255 : Int32)).toUInt32.toUInt16.toUInt32.toInt32)) (nar .char (((XT.ushr p1 (16 : Int32)) &&& (255 : Int32)).toUInt32.toUInt16.toUInt32.toInt32)) (nar .char (((XT.ushr p1 (24 : Int32)) &&& (255 : Int32)).toUInt32.toUInt16.toUInt32.toInt32)))]))
    have okp1 : ¬ (own_f13 a302 a198 (own_f2 ((p2 &&& (2147483647 : Int32)) % (5 : Int32)) ((XT.ushr p2 (16 : Int32)) % (5 : Int32))) (own_f1 ((p2 &&& (2147483647 : Int32)) % (5 : Int32)) ((XT.ushr p2 (16 : Int32)) % (5 : Int32))) p3 a256 cs G a285 (nar .char ((p1 &&& (255 : Int32)).toUInt32.toUInt16.toUInt32.toInt32)) (nar .char (((XT.ushr p1 (8 : Int32)) &&& (255 : Int32)).toUInt32.toUInt16.toUInt32.toInt32)) (nar .char (((XT.ushr p1 (16 : Int32)) &&& (255 : Int32)).toUInt32.toUInt16.toUInt32.toInt32)) (nar .char (((XT.ushr p1 (24 : Int32)) &&& (255 : Int32)).toUInt32.toUInt16.toUInt32.toInt32))) < 0 := own_qR okp0
    refine own_istore (L' := #[.val (.int p1), .val (.int p2), .val (.int p3), .val (.int p4), .val (.int p5), .val (.int p6), .val (.ref a198), .val (.int ((p2 &&& (2147483647 : Int32)) % (5 : Int32))), .val (.int ((XT.ushr p2 (16 : Int32)) % (5 : Int32))), .val (.int (own_f1 ((p2 &&& (2147483647 : Int32)) % (5 : Int32)) ((XT.ushr p2 (16 : Int32)) % (5 : Int32)))), .val (.int (own_f2 ((p2 &&& (2147483647 : Int32)) % (5 : Int32)) ((XT.ushr p2 (16 : Int32)) % (5 : Int32)))), .val (.ref a256), .val (.ref a302), .val (.int (1 : Int32)), .val (.int (own_f13 a302 a198 (own_f2 ((p2 &&& (2147483647 : Int32)) % (5 : Int32)) ((XT.ushr p2 (16 : Int32)) % (5 : Int32))) (own_f1 ((p2 &&& (2147483647 : Int32)) % (5 : Int32)) ((XT.ushr p2 (16 : Int32)) % (5 : Int32))) p3 a256 cs G a285 (nar .char ((p1 &&& (255 : Int32)).toUInt32.toUInt16.toUInt32.toInt32)) (nar .char (((XT.ushr p1 (8 : Int32)) &&& (255 : Int32)).toUInt32.toUInt16.toUInt32.toInt32)) (nar .char (((XT.ushr p1 (16 : Int32)) &&& (255 : Int32)).toUInt32.toUInt16.toUInt32.toInt32)) (nar .char (((XT.ushr p1 (24 : Int32)) &&& (255 : Int32)).toUInt32.toUInt16.toUInt32.toInt32))))]) X366 hx (hb hby at_158) (q := 160) rfl rfl ?_
    refine own_aload X366 hx (hb hby at_160) (q := 162) rfl rfl rfl ?_
    refine own_aload X366 hx (hb hby at_162) (q := 164) rfl rfl rfl ?_
    refine own_iload X366 hx (hb hby at_164) (q := 166) rfl rfl ?_
    refine own_iload X366 hx (hb hby at_166) (q := 168) rfl rfl ?_
    refine own_iloadN X366 hx (hb hby at_168) (q := 169) rfl rfl ?_
    refine own_callS X366 hx hZ hown (hw _ (List.mem_of_getElem? (i := 68) rfl)) (hw _ (List.mem_of_getElem? (i := 69) rfl)) (hw _ (List.mem_of_getElem? (i := 70) rfl)) (hw _ (List.mem_of_getElem? (i := 71) rfl)) (by decide) (rm13 l Z a0 hw [] a302 a198 (own_f2 ((p2 &&& (2147483647 : Int32)) % (5 : Int32)) ((XT.ushr p2 (16 : Int32)) % (5 : Int32))) (own_f13 a302 a198 (own_f2 ((p2 &&& (2147483647 : Int32)) % (5 : Int32)) ((XT.ushr p2 (16 : Int32)) % (5 : Int32))) (own_f1 ((p2 &&& (2147483647 : Int32)) % (5 : Int32)) ((XT.ushr p2 (16 : Int32)) % (5 : Int32))) p3 a256 cs G a285 (nar .char ((p1 &&& (255 : Int32)).toUInt32.toUInt16.toUInt32.toInt32)) (nar .char (((XT.ushr p1 (8 : Int32)) &&& (255 : Int32)).toUInt32.toUInt16.toUInt32.toInt32)) (nar .char (((XT.ushr p1 (16 : Int32)) &&& (255 : Int32)).toUInt32.toUInt16.toUInt32.toInt32)) (nar .char (((XT.ushr p1 (24 : Int32)) &&& (255 : Int32)).toUInt32.toUInt16.toUInt32.toInt32))) p4 a256 cs G a285 (nar .char ((p1 &&& (255 : Int32)).toUInt32.toUInt16.toUInt32.toInt32)) (nar .char (((XT.ushr p1 (8 : Int32)) &&& (255 : Int32)).toUInt32.toUInt16.toUInt32.toInt32)) (nar .char (((XT.ushr p1 (16 : Int32)) &&& (255 : Int32)).toUInt32.toUInt16.toUInt32.toInt32)) (nar .char (((XT.ushr p1 (24 : Int32)) &&& (255 : Int32)).toUInt32.toUInt16.toUInt32.toInt32)) T364.heap n0 E371 F372 F373 F374 S376 S377 E378 F380 F379 A381 A375 Z317 ne314 PCS rG okp1 ok2 (own_ch _) (own_ch _) (own_ch _) (own_ch _)) own_pd11 rfl rfl (by rw [hml]; rfl) (argsL := [.ref a302, .ref a198, .int (own_f2 ((p2 &&& (2147483647 : Int32)) % (5 : Int32)) ((XT.ushr p2 (16 : Int32)) % (5 : Int32))), .int (own_f13 a302 a198 (own_f2 ((p2 &&& (2147483647 : Int32)) % (5 : Int32)) ((XT.ushr p2 (16 : Int32)) % (5 : Int32))) (own_f1 ((p2 &&& (2147483647 : Int32)) % (5 : Int32)) ((XT.ushr p2 (16 : Int32)) % (5 : Int32))) p3 a256 cs G a285 (nar .char ((p1 &&& (255 : Int32)).toUInt32.toUInt16.toUInt32.toInt32)) (nar .char (((XT.ushr p1 (8 : Int32)) &&& (255 : Int32)).toUInt32.toUInt16.toUInt32.toInt32)) (nar .char (((XT.ushr p1 (16 : Int32)) &&& (255 : Int32)).toUInt32.toUInt16.toUInt32.toInt32)) (nar .char (((XT.ushr p1 (24 : Int32)) &&& (255 : Int32)).toUInt32.toUInt16.toUInt32.toInt32))), .int p4]) (st := []) rfl (W := 0) (Nat.le_of_eq rfl) (by decide) (by decide) (by decide) (by decide) (hb hby at_169) (q := 172) rfl (fun v389 T390 L391 X392 hQ393 => ?_)
    obtain ⟨rfl, N394, K395, E397, F398, F399, F400, A401⟩ := hQ393
    have S402 := own_staKeep S376 K395 (allS (own_exaPlain E371) all0)
    have S403 := own_staKeep S377 K395 (allS (own_exaPlain E371) all0)
    have E404 := E378.keep K395
    have F405 := F379.keep K395 (ninS ne315 nin0)
    have F406 := F380.keep K395 (ninS ne315 nin0)
    have A407 := A381.keep K395 (ninS ne316 nin0)
    have Z408 : n0 ≤ T390.heap.size := Nat.le_trans Z382 K395.1
    have N396 := Fr.app N370 N394
    show own_Go p e below (own_E s 16 128 (own_Q0 n0)) (T390.setTop (mkF m 172 #[.val (.int p1), .val (.int p2), .val (.int p3), .val (.int p4), .val (.int p5), .val (.int p6), .val (.ref a198), .val (.int ((p2 &&& (2147483647 : Int32)) % (5 : Int32))), .val (.int ((XT.ushr p2 (16 : Int32)) % (5 : Int32))), .val (.int (own_f1 ((p2 &&& (2147483647 : Int32)) % (5 : Int32)) ((XT.ushr p2 (16 : Int32)) % (5 : Int32)))), .val (.int (own_f2 ((p2 &&& (2147483647 : Int32)) % (5 : Int32)) ((XT.ushr p2 (16 : Int32)) % (5 : Int32)))), .val (.ref a256), .val (.ref a302), .val (.int (1 : Int32)), .val (.int (own_f13 a302 a198 (own_f2 ((p2 &&& (2147483647 : Int32)) % (5 : Int32)) ((XT.ushr p2 (16 : Int32)) % (5 : Int32))) (own_f1 ((p2 &&& (2147483647 : Int32)) % (5 : Int32)) ((XT.ushr p2 (16 : Int32)) % (5 : Int32))) p3 a256 cs G a285 (nar .char ((p1 &&& (255 : Int32)).toUInt32.toUInt16.toUInt32.toInt32)) (nar .char (((XT.ushr p1 (8 : Int32)) &&& (255 : Int32)).toUInt32.toUInt16.toUInt32.toInt32)) (nar .char (((XT.ushr p1 (16 : Int32)) &&& (255 : Int32)).toUInt32.toUInt16.toUInt32.toInt32)) (nar .char (((XT.ushr p1 (24 : Int32)) &&& (255 : Int32)).toUInt32.toUInt16.toUInt32.toInt32))))] [.int (own_f13 a302 a198 (own_f2 ((p2 &&& (2147483647 : Int32)) % (5 : Int32)) ((XT.ushr p2 (16 : Int32)) % (5 : Int32))) (own_f13 a302 a198 (own_f2 ((p2 &&& (2147483647 : Int32)) % (5 : Int32)) ((XT.ushr p2 (16 : Int32)) % (5 : Int32))) (own_f1 ((p2 &&& (2147483647 : Int32)) % (5 : Int32)) ((XT.ushr p2 (16 : Int32)) % (5 : Int32))) p3 a256 cs G a285 (nar .char ((p1 &&& (255 : Int32)).toUInt32.toUInt16.toUInt32.toInt32)) (nar .char (((XT.ushr p1 (8 : Int32)) &&& (255 : Int32)).toUInt32.toUInt16.toUInt32.toInt32)) (nar .char (((XT.ushr p1 (16 : Int32)) &&& (255 : Int32)).toUInt32.toUInt16.toUInt32.toInt32)) (nar .char (((XT.ushr p1 (24 : Int32)) &&& (255 : Int32)).toUInt32.toUInt16.toUInt32.toInt32))) p4 a256 cs G a285 (nar .char ((p1 &&& (255 : Int32)).toUInt32.toUInt16.toUInt32.toInt32)) (nar .char (((XT.ushr p1 (8 : Int32)) &&& (255 : Int32)).toUInt32.toUInt16.toUInt32.toInt32)) (nar .char (((XT.ushr p1 (16 : Int32)) &&& (255 : Int32)).toUInt32.toUInt16.toUInt32.toInt32)) (nar .char (((XT.ushr p1 (24 : Int32)) &&& (255 : Int32)).toUInt32.toUInt16.toUInt32.toInt32)))]))
    have okp2 : ¬ (own_f13 a302 a198 (own_f2 ((p2 &&& (2147483647 : Int32)) % (5 : Int32)) ((XT.ushr p2 (16 : Int32)) % (5 : Int32))) (own_f13 a302 a198 (own_f2 ((p2 &&& (2147483647 : Int32)) % (5 : Int32)) ((XT.ushr p2 (16 : Int32)) % (5 : Int32))) (own_f1 ((p2 &&& (2147483647 : Int32)) % (5 : Int32)) ((XT.ushr p2 (16 : Int32)) % (5 : Int32))) p3 a256 cs G a285 (nar .char ((p1 &&& (255 : Int32)).toUInt32.toUInt16.toUInt32.toInt32)) (nar .char (((XT.ushr p1 (8 : Int32)) &&& (255 : Int32)).toUInt32.toUInt16.toUInt32.toInt32)) (nar .char (((XT.ushr p1 (16 : Int32)) &&& (255 : Int32)).toUInt32.toUInt16.toUInt32.toInt32)) (nar .char (((XT.ushr p1 (24 : Int32)) &&& (255 : Int32)).toUInt32.toUInt16.toUInt32.toInt32))) p4 a256 cs G a285 (nar .char ((p1 &&& (255 : Int32)).toUInt32.toUInt16.toUInt32.toInt32)) (nar .char (((XT.ushr p1 (8 : Int32)) &&& (255 : Int32)).toUInt32.toUInt16.toUInt32.toInt32)) (nar .char (((XT.ushr p1 (16 : Int32)) &&& (255 : Int32)).toUInt32.toUInt16.toUInt32.toInt32)) (nar .char (((XT.ushr p1 (24 : Int32)) &&& (255 : Int32)).toUInt32.toUInt16.toUInt32.toInt32))) < 0 := own_qR okp1
    refine own_istore (L' := #[.val (.int p1), .val (.int p2), .val (.int p3), .val (.int p4), .val (.int p5), .val (.int p6), .val (.ref a198), .val (.int ((p2 &&& (2147483647 : Int32)) % (5 : Int32))), .val (.int ((XT.ushr p2 (16 : Int32)) % (5 : Int32))), .val (.int (own_f1 ((p2 &&& (2147483647 : Int32)) % (5 : Int32)) ((XT.ushr p2 (16 : Int32)) % (5 : Int32)))), .val (.int (own_f2 ((p2 &&& (2147483647 : Int32)) % (5 : Int32)) ((XT.ushr p2 (16 : Int32)) % (5 : Int32)))), .val (.ref a256), .val (.ref a302), .val (.int (1 : Int32)), .val (.int (own_f13 a302 a198 (own_f2 ((p2 &&& (2147483647 : Int32)) % (5 : Int32)) ((XT.ushr p2 (16 : Int32)) % (5 : Int32))) (own_f13 a302 a198 (own_f2 ((p2 &&& (2147483647 : Int32)) % (5 : Int32)) ((XT.ushr p2 (16 : Int32)) % (5 : Int32))) (own_f1 ((p2 &&& (2147483647 : Int32)) % (5 : Int32)) ((XT.ushr p2 (16 : Int32)) % (5 : Int32))) p3 a256 cs G a285 (nar .char ((p1 &&& (255 : Int32)).toUInt32.toUInt16.toUInt32.toInt32)) (nar .char (((XT.ushr p1 (8 : Int32)) &&& (255 : Int32)).toUInt32.toUInt16.toUInt32.toInt32)) (nar .char (((XT.ushr p1 (16 : Int32)) &&& (255 : Int32)).toUInt32.toUInt16.toUInt32.toInt32)) (nar .char (((XT.ushr p1 (24 : Int32)) &&& (255 : Int32)).toUInt32.toUInt16.toUInt32.toInt32))) p4 a256 cs G a285 (nar .char ((p1 &&& (255 : Int32)).toUInt32.toUInt16.toUInt32.toInt32)) (nar .char (((XT.ushr p1 (8 : Int32)) &&& (255 : Int32)).toUInt32.toUInt16.toUInt32.toInt32)) (nar .char (((XT.ushr p1 (16 : Int32)) &&& (255 : Int32)).toUInt32.toUInt16.toUInt32.toInt32)) (nar .char (((XT.ushr p1 (24 : Int32)) &&& (255 : Int32)).toUInt32.toUInt16.toUInt32.toInt32))))]) X392 hx (hb hby at_172) (q := 174) rfl rfl ?_
    refine own_aload X392 hx (hb hby at_174) (q := 176) rfl rfl rfl ?_
    refine own_aload X392 hx (hb hby at_176) (q := 178) rfl rfl rfl ?_
    refine own_iload X392 hx (hb hby at_178) (q := 180) rfl rfl ?_
    refine own_iload X392 hx (hb hby at_180) (q := 182) rfl rfl ?_
    refine own_iload X392 hx (hb hby at_182) (q := 184) rfl rfl ?_
    refine own_callS X392 hx hZ hown (hw _ (List.mem_of_getElem? (i := 68) rfl)) (hw _ (List.mem_of_getElem? (i := 69) rfl)) (hw _ (List.mem_of_getElem? (i := 70) rfl)) (hw _ (List.mem_of_getElem? (i := 71) rfl)) (by decide) (rm13 l Z a0 hw [] a302 a198 (own_f2 ((p2 &&& (2147483647 : Int32)) % (5 : Int32)) ((XT.ushr p2 (16 : Int32)) % (5 : Int32))) (own_f13 a302 a198 (own_f2 ((p2 &&& (2147483647 : Int32)) % (5 : Int32)) ((XT.ushr p2 (16 : Int32)) % (5 : Int32))) (own_f13 a302 a198 (own_f2 ((p2 &&& (2147483647 : Int32)) % (5 : Int32)) ((XT.ushr p2 (16 : Int32)) % (5 : Int32))) (own_f1 ((p2 &&& (2147483647 : Int32)) % (5 : Int32)) ((XT.ushr p2 (16 : Int32)) % (5 : Int32))) p3 a256 cs G a285 (nar .char ((p1 &&& (255 : Int32)).toUInt32.toUInt16.toUInt32.toInt32)) (nar .char (((XT.ushr p1 (8 : Int32)) &&& (255 : Int32)).toUInt32.toUInt16.toUInt32.toInt32)) (nar .char (((XT.ushr p1 (16 : Int32)) &&& (255 : Int32)).toUInt32.toUInt16.toUInt32.toInt32)) (nar .char (((XT.ushr p1 (24 : Int32)) &&& (255 : Int32)).toUInt32.toUInt16.toUInt32.toInt32))) p4 a256 cs G a285 (nar .char ((p1 &&& (255 : Int32)).toUInt32.toUInt16.toUInt32.toInt32)) (nar .char (((XT.ushr p1 (8 : Int32)) &&& (255 : Int32)).toUInt32.toUInt16.toUInt32.toInt32)) (nar .char (((XT.ushr p1 (16 : Int32)) &&& (255 : Int32)).toUInt32.toUInt16.toUInt32.toInt32)) (nar .char (((XT.ushr p1 (24 : Int32)) &&& (255 : Int32)).toUInt32.toUInt16.toUInt32.toInt32))) p5 a256 cs G a285 (nar .char ((p1 &&& (255 : Int32)).toUInt32.toUInt16.toUInt32.toInt32)) (nar .char (((XT.ushr p1 (8 : Int32)) &&& (255 : Int32)).toUInt32.toUInt16.toUInt32.toInt32)) (nar .char (((XT.ushr p1 (16 : Int32)) &&& (255 : Int32)).toUInt32.toUInt16.toUInt32.toInt32)) (nar .char (((XT.ushr p1 (24 : Int32)) &&& (255 : Int32)).toUInt32.toUInt16.toUInt32.toInt32)) T390.heap n0 E397 F398 F399 F400 S402 S403 E404 F406 F405 A407 A401 Z317 ne314 PCS rG okp2 ok2 (own_ch _) (own_ch _) (own_ch _) (own_ch _)) own_pd11 rfl rfl (by rw [hml]; rfl) (argsL := [.ref a302, .ref a198, .int (own_f2 ((p2 &&& (2147483647 : Int32)) % (5 : Int32)) ((XT.ushr p2 (16 : Int32)) % (5 : Int32))), .int (own_f13 a302 a198 (own_f2 ((p2 &&& (2147483647 : Int32)) % (5 : Int32)) ((XT.ushr p2 (16 : Int32)) % (5 : Int32))) (own_f13 a302 a198 (own_f2 ((p2 &&& (2147483647 : Int32)) % (5 : Int32)) ((XT.ushr p2 (16 : Int32)) % (5 : Int32))) (own_f1 ((p2 &&& (2147483647 : Int32)) % (5 : Int32)) ((XT.ushr p2 (16 : Int32)) % (5 : Int32))) p3 a256 cs G a285 (nar .char ((p1 &&& (255 : Int32)).toUInt32.toUInt16.toUInt32.toInt32)) (nar .char (((XT.ushr p1 (8 : Int32)) &&& (255 : Int32)).toUInt32.toUInt16.toUInt32.toInt32)) (nar .char (((XT.ushr p1 (16 : Int32)) &&& (255 : Int32)).toUInt32.toUInt16.toUInt32.toInt32)) (nar .char (((XT.ushr p1 (24 : Int32)) &&& (255 : Int32)).toUInt32.toUInt16.toUInt32.toInt32))) p4 a256 cs G a285 (nar .char ((p1 &&& (255 : Int32)).toUInt32.toUInt16.toUInt32.toInt32)) (nar .char (((XT.ushr p1 (8 : Int32)) &&& (255 : Int32)).toUInt32.toUInt16.toUInt32.toInt32)) (nar .char (((XT.ushr p1 (16 : Int32)) &&& (255 : Int32)).toUInt32.toUInt16.toUInt32.toInt32)) (nar .char (((XT.ushr p1 (24 : Int32)) &&& (255 : Int32)).toUInt32.toUInt16.toUInt32.toInt32))), .int p5]) (st := []) rfl (W := 0) (Nat.le_of_eq rfl) (by decide) (by decide) (by decide) (by decide) (hb hby at_184) (q := 187) rfl (fun v415 T416 L417 X418 hQ419 => ?_)
    obtain ⟨rfl, N420, K421, E423, F424, F425, F426, A427⟩ := hQ419
    have S428 := own_staKeep S402 K421 (allS (own_exaPlain E397) all0)
    have S429 := own_staKeep S403 K421 (allS (own_exaPlain E397) all0)
    have E430 := E404.keep K421
    have F431 := F405.keep K421 (ninS ne315 nin0)
    have F432 := F406.keep K421 (ninS ne315 nin0)
    have A433 := A407.keep K421 (ninS ne316 nin0)
    have Z434 : n0 ≤ T416.heap.size := Nat.le_trans Z408 K421.1
    have N422 := Fr.app N396 N420
    show own_Go p e below (own_E s 16 128 (own_Q0 n0)) (T416.setTop (mkF m 187 #[.val (.int p1), .val (.int p2), .val (.int p3), .val (.int p4), .val (.int p5), .val (.int p6), .val (.ref a198), .val (.int ((p2 &&& (2147483647 : Int32)) % (5 : Int32))), .val (.int ((XT.ushr p2 (16 : Int32)) % (5 : Int32))), .val (.int (own_f1 ((p2 &&& (2147483647 : Int32)) % (5 : Int32)) ((XT.ushr p2 (16 : Int32)) % (5 : Int32)))), .val (.int (own_f2 ((p2 &&& (2147483647 : Int32)) % (5 : Int32)) ((XT.ushr p2 (16 : Int32)) % (5 : Int32)))), .val (.ref a256), .val (.ref a302), .val (.int (1 : Int32)), .val (.int (own_f13 a302 a198 (own_f2 ((p2 &&& (2147483647 : Int32)) % (5 : Int32)) ((XT.ushr p2 (16 : Int32)) % (5 : Int32))) (own_f13 a302 a198 (own_f2 ((p2 &&& (2147483647 : Int32)) % (5 : Int32)) ((XT.ushr p2 (16 : Int32)) % (5 : Int32))) (own_f1 ((p2 &&& (2147483647 : Int32)) % (5 : Int32)) ((XT.ushr p2 (16 : Int32)) % (5 : Int32))) p3 a256 cs G a285 (nar .char ((p1 &&& (255 : Int32)).toUInt32.toUInt16.toUInt32.toInt32)) (nar .char (((XT.ushr p1 (8 : Int32)) &&& (255 : Int32)).toUInt32.toUInt16.toUInt32.toInt32)) (nar .char (((XT.ushr p1 (16 : Int32)) &&& (255 : Int32)).toUInt32.toUInt16.toUInt32.toInt32)) (nar .char (((XT.ushr p1 (24 : Int32)) &&& (255 : Int32)).toUInt32.toUInt16.toUInt32.toInt32))) p4 a256 cs G a285 (nar .char ((p1 &&& (255 : Int32)).toUInt32.toUInt16.toUInt32.toInt32)) (nar .char (((XT.ushr p1 (8 : Int32)) &&& (255 : Int32)).toUInt32.toUInt16.toUInt32.toInt32)) (nar .char (((XT.ushr p1 (16 : Int32)) &&& (255 : Int32)).toUInt32.toUInt16.toUInt32.toInt32)) (nar .char (((XT.ushr p1 (24 : Int32)) &&& (255 : Int32)).toUInt32.toUInt16.toUInt32.toInt32))))] [.int (own_f13 a302 a198 (own_f2 ((p2 &&& (2147483647 : Int32)) % (5 : Int32)) ((XT.ushr p2 (16 : Int32)) % (5 : Int32))) (own_f13 a302 a198 (own_f2 ((p2 &&& (2147483647 : Int32)) % (5 : Int32)) ((XT.ushr p2 (16 : Int32)) % (5 : Int32))) (own_f13 a302 a198 (own_f2 ((p2 &&& (2147483647 : Int32)) % (5 : Int32)) ((XT.ushr p2 (16 : Int32)) % (5 : Int32))) (own_f1 ((p2 &&& (2147483647 : Int32)) % (5 : Int32)) ((XT.ushr p2 (16 : Int32)) % (5 : Int32))) p3 a256 cs G a285 (nar .char ((p1 &&& (255 : Int32)).toUInt32.toUInt16.toUInt32.toInt32)) (nar .char (((XT.ushr p1 (8 : Int32)) &&& (255 : Int32)).toUInt32.toUInt16.toUInt32.toInt32)) (nar .char (((XT.ushr p1 (16 : Int32)) &&& (255 : Int32)).toUInt32.toUInt16.toUInt32.toInt32)) (nar .char (((XT.ushr p1 (24 : Int32)) &&& (255 : Int32)).toUInt32.toUInt16.toUInt32.toInt32))) p4 a256 cs G a285 (nar .char ((p1 &&& (255 : Int32)).toUInt32.toUInt16.toUInt32.toInt32)) (nar .char (((XT.ushr p1 (8 : Int32)) &&& (255 : Int32)).toUInt32.toUInt16.toUInt32.toInt32)) (nar .char (((XT.ushr p1 (16 : Int32)) &&& (255 : Int32)).toUInt32.toUInt16.toUInt32.toInt32)) (nar .char (((XT.ushr p1 (24 : Int32)) &&& (255 : Int32)).toUInt32.toUInt16.toUInt32.toInt32))) p5 a256 cs G a285 (nar .char ((p1 &&& (255 : Int32)).toUInt32.toUInt16.toUInt32.toInt32)) (nar .char (((XT.ushr p1 (8 : Int32)) &&& (255 : Int32)).toUInt32.toUInt16.toUInt32.toInt32)) (nar .char (((XT.ushr p1 (16 : Int32)) &&& (255 : Int32)).toUInt32.toUInt16.toUInt32.toInt32)) (nar .char (((XT.ushr p1 (24 : Int32)) &&& (255 : Int32)).toUInt32.toUInt16.toUInt32.toInt32)))]))
    have okp3 : ¬ (own_f13 a302 a198 (own_f2 ((p2 &&& (2147483647 : Int32)) % (5 : Int32)) ((XT.ushr p2 (16 : Int32)) % (5 : Int32))) (own_f13 a302 a198 (own_f2 ((p2 &&& (2147483647 : Int32)) % (5 : Int32)) ((XT.ushr p2 (16 : Int32)) % (5 : Int32))) (own_f13 a302 a198 (own_f2 ((p2 &&& (2147483647 : Int32)) % (5 : Int32)) ((XT.ushr p2 (16 : Int32)) % (5 : Int32))) (own_f1 ((p2 &&& (2147483647 : Int32)) % (5 : Int32)) ((XT.ushr p2 (16 : Int32)) % (5 : Int32))) p3 a256 cs G a285 (nar .char ((p1 &&& (255 : Int32)).toUInt32.toUInt16.toUInt32.toInt32)) (nar .char (((XT.ushr p1 (8 : Int32)) &&& (255 : Int32)).toUInt32.toUInt16.toUInt32.toInt32)) (nar .char (((XT.ushr p1 (16 : Int32)) &&& (255 : Int32)).toUInt32.toUInt16.toUInt32.toInt32)) (nar .char (((XT.ushr p1 (24 : Int32)) &&& (255 : Int32)).toUInt32.toUInt16.toUInt32.toInt32))) p4 a256 cs G a285 (nar .char ((p1 &&& (255 : Int32)).toUInt32.toUInt16.toUInt32.toInt32)) (nar .char (((XT.ushr p1 (8 : Int32)) &&& (255 : Int32)).toUInt32.toUInt16.toUInt32.toInt32)) (nar .char (((XT.ushr p1 (16 : Int32)) &&& (255 : Int32)).toUInt32.toUInt16.toUInt32.toInt32)) (nar .char (((XT.ushr p1 (24 : Int32)) &&& (255 : Int32)).toUInt32.toUInt16.toUInt32.toInt32))) p5 a256 cs G a285 (nar .char ((p1 &&& (255 : Int32)).toUInt32.toUInt16.toUInt32.toInt32)) (nar .char (((XT.ushr p1 (8 : Int32)) &&& (255 : Int32)).toUInt32.toUInt16.toUInt32.toInt32)) (nar .char (((XT.ushr p1 (16 : Int32)) &&& (255 : Int32)).toUInt32.toUInt16.toUInt32.toInt32)) (nar .char (((XT.ushr p1 (24 : Int32)) &&& (255 : Int32)).toUInt32.toUInt16.toUInt32.toInt32))) < 0 := own_qR okp2
    refine own_istore (L' := #[.val (.int p1), .val (.int p2), .val (.int p3), .val (.int p4), .val (.int p5), .val (.int p6), .val (.ref a198), .val (.int ((p2 &&& (2147483647 : Int32)) % (5 : Int32))), .val (.int ((XT.ushr p2 (16 : Int32)) % (5 : Int32))), .val (.int (own_f1 ((p2 &&& (2147483647 : Int32)) % (5 : Int32)) ((XT.ushr p2 (16 : Int32)) % (5 : Int32)))), .val (.int (own_f2 ((p2 &&& (2147483647 : Int32)) % (5 : Int32)) ((XT.ushr p2 (16 : Int32)) % (5 : Int32)))), .val (.ref a256), .val (.ref a302), .val (.int (1 : Int32)), .val (.int (own_f13 a302 a198 (own_f2 ((p2 &&& (2147483647 : Int32)) % (5 : Int32)) ((XT.ushr p2 (16 : Int32)) % (5 : Int32))) (own_f13 a302 a198 (own_f2 ((p2 &&& (2147483647 : Int32)) % (5 : Int32)) ((XT.ushr p2 (16 : Int32)) % (5 : Int32))) (own_f13 a302 a198 (own_f2 ((p2 &&& (2147483647 : Int32)) % (5 : Int32)) ((XT.ushr p2 (16 : Int32)) % (5 : Int32))) (own_f1 ((p2 &&& (2147483647 : Int32)) % (5 : Int32)) ((XT.ushr p2 (16 : Int32)) % (5 : Int32))) p3 a256 cs G a285 (nar .char ((p1 &&& (255 : Int32)).toUInt32.toUInt16.toUInt32.toInt32)) (nar .char (((XT.ushr p1 (8 : Int32)) &&& (255 : Int32)).toUInt32.toUInt16.toUInt32.toInt32)) (nar .char (((XT.ushr p1 (16 : Int32)) &&& (255 : Int32)).toUInt32.toUInt16.toUInt32.toInt32)) (nar .char (((XT.ushr p1 (24 : Int32)) &&& (255 : Int32)).toUInt32.toUInt16.toUInt32.toInt32))) p4 a256 cs G a285 (nar .char ((p1 &&& (255 : Int32)).toUInt32.toUInt16.toUInt32.toInt32)) (nar .char (((XT.ushr p1 (8 : Int32)) &&& (255 : Int32)).toUInt32.toUInt16.toUInt32.toInt32)) (nar .char (((XT.ushr p1 (16 : Int32)) &&& (255 : Int32)).toUInt32.toUInt16.toUInt32.toInt32)) (nar .char (((XT.ushr p1 (24 : Int32)) &&& (255 : Int32)).toUInt32.toUInt16.toUInt32.toInt32))) p5 a256 cs G a285 (nar .char ((p1 &&& (255 : Int32)).toUInt32.toUInt16.toUInt32.toInt32)) (nar .char (((XT.ushr p1 (8 : Int32)) &&& (255 : Int32)).toUInt32.toUInt16.toUInt32.toInt32)) (nar .char (((XT.ushr p1 (16 : Int32)) &&& (255 : Int32)).toUInt32.toUInt16.toUInt32.toInt32)) (nar .char (((XT.ushr p1 (24 : Int32)) &&& (255 : Int32)).toUInt32.toUInt16.toUInt32.toInt32))))]) X418 hx (hb hby at_187) (q := 189) rfl rfl ?_
    refine own_aload X418 hx (hb hby at_189) (q := 191) rfl rfl rfl ?_
    refine own_aload X418 hx (hb hby at_191) (q := 193) rfl rfl rfl ?_
    refine own_iload X418 hx (hb hby at_193) (q := 195) rfl rfl ?_
    refine own_iload X418 hx (hb hby at_195) (q := 197) rfl rfl ?_
    refine own_iload X418 hx (hb hby at_197) (q := 199) rfl rfl ?_
    refine own_callS X418 hx hZ hown (hw _ (List.mem_of_getElem? (i := 68) rfl)) (hw _ (List.mem_of_getElem? (i := 69) rfl)) (hw _ (List.mem_of_getElem? (i := 70) rfl)) (hw _ (List.mem_of_getElem? (i := 71) rfl)) (by decide) (rm13 l Z a0 hw [] a302 a198 (own_f2 ((p2 &&& (2147483647 : Int32)) % (5 : Int32)) ((XT.ushr p2 (16 : Int32)) % (5 : Int32))) (own_f13 a302 a198 (own_f2 ((p2 &&& (2147483647 : Int32)) % (5 : Int32)) ((XT.ushr p2 (16 : Int32)) % (5 : Int32))) (own_f13 a302 a198 (own_f2 ((p2 &&& (2147483647 : Int32)) % (5 : Int32)) ((XT.ushr p2 (16 : Int32)) % (5 : Int32))) (own_f13 a302 a198 (own_f2 ((p2 &&& (2147483647 : Int32)) % (5 : Int32)) ((XT.ushr p2 (16 : Int32)) % (5 : Int32))) (own_f1 ((p2 &&& (2147483647 : Int32)) % (5 : Int32)) ((XT.ushr p2 (16 : Int32)) % (5 : Int32))) p3 a256 cs G a285 (nar .char ((p1 &&& (255 : Int32)).toUInt32.toUInt16.toUInt32.toInt32)) (nar .char (((XT.ushr p1 (8 : Int32)) &&& (255 : Int32)).toUInt32.toUInt16.toUInt32.toInt32)) (nar .char (((XT.ushr p1 (16 : Int32)) &&& (255 : Int32)).toUInt32.toUInt16.toUInt32.toInt32)) (nar .char (((XT.ushr p1 (24 : Int32)) &&& (255 : Int32)).toUInt32.toUInt16.toUInt32.toInt32))) p4 a256 cs G a285 (nar .char ((p1 &&& (255 : Int32)).toUInt32.toUInt16.toUInt32.toInt32)) (nar .char (((XT.ushr p1 (8 : Int32)) &&& (255 : Int32)).toUInt32.toUInt16.toUInt32.toInt32)) (nar .char (((XT.ushr p1 (16 : Int32)) &&& (255 : Int32)).toUInt32.toUInt16.toUInt32.toInt32)) (nar .char (((XT.ushr p1 (24 : Int32)) &&& (255 : Int32)).toUInt32.toUInt16.toUInt32.toInt32))) p5 a256 cs G a285 (nar .char ((p1 &&& (255 : Int32)).toUInt32.toUInt16.toUInt32.toInt32)) (nar .char (((XT.ushr p1 (8 : Int32)) &&& (255 : Int32)).toUInt32.toUInt16.toUInt32.toInt32)) (nar .char (((XT.ushr p1 (16 : Int32)) &&& (255 : Int32)).toUInt32.toUInt16.toUInt32.toInt32)) (nar .char (((XT.ushr p1 (24 : Int32)) &&& (255 : Int32)).toUInt32.toUInt16.toUInt32.toInt32))) p6 a256 cs G a285 (nar .char ((p1 &&& (255 : Int32)).toUInt32.toUInt16.toUInt32.toInt32)) (nar .char (((XT.ushr p1 (8 : Int32)) &&& (255 : Int32)).toUInt32.toUInt16.toUInt32.toInt32)) (nar .char (((XT.ushr p1 (16 : Int32)) &&& (255 : Int32)).toUInt32.toUInt16.toUInt32.toInt32)) (nar .char (((XT.ushr p1 (24 : Int32)) &&& (255 : Int32)).toUInt32.toUInt16.toUInt32.toInt32)) T416.heap n0 E423 F424 F425 F426 S428 S429 E430 F432 F431 A433 A427 Z317 ne314 PCS rG okp3 ok2 (own_ch _) (own_ch _) (own_ch _) (own_ch _)) own_pd11 rfl rfl (by rw [hml]; rfl) (argsL := [.ref a302, .ref a198, .int (own_f2 ((p2 &&& (2147483647 : Int32)) % (5 : Int32)) ((XT.ushr p2 (16 : Int32)) % (5 : Int32))), .int (own_f13 a302 a198 (own_f2 ((p2 &&& (2147483647 : Int32)) % (5 : Int32)) ((XT.ushr p2 (16 : Int32)) % (5 : Int32))) (own_f13 a302 a198 (own_f2 ((p2 &&& (2147483647 : Int32)) % (5 : Int32)) ((XT.ushr p2 (16 : Int32)) % (5 : Int32))) (own_f13 a302 a198 (own_f2 ((p2 &&& (2147483647 : Int32)) % (5 : Int32)) ((XT.ushr p2 (16 : Int32)) % (5 : Int32))) (own_f1 ((p2 &&& (2147483647 : Int32)) % (5 : Int32)) ((XT.ushr p2 (16 : Int32)) % (5 : Int32))) p3 a256 cs G a285 (nar .char ((p1 &&& (255 : Int32)).toUInt32.toUInt16.toUInt32.toInt32)) (nar .char (((XT.ushr p1 (8 : Int32)) &&& (255 : Int32)).toUInt32.toUInt16.toUInt32.toInt32)) (nar .char (((XT.ushr p1 (16 : Int32)) &&& (255 : Int32)).toUInt32.toUInt16.toUInt32.toInt32)) (nar .char (((XT.ushr p1 (24 : Int32)) &&& (255 : Int32)).toUInt32.toUInt16.toUInt32.toInt32))) p4 a256 cs G a285 (nar .char ((p1 &&& (255 : Int32)).toUInt32.toUInt16.toUInt32.toInt32)) (nar .char (((XT.ushr p1 (8 : Int32)) &&& (255 : Int32)).toUInt32.toUInt16.toUInt32.toInt32)) (nar .char (((XT.ushr p1 (16 : Int32)) &&& (255 : Int32)).toUInt32.toUInt16.toUInt32.toInt32)) (nar .char (((XT.ushr p1 (24 : Int32)) &&& (255 : Int32)).toUInt32.toUInt16.toUInt32.toInt32))) p5 a256 cs G a285 (nar .char ((p1 &&& (255 : Int32)).toUInt32.toUInt16.toUInt32.toInt32)) (nar .char (((XT.ushr p1 (8 : Int32)) &&& (255 : Int32)).toUInt32.toUInt16.toUInt32.toInt32)) (nar .char (((XT.ushr p1 (16 : Int32)) &&& (255 : Int32)).toUInt32.toUInt16.toUInt32.toInt32)) (nar .char (((XT.ushr p1 (24 : Int32)) &&& (255 : Int32)).toUInt32.toUInt16.toUInt32.toInt32))), .int p6]) (st := []) rfl (W := 0) (Nat.le_of_eq rfl) (by decide) (by decide) (by decide) (by decide) (hb hby at_199) (q := 202) rfl (fun v441 T442 L443 X444 hQ445 => ?_)
    obtain ⟨rfl, N446, K447, E449, F450, F451, F452, A453⟩ := hQ445
    have S454 := own_staKeep S428 K447 (allS (own_exaPlain E423) all0)
    have S455 := own_staKeep S429 K447 (allS (own_exaPlain E423) all0)
    have E456 := E430.keep K447
    have F457 := F431.keep K447 (ninS ne315 nin0)
    have F458 := F432.keep K447 (ninS ne315 nin0)
    have A459 := A433.keep K447 (ninS ne316 nin0)
    have Z460 : n0 ≤ T442.heap.size := Nat.le_trans Z434 K447.1
    have N448 := Fr.app N422 N446
    show own_Go p e below (own_E s 16 128 (own_Q0 n0)) (T442.setTop (mkF m 202 #[.val (.int p1), .val (.int p2), .val (.int p3), .val (.int p4), .val (.int p5), .val (.int p6), .val (.ref a198), .val (.int ((p2 &&& (2147483647 : Int32)) % (5 : Int32))), .val (.int ((XT.ushr p2 (16 : Int32)) % (5 : Int32))), .val (.int (own_f1 ((p2 &&& (2147483647 : Int32)) % (5 : Int32)) ((XT.ushr p2 (16 : Int32)) % (5 : Int32)))), .val (.int (own_f2 ((p2 &&& (2147483647 : Int32)) % (5 : Int32)) ((XT.ushr p2 (16 : Int32)) % (5 : Int32)))), .val (.ref a256), .val (.ref a302), .val (.int (1 : Int32)), .val (.int (own_f13 a302 a198 (own_f2 ((p2 &&& (2147483647 : Int32)) % (5 : Int32)) ((XT.ushr p2 (16 : Int32)) % (5 : Int32))) (own_f13 a302 a198 (own_f2 ((p2 &&& (2147483647 : Int32)) % (5 : Int32)) ((XT.ushr p2 (16 : Int32)) % (5 : Int32))) (own_f13 a302 a198 (own_f2 ((p2 &&& (2147483647 : Int32)) % (5 : Int32)) ((XT.ushr p2 (16 : Int32)) % (5 : Int32))) (own_f1 ((p2 &&& (2147483647 : Int32)) % (5 : Int32)) ((XT.ushr p2 (16 : Int32)) % (5 : Int32))) p3 a256 cs G a285 (nar .char ((p1 &&& (255 : Int32)).toUInt32.toUInt16.toUInt32.toInt32)) (nar .char (((XT.ushr p1 (8 : Int32)) &&& (255 : Int32)).toUInt32.toUInt16.toUInt32.toInt32)) (nar .char (((XT.ushr p1 (16 : Int32)) &&& (255 : Int32)).toUInt32.toUInt16.toUInt32.toInt32)) (nar .char (((XT.ushr p1 (24 : Int32)) &&& (255 : Int32)).toUInt32.toUInt16.toUInt32.toInt32))) p4 a256 cs G a285 (nar .char ((p1 &&& (255 : Int32)).toUInt32.toUInt16.toUInt32.toInt32)) (nar .char (((XT.ushr p1 (8 : Int32)) &&& (255 : Int32)).toUInt32.toUInt16.toUInt32.toInt32)) (nar .char (((XT.ushr p1 (16 : Int32)) &&& (255 : Int32)).toUInt32.toUInt16.toUInt32.toInt32)) (nar .char (((XT.ushr p1 (24 : Int32)) &&& (255 : Int32)).toUInt32.toUInt16.toUInt32.toInt32))) p5 a256 cs G a285 (nar .char ((p1 &&& (255 : Int32)).toUInt32.toUInt16.toUInt32.toInt32)) (nar .char (((XT.ushr p1 (8 : Int32)) &&& (255 : Int32)).toUInt32.toUInt16.toUInt32.toInt32)) (nar .char (((XT.ushr p1 (16 : Int32)) &&& (255 : Int32)).toUInt32.toUInt16.toUInt32.toInt32)) (nar .char (((XT.ushr p1 (24 : Int32)) &&& (255 : Int32)).toUInt32.toUInt16.toUInt32.toInt32))))] [.int (own_f13 a302 a198 (own_f2 ((p2 &&& (2147483647 : Int32)) % (5 : Int32)) ((XT.ushr p2 (16 : Int32)) % (5 : Int32))) (own_f13 a302 a198 (own_f2 ((p2 &&& (2147483647 : Int32)) % (5 : Int32)) ((XT.ushr p2 (16 : Int32)) % (5 : Int32))) (own_f13 a302 a198 (own_f2 ((p2 &&& (2147483647 : Int32)) % (5 : Int32)) ((XT.ushr p2 (16 : Int32)) % (5 : Int32))) (own_f13 a302 a198 (own_f2 ((p2 &&& (2147483647 : Int32)) % (5 : Int32)) ((XT.ushr p2 (16 : Int32)) % (5 : Int32))) (own_f1 ((p2 &&& (2147483647 : Int32)) % (5 : Int32)) ((XT.ushr p2 (16 : Int32)) % (5 : Int32))) p3 a256 cs G a285 (nar .char ((p1 &&& (255 : Int32)).toUInt32.toUInt16.toUInt32.toInt32)) (nar .char (((XT.ushr p1 (8 : Int32)) &&& (255 : Int32)).toUInt32.toUInt16.toUInt32.toInt32)) (nar .char (((XT.ushr p1 (16 : Int32)) &&& (255 : Int32)).toUInt32.toUInt16.toUInt32.toInt32)) (nar .char (((XT.ushr p1 (24 : Int32)) &&& (255 : Int32)).toUInt32.toUInt16.toUInt32.toInt32))) p4 a256 cs G a285 (nar .char ((p1 &&& (255 : Int32)).toUInt32.toUInt16.toUInt32.toInt32)) (nar .char (((XT.ushr p1 (8 : Int32)) &&& (255 : Int32)).toUInt32.toUInt16.toUInt32.toInt32)) (nar .char (((XT.ushr p1 (16 : Int32)) &&& (255 : Int32)).toUInt32.toUInt16.toUInt32.toInt32)) (nar .char (((XT.ushr p1 (24 : Int32)) &&& (255 : Int32)).toUInt32.toUInt16.toUInt32.toInt32))) p5 a256 cs G a285 (nar .char ((p1 &&& (255 : Int32)).toUInt32.toUInt16.toUInt32.toInt32)) (nar .char (((XT.ushr p1 (8 : Int32)) &&& (255 : Int32)).toUInt32.toUInt16.toUInt32.toInt32)) (nar .char (((XT.ushr p1 (16 : Int32)) &&& (255 : Int32)).toUInt32.toUInt16.toUInt32.toInt32)) (nar .char (((XT.ushr p1 (24 : Int32)) &&& (255 : Int32)).toUInt32.toUInt16.toUInt32.toInt32))) p6 a256 cs G a285 (nar .char ((p1 &&& (255 : Int32)).toUInt32.toUInt16.toUInt32.toInt32)) (nar .char (((XT.ushr p1 (8 : Int32)) &&& (255 : Int32)).toUInt32.toUInt16.toUInt32.toInt32)) (nar .char (((XT.ushr p1 (16 : Int32)) &&& (255 : Int32)).toUInt32.toUInt16.toUInt32.toInt32)) (nar .char (((XT.ushr p1 (24 : Int32)) &&& (255 : Int32)).toUInt32.toUInt16.toUInt32.toInt32)))]))
    have okp4 : ¬ (own_f13 a302 a198 (own_f2 ((p2 &&& (2147483647 : Int32)) % (5 : Int32)) ((XT.ushr p2 (16 : Int32)) % (5 : Int32))) (own_f13 a302 a198 (own_f2 ((p2 &&& (2147483647 : Int32)) % (5 : Int32)) ((XT.ushr p2 (16 : Int32)) % (5 : Int32))) (own_f13 a302 a198 (own_f2 ((p2 &&& (2147483647 : Int32)) % (5 : Int32)) ((XT.ushr p2 (16 : Int32)) % (5 : Int32))) (own_f13 a302 a198 (own_f2 ((p2 &&& (2147483647 : Int32)) % (5 : Int32)) ((XT.ushr p2 (16 : Int32)) % (5 : Int32))) (own_f1 ((p2 &&& (2147483647 : Int32)) % (5 : Int32)) ((XT.ushr p2 (16 : Int32)) % (5 : Int32))) p3 a256 cs G a285 (nar .char ((p1 &&& (255 : Int32)).toUInt32.toUInt16.toUInt32.toInt32)) (nar .char (((XT.ushr p1 (8 : Int32)) &&& (255 : Int32)).toUInt32.toUInt16.toUInt32.toInt32)) (nar .char (((XT.ushr p1 (16 : Int32)) &&& (255 : Int32)).toUInt32.toUInt16.toUInt32.toInt32)) (nar .char (((XT.ushr p1 (24 : Int32)) &&& (255 : Int32)).toUInt32.toUInt16.toUInt32.toInt32))) p4 a256 cs G a285 (nar .char ((p1 &&& (255 : Int32)).toUInt32.toUInt16.toUInt32.toInt32)) (nar .char (((XT.ushr p1 (8 : Int32)) &&& (255 : Int32)).toUInt32.toUInt16.toUInt32.toInt32)) (nar .char (((XT.ushr p1 (16 : Int32)) &&& (255 : Int32)).toUInt32.toUInt16.toUInt32.toInt32)) (nar .char (((XT.ushr p1 (24 : Int32)) &&& (255 : Int32)).toUInt32.toUInt16.toUInt32.toInt32))) p5 a256 cs G a285 (nar .char ((p1 &&& (255 : Int32)).toUInt32.toUInt16.toUInt32.toInt32)) (nar .char (((XT.ushr p1 (8 : Int32)) &&& (255 : Int32)).toUInt32.toUInt16.toUInt32.toInt32)) (nar .char (((XT.ushr p1 (16 : Int32)) &&& (255 : Int32)).toUInt32.toUInt16.toUInt32.toInt32)) (nar .char (((XT.ushr p1 (24 : Int32)) &&& (255 : Int32)).toUInt32.toUInt16.toUInt32.toInt32))) p6 a256 cs G a285 (nar .char ((p1 &&& (255 : Int32)).toUInt32.toUInt16.toUInt32.toInt32)) (nar .char (((XT.ushr p1 (8 : Int32)) &&& (255 : Int32)).toUInt32.toUInt16.toUInt32.toInt32)) (nar .char (((XT.ushr p1 (16 : Int32)) &&& (255 : Int32)).toUInt32.toUInt16.toUInt32.toInt32)) (nar .char (((XT.ushr p1 (24 : Int32)) &&& (255 : Int32)).toUInt32.toUInt16.toUInt32.toInt32))) < 0 := own_qR okp3
    refine own_istore (L' := #[.val (.int p1), .val (.int p2), .val (.int p3), .val (.int p4), .val (.int p5), .val (.int p6), .val (.ref a198), .val (.int ((p2 &&& (2147483647 : Int32)) % (5 : Int32))), .val (.int ((XT.ushr p2 (16 : Int32)) % (5 : Int32))), .val (.int (own_f1 ((p2 &&& (2147483647 : Int32)) % (5 : Int32)) ((XT.ushr p2 (16 : Int32)) % (5 : Int32)))), .val (.int (own_f2 ((p2 &&& (2147483647 : Int32)) % (5 : Int32)) ((XT.ushr p2 (16 : Int32)) % (5 : Int32)))), .val (.ref a256), .val (.ref a302), .val (.int (1 : Int32)), .val (.int (own_f13 a302 a198 (own_f2 ((p2 &&& (2147483647 : Int32)) % (5 : Int32)) ((XT.ushr p2 (16 : Int32)) % (5 : Int32))) (own_f13 a302 a198 (own_f2 ((p2 &&& (2147483647 : Int32)) % (5 : Int32)) ((XT.ushr p2 (16 : Int32)) % (5 : Int32))) (own_f13 a302 a198 (own_f2 ((p2 &&& (2147483647 : Int32)) % (5 : Int32)) ((XT.ushr p2 (16 : Int32)) % (5 : Int32))) (own_f13 a302 a198 (own_f2 ((p2 &&& (2147483647 : Int32)) % (5 : Int32)) ((XT.ushr p2 (16 : Int32)) % (5 : Int32))) (own_f1 ((p2 &&& (2147483647 : Int32)) % (5 : Int32)) ((XT.ushr p2 (16 : Int32)) % (5 : Int32))) p3 a256 cs G a285 (nar .char ((p1 &&& (255 : Int32)).toUInt32.toUInt16.toUInt32.toInt32)) (nar .char (((XT.ushr p1 (8 : Int32)) &&& (255 : Int32)).toUInt32.toUInt16.toUInt32.toInt32)) (nar .char (((XT.ushr p1 (16 : Int32)) &&& (255 : Int32)).toUInt32.toUInt16.toUInt32.toInt32)) (nar .char (((XT.ushr p1 (24 : Int32)) &&& (255 : Int32)).toUInt32.toUInt16.toUInt32.toInt32))) p4 a256 cs G a285 (nar .char ((p1 &&& (255 : Int32)).toUInt32.toUInt16.toUInt32.toInt32)) (nar .char (((XT.ushr p1 (8 : Int32)) &&& (255 : Int32)).toUInt32.toUInt16.toUInt32.toInt32)) (nar .char (((XT.ushr p1 (16 : Int32)) &&& (255 : Int32)).toUInt32.toUInt16.toUInt32.toInt32)) (nar .char (((XT.ushr p1 (24 : Int32)) &&& (255 : Int32)).toUInt32.toUInt16.toUInt32.toInt32))) p5 a256 cs G a285 (nar .char ((p1 &&& (255 : Int32)).toUInt32.toUInt16.toUInt32.toInt32)) (nar .char (((XT.ushr p1 (8 : Int32)) &&& (255 : Int32)).toUInt32.toUInt16.toUInt32.toInt32)) (nar .char (((XT.ushr p1 (16 : Int32)) &&& (255 : Int32)).toUInt32.toUInt16.toUInt32.toInt32)) (nar .char (((XT.ushr p1 (24 : Int32)) &&& (255 : Int32)).toUInt32.toUInt16.toUInt32.toInt32))) p6 a256 cs G a285 (nar .char ((p1 &&& (255 : Int32)).toUInt32.toUInt16.toUInt32.toInt32)) (nar .char (((XT.ushr p1 (8 : Int32)) &&& (255 : Int32)).toUInt32.toUInt16.toUInt32.toInt32)) (nar .char (((XT.ushr p1 (16 : Int32)) &&& (255 : Int32)).toUInt32.toUInt16.toUInt32.toInt32)) (nar .char (((XT.ushr p1 (24 : Int32)) &&& (255 : Int32)).toUInt32.toUInt16.toUInt32.toInt32))))]) X444 hx (hb hby at_202) (q := 204) rfl rfl ?_
    refine own_iload X444 hx (hb hby at_204) (q := 206) rfl rfl ?_
    refine own_if0P X444 hx (hb hby at_206) (cd := .eq) (x := (1 : Int32)) (pt := 228) (q := 209) (by decide) (by decide) rfl rfl (fun h => False.elim (((by decide) : ¬ ((1 : Int32) = (0 : Int32))) h)) (fun _ => ?_)
    refine own_iload X444 hx (hb hby at_209) (q := 211) rfl rfl ?_
    refine own_if0P X444 hx (hb hby at_211) (cd := .lt) (x := own_f13 a302 a198 (own_f2 ((p2 &&& (2147483647 : Int32)) % (5 : Int32)) ((XT.ushr p2 (16 : Int32)) % (5 : Int32))) (own_f13 a302 a198 (own_f2 ((p2 &&& (2147483647 : Int32)) % (5 : Int32)) ((XT.ushr p2 (16 : Int32)) % (5 : Int32))) (own_f13 a302 a198 (own_f2 ((p2 &&& (2147483647 : Int32)) % (5 : Int32)) ((XT.ushr p2 (16 : Int32)) % (5 : Int32))) (own_f13 a302 a198 (own_f2 ((p2 &&& (2147483647 : Int32)) % (5 : Int32)) ((XT.ushr p2 (16 : Int32)) % (5 : Int32))) (own_f1 ((p2 &&& (2147483647 : Int32)) % (5 : Int32)) ((XT.ushr p2 (16 : Int32)) % (5 : Int32))) p3 a256 cs G a285 (nar .char ((p1 &&& (255 : Int32)).toUInt32.toUInt16.toUInt32.toInt32)) (nar .char (((XT.ushr p1 (8 : Int32)) &&& (255 : Int32)).toUInt32.toUInt16.toUInt32.toInt32)) (nar .char (((XT.ushr p1 (16 : Int32)) &&& (255 : Int32)).toUInt32.toUInt16.toUInt32.toInt32)) (nar .char (((XT.ushr p1 (24 : Int32)) &&& (255 : Int32)).toUInt32.toUInt16.toUInt32.toInt32))) p4 a256 cs G a285 (nar .char ((p1 &&& (255 : Int32)).toUInt32.toUInt16.toUInt32.toInt32)) (nar .char (((XT.ushr p1 (8 : Int32)) &&& (255 : Int32)).toUInt32.toUInt16.toUInt32.toInt32)) (nar .char (((XT.ushr p1 (16 : Int32)) &&& (255 : Int32)).toUInt32.toUInt16.toUInt32.toInt32)) (nar .char (((XT.ushr p1 (24 : Int32)) &&& (255 : Int32)).toUInt32.toUInt16.toUInt32.toInt32))) p5 a256 cs G a285 (nar .char ((p1 &&& (255 : Int32)).toUInt32.toUInt16.toUInt32.toInt32)) (nar .char (((XT.ushr p1 (8 : Int32)) &&& (255 : Int32)).toUInt32.toUInt16.toUInt32.toInt32)) (nar .char (((XT.ushr p1 (16 : Int32)) &&& (255 : Int32)).toUInt32.toUInt16.toUInt32.toInt32)) (nar .char (((XT.ushr p1 (24 : Int32)) &&& (255 : Int32)).toUInt32.toUInt16.toUInt32.toInt32))) p6 a256 cs G a285 (nar .char ((p1 &&& (255 : Int32)).toUInt32.toUInt16.toUInt32.toInt32)) (nar .char (((XT.ushr p1 (8 : Int32)) &&& (255 : Int32)).toUInt32.toUInt16.toUInt32.toInt32)) (nar .char (((XT.ushr p1 (16 : Int32)) &&& (255 : Int32)).toUInt32.toUInt16.toUInt32.toInt32)) (nar .char (((XT.ushr p1 (24 : Int32)) &&& (255 : Int32)).toUInt32.toUInt16.toUInt32.toInt32))) (pt := 228) (q := 214) (by decide) (by decide) rfl rfl (fun h => False.elim ((okp4 : ¬ ((own_f13 a302 a198 (own_f2 ((p2 &&& (2147483647 : Int32)) % (5 : Int32)) ((XT.ushr p2 (16 : Int32)) % (5 : Int32))) (own_f13 a302 a198 (own_f2 ((p2 &&& (2147483647 : Int32)) % (5 : Int32)) ((XT.ushr p2 (16 : Int32)) % (5 : Int32))) (own_f13 a302 a198 (own_f2 ((p2 &&& (2147483647 : Int32)) % (5 : Int32)) ((XT.ushr p2 (16 : Int32)) % (5 : Int32))) (own_f13 a302 a198 (own_f2 ((p2 &&& (2147483647 : Int32)) % (5 : Int32)) ((XT.ushr p2 (16 : Int32)) % (5 : Int32))) (own_f1 ((p2 &&& (2147483647 : Int32)) % (5 : Int32)) ((XT.ushr p2 (16 : Int32)) % (5 : Int32))) p3 a256 cs G a285 (nar .char ((p1 &&& (255 : Int32)).toUInt32.toUInt16.toUInt32.toInt32)) (nar .char (((XT.ushr p1 (8 : Int32)) &&& (255 : Int32)).toUInt32.toUInt16.toUInt32.toInt32)) (nar .char (((XT.ushr p1 (16 : Int32)) &&& (255 : Int32)).toUInt32.toUInt16.toUInt32.toInt32)) (nar .char (((XT.ushr p1 (24 : Int32)) &&& (255 : Int32)).toUInt32.toUInt16.toUInt32.toInt32))) p4 a256 cs G a285 (nar .char ((p1 &&& (255 : Int32)).toUInt32.toUInt16.toUInt32.toInt32)) (nar .char (((XT.ushr p1 (8 : Int32)) &&& (255 : Int32)).toUInt32.toUInt16.toUInt32.toInt32)) (nar .char (((XT.ushr p1 (16 : Int32)) &&& (255 : Int32)).toUInt32.toUInt16.toUInt32.toInt32)) (nar .char (((XT.ushr p1 (24 : Int32)) &&& (255 : Int32)).toUInt32.toUInt16.toUInt32.toInt32))) p5 a256 cs G a285 (nar .char ((p1 &&& (255 : Int32)).toUInt32.toUInt16.toUInt32.toInt32)) (nar .char (((XT.ushr p1 (8 : Int32)) &&& (255 : Int32)).toUInt32.toUInt16.toUInt32.toInt32)) (nar .char (((XT.ushr p1 (16 : Int32)) &&& (255 : Int32)).toUInt32.toUInt16.toUInt32.toInt32)) (nar .char (((XT.ushr p1 (24 : Int32)) &&& (255 : Int32)).toUInt32.toUInt16.toUInt32.toInt32))) p6 a256 cs G a285 (nar .char ((p1 &&& (255 : Int32)).toUInt32.toUInt16.toUInt32.toInt32)) (nar .char (((XT.ushr p1 (8 : Int32)) &&& (255 : Int32)).toUInt32.toUInt16.toUInt32.toInt32)) (nar .char (((XT.ushr p1 (16 : Int32)) &&& (255 : Int32)).toUInt32.toUInt16.toUInt32.toInt32)) (nar .char (((XT.ushr p1 (24 : Int32)) &&& (255 : Int32)).toUInt32.toUInt16.toUInt32.toInt32))) < (0 : Int32))) h)) (fun _ => ?_)
    refine own_aload X444 hx (hb hby at_214) (q := 216) rfl rfl rfl ?_
    refine own_callVP X444 hx hZ hown (hw _ (List.mem_of_getElem? (i := 99) rfl)) (hw _ (List.mem_of_getElem? (i := 100) rfl)) (hw _ (List.mem_of_getElem? (i := 102) rfl)) (hw _ (List.mem_of_getElem? (i := 102) rfl)) (hw _ (List.mem_of_getElem? (i := 101) rfl)) (hw _ (List.mem_of_getElem? (i := 40) rfl)) (hw _ (List.mem_of_getElem? (i := 103) rfl)) E449 (by decide) (rm20 l Z a0 hw [] a302 (own_q (own_f13 a302 a198 (own_f2 ((p2 &&& (2147483647 : Int32)) % (5 : Int32)) ((XT.ushr p2 (16 : Int32)) % (5 : Int32))) (own_f13 a302 a198 (own_f2 ((p2 &&& (2147483647 : Int32)) % (5 : Int32)) ((XT.ushr p2 (16 : Int32)) % (5 : Int32))) (own_f13 a302 a198 (own_f2 ((p2 &&& (2147483647 : Int32)) % (5 : Int32)) ((XT.ushr p2 (16 : Int32)) % (5 : Int32))) (own_f1 ((p2 &&& (2147483647 : Int32)) % (5 : Int32)) ((XT.ushr p2 (16 : Int32)) % (5 : Int32))) p3 a256 cs G a285 (nar .char ((p1 &&& (255 : Int32)).toUInt32.toUInt16.toUInt32.toInt32)) (nar .char (((XT.ushr p1 (8 : Int32)) &&& (255 : Int32)).toUInt32.toUInt16.toUInt32.toInt32)) (nar .char (((XT.ushr p1 (16 : Int32)) &&& (255 : Int32)).toUInt32.toUInt16.toUInt32.toInt32)) (nar .char (((XT.ushr p1 (24 : Int32)) &&& (255 : Int32)).toUInt32.toUInt16.toUInt32.toInt32))) p4 a256 cs G a285 (nar .char ((p1 &&& (255 : Int32)).toUInt32.toUInt16.toUInt32.toInt32)) (nar .char (((XT.ushr p1 (8 : Int32)) &&& (255 : Int32)).toUInt32.toUInt16.toUInt32.toInt32)) (nar .char (((XT.ushr p1 (16 : Int32)) &&& (255 : Int32)).toUInt32.toUInt16.toUInt32.toInt32)) (nar .char (((XT.ushr p1 (24 : Int32)) &&& (255 : Int32)).toUInt32.toUInt16.toUInt32.toInt32))) p5 a256 cs G a285 (nar .char ((p1 &&& (255 : Int32)).toUInt32.toUInt16.toUInt32.toInt32)) (nar .char (((XT.ushr p1 (8 : Int32)) &&& (255 : Int32)).toUInt32.toUInt16.toUInt32.toInt32)) (nar .char (((XT.ushr p1 (16 : Int32)) &&& (255 : Int32)).toUInt32.toUInt16.toUInt32.toInt32)) (nar .char (((XT.ushr p1 (24 : Int32)) &&& (255 : Int32)).toUInt32.toUInt16.toUInt32.toInt32))) (own_f2 ((p2 &&& (2147483647 : Int32)) % (5 : Int32)) ((XT.ushr p2 (16 : Int32)) % (5 : Int32))) (own_chr (own_f13 a302 a198 (own_f2 ((p2 &&& (2147483647 : Int32)) % (5 : Int32)) ((XT.ushr p2 (16 : Int32)) % (5 : Int32))) (own_f13 a302 a198 (own_f2 ((p2 &&& (2147483647 : Int32)) % (5 : Int32)) ((XT.ushr p2 (16 : Int32)) % (5 : Int32))) (own_f13 a302 a198 (own_f2 ((p2 &&& (2147483647 : Int32)) % (5 : Int32)) ((XT.ushr p2 (16 : Int32)) % (5 : Int32))) (own_f1 ((p2 &&& (2147483647 : Int32)) % (5 : Int32)) ((XT.ushr p2 (16 : Int32)) % (5 : Int32))) p3 a256 cs G a285 (nar .char ((p1 &&& (255 : Int32)).toUInt32.toUInt16.toUInt32.toInt32)) (nar .char (((XT.ushr p1 (8 : Int32)) &&& (255 : Int32)).toUInt32.toUInt16.toUInt32.toInt32)) (nar .char (((XT.ushr p1 (16 : Int32)) &&& (255 : Int32)).toUInt32.toUInt16.toUInt32.toInt32)) (nar .char (((XT.ushr p1 (24 : Int32)) &&& (255 : Int32)).toUInt32.toUInt16.toUInt32.toInt32))) p4 a256 cs G a285 (nar .char ((p1 &&& (255 : Int32)).toUInt32.toUInt16.toUInt32.toInt32)) (nar .char (((XT.ushr p1 (8 : Int32)) &&& (255 : Int32)).toUInt32.toUInt16.toUInt32.toInt32)) (nar .char (((XT.ushr p1 (16 : Int32)) &&& (255 : Int32)).toUInt32.toUInt16.toUInt32.toInt32)) (nar .char (((XT.ushr p1 (24 : Int32)) &&& (255 : Int32)).toUInt32.toUInt16.toUInt32.toInt32))) p5 a256 cs G a285 (nar .char ((p1 &&& (255 : Int32)).toUInt32.toUInt16.toUInt32.toInt32)) (nar .char (((XT.ushr p1 (8 : Int32)) &&& (255 : Int32)).toUInt32.toUInt16.toUInt32.toInt32)) (nar .char (((XT.ushr p1 (16 : Int32)) &&& (255 : Int32)).toUInt32.toUInt16.toUInt32.toInt32)) (nar .char (((XT.ushr p1 (24 : Int32)) &&& (255 : Int32)).toUInt32.toUInt16.toUInt32.toInt32))) p6 (nar .char ((p1 &&& (255 : Int32)).toUInt32.toUInt16.toUInt32.toInt32)) (nar .char (((XT.ushr p1 (8 : Int32)) &&& (255 : Int32)).toUInt32.toUInt16.toUInt32.toInt32)) (nar .char (((XT.ushr p1 (16 : Int32)) &&& (255 : Int32)).toUInt32.toUInt16.toUInt32.toInt32)) (nar .char (((XT.ushr p1 (24 : Int32)) &&& (255 : Int32)).toUInt32.toUInt16.toUInt32.toInt32))) (nar .char ((p1 &&& (255 : Int32)).toUInt32.toUInt16.toUInt32.toInt32)) (nar .char (((XT.ushr p1 (8 : Int32)) &&& (255 : Int32)).toUInt32.toUInt16.toUInt32.toInt32)) (nar .char (((XT.ushr p1 (16 : Int32)) &&& (255 : Int32)).toUInt32.toUInt16.toUInt32.toInt32)) (nar .char (((XT.ushr p1 (24 : Int32)) &&& (255 : Int32)).toUInt32.toUInt16.toUInt32.toInt32))) T442.heap F452) own_pd5 rfl rfl (by rw [hml]; rfl) (argsL := []) (st := []) rfl (W := 0) (Nat.le_of_eq rfl) (by decide) (by decide) (by decide) (by decide) (hb hby at_216) (q := 219) rfl (fun T461 X462 e463 => ?_)
    refine own_iload X462 hx (hb hby at_219) (q := 221) rfl rfl ?_
    refine own_icmpM X462 hx (hb hby at_221) (cd := .ne) (x := own_f20 (own_q (own_f13 a302 a198 (own_f2 ((p2 &&& (2147483647 : Int32)) % (5 : Int32)) ((XT.ushr p2 (16 : Int32)) % (5 : Int32))) (own_f13 a302 a198 (own_f2 ((p2 &&& (2147483647 : Int32)) % (5 : Int32)) ((XT.ushr p2 (16 : Int32)) % (5 : Int32))) (own_f13 a302 a198 (own_f2 ((p2 &&& (2147483647 : Int32)) % (5 : Int32)) ((XT.ushr p2 (16 : Int32)) % (5 : Int32))) (own_f1 ((p2 &&& (2147483647 : Int32)) % (5 : Int32)) ((XT.ushr p2 (16 : Int32)) % (5 : Int32))) p3 a256 cs G a285 (nar .char ((p1 &&& (255 : Int32)).toUInt32.toUInt16.toUInt32.toInt32)) (nar .char (((XT.ushr p1 (8 : Int32)) &&& (255 : Int32)).toUInt32.toUInt16.toUInt32.toInt32)) (nar .char (((XT.ushr p1 (16 : Int32)) &&& (255 : Int32)).toUInt32.toUInt16.toUInt32.toInt32)) (nar .char (((XT.ushr p1 (24 : Int32)) &&& (255 : Int32)).toUInt32.toUInt16.toUInt32.toInt32))) p4 a256 cs G a285 (nar .char ((p1 &&& (255 : Int32)).toUInt32.toUInt16.toUInt32.toInt32)) (nar .char (((XT.ushr p1 (8 : Int32)) &&& (255 : Int32)).toUInt32.toUInt16.toUInt32.toInt32)) (nar .char (((XT.ushr p1 (16 : Int32)) &&& (255 : Int32)).toUInt32.toUInt16.toUInt32.toInt32)) (nar .char (((XT.ushr p1 (24 : Int32)) &&& (255 : Int32)).toUInt32.toUInt16.toUInt32.toInt32))) p5 a256 cs G a285 (nar .char ((p1 &&& (255 : Int32)).toUInt32.toUInt16.toUInt32.toInt32)) (nar .char (((XT.ushr p1 (8 : Int32)) &&& (255 : Int32)).toUInt32.toUInt16.toUInt32.toInt32)) (nar .char (((XT.ushr p1 (16 : Int32)) &&& (255 : Int32)).toUInt32.toUInt16.toUInt32.toInt32)) (nar .char (((XT.ushr p1 (24 : Int32)) &&& (255 : Int32)).toUInt32.toUInt16.toUInt32.toInt32))) (own_f2 ((p2 &&& (2147483647 : Int32)) % (5 : Int32)) ((XT.ushr p2 (16 : Int32)) % (5 : Int32))) (own_chr (own_f13 a302 a198 (own_f2 ((p2 &&& (2147483647 : Int32)) % (5 : Int32)) ((XT.ushr p2 (16 : Int32)) % (5 : Int32))) (own_f13 a302 a198 (own_f2 ((p2 &&& (2147483647 : Int32)) % (5 : Int32)) ((XT.ushr p2 (16 : Int32)) % (5 : Int32))) (own_f13 a302 a198 (own_f2 ((p2 &&& (2147483647 : Int32)) % (5 : Int32)) ((XT.ushr p2 (16 : Int32)) % (5 : Int32))) (own_f1 ((p2 &&& (2147483647 : Int32)) % (5 : Int32)) ((XT.ushr p2 (16 : Int32)) % (5 : Int32))) p3 a256 cs G a285 (nar .char ((p1 &&& (255 : Int32)).toUInt32.toUInt16.toUInt32.toInt32)) (nar .char (((XT.ushr p1 (8 : Int32)) &&& (255 : Int32)).toUInt32.toUInt16.toUInt32.toInt32)) (nar .char (((XT.ushr p1 (16 : Int32)) &&& (255 : Int32)).toUInt32.toUInt16.toUInt32.toInt32)) (nar .char (((XT.ushr p1 (24 : Int32)) &&& (255 : Int32)).toUInt32.toUInt16.toUInt32.toInt32))) p4 a256 cs G a285 (nar .char ((p1 &&& (255 : Int32)).toUInt32.toUInt16.toUInt32.toInt32)) (nar .char (((XT.ushr p1 (8 : Int32)) &&& (255 : Int32)).toUInt32.toUInt16.toUInt32.toInt32)) (nar .char (((XT.ushr p1 (16 : Int32)) &&& (255 : Int32)).toUInt32.toUInt16.toUInt32.toInt32)) (nar .char (((XT.ushr p1 (24 : Int32)) &&& (255 : Int32)).toUInt32.toUInt16.toUInt32.toInt32))) p5 a256 cs G a285 (nar .char ((p1 &&& (255 : Int32)).toUInt32.toUInt16.toUInt32.toInt32)) (nar .char (((XT.ushr p1 (8 : Int32)) &&& (255 : Int32)).toUInt32.toUInt16.toUInt32.toInt32)) (nar .char (((XT.ushr p1 (16 : Int32)) &&& (255 : Int32)).toUInt32.toUInt16.toUInt32.toInt32)) (nar .char (((XT.ushr p1 (24 : Int32)) &&& (255 : Int32)).toUInt32.toUInt16.toUInt32.toInt32))) p6 (nar .char ((p1 &&& (255 : Int32)).toUInt32.toUInt16.toUInt32.toInt32)) (nar .char (((XT.ushr p1 (8 : Int32)) &&& (255 : Int32)).toUInt32.toUInt16.toUInt32.toInt32)) (nar .char (((XT.ushr p1 (16 : Int32)) &&& (255 : Int32)).toUInt32.toUInt16.toUInt32.toInt32)) (nar .char (((XT.ushr p1 (24 : Int32)) &&& (255 : Int32)).toUInt32.toUInt16.toUInt32.toInt32))) (nar .char ((p1 &&& (255 : Int32)).toUInt32.toUInt16.toUInt32.toInt32)) (nar .char (((XT.ushr p1 (8 : Int32)) &&& (255 : Int32)).toUInt32.toUInt16.toUInt32.toInt32)) (nar .char (((XT.ushr p1 (16 : Int32)) &&& (255 : Int32)).toUInt32.toUInt16.toUInt32.toInt32)) (nar .char (((XT.ushr p1 (24 : Int32)) &&& (255 : Int32)).toUInt32.toUInt16.toUInt32.toInt32)))) (y := own_f13 a302 a198 (own_f2 ((p2 &&& (2147483647 : Int32)) % (5 : Int32)) ((XT.ushr p2 (16 : Int32)) % (5 : Int32))) (own_f13 a302 a198 (own_f2 ((p2 &&& (2147483647 : Int32)) % (5 : Int32)) ((XT.ushr p2 (16 : Int32)) % (5 : Int32))) (own_f13 a302 a198 (own_f2 ((p2 &&& (2147483647 : Int32)) % (5 : Int32)) ((XT.ushr p2 (16 : Int32)) % (5 : Int32))) (own_f13 a302 a198 (own_f2 ((p2 &&& (2147483647 : Int32)) % (5 : Int32)) ((XT.ushr p2 (16 : Int32)) % (5 : Int32))) (own_f1 ((p2 &&& (2147483647 : Int32)) % (5 : Int32)) ((XT.ushr p2 (16 : Int32)) % (5 : Int32))) p3 a256 cs G a285 (nar .char ((p1 &&& (255 : Int32)).toUInt32.toUInt16.toUInt32.toInt32)) (nar .char (((XT.ushr p1 (8 : Int32)) &&& (255 : Int32)).toUInt32.toUInt16.toUInt32.toInt32)) (nar .char (((XT.ushr p1 (16 : Int32)) &&& (255 : Int32)).toUInt32.toUInt16.toUInt32.toInt32)) (nar .char (((XT.ushr p1 (24 : Int32)) &&& (255 : Int32)).toUInt32.toUInt16.toUInt32.toInt32))) p4 a256 cs G a285 (nar .char ((p1 &&& (255 : Int32)).toUInt32.toUInt16.toUInt32.toInt32)) (nar .char (((XT.ushr p1 (8 : Int32)) &&& (255 : Int32)).toUInt32.toUInt16.toUInt32.toInt32)) (nar .char (((XT.ushr p1 (16 : Int32)) &&& (255 : Int32)).toUInt32.toUInt16.toUInt32.toInt32)) (nar .char (((XT.ushr p1 (24 : Int32)) &&& (255 : Int32)).toUInt32.toUInt16.toUInt32.toInt32))) p5 a256 cs G a285 (nar .char ((p1 &&& (255 : Int32)).toUInt32.toUInt16.toUInt32.toInt32)) (nar .char (((XT.ushr p1 (8 : Int32)) &&& (255 : Int32)).toUInt32.toUInt16.toUInt32.toInt32)) (nar .char (((XT.ushr p1 (16 : Int32)) &&& (255 : Int32)).toUInt32.toUInt16.toUInt32.toInt32)) (nar .char (((XT.ushr p1 (24 : Int32)) &&& (255 : Int32)).toUInt32.toUInt16.toUInt32.toInt32))) p6 a256 cs G a285 (nar .char ((p1 &&& (255 : Int32)).toUInt32.toUInt16.toUInt32.toInt32)) (nar .char (((XT.ushr p1 (8 : Int32)) &&& (255 : Int32)).toUInt32.toUInt16.toUInt32.toInt32)) (nar .char (((XT.ushr p1 (16 : Int32)) &&& (255 : Int32)).toUInt32.toUInt16.toUInt32.toInt32)) (nar .char (((XT.ushr p1 (24 : Int32)) &&& (255 : Int32)).toUInt32.toUInt16.toUInt32.toInt32))) (pt := 228) (q := 224) (by decide) (by decide) rfl rfl (fun h => False.elim (h ((rfl) : (own_f20 (own_q (own_f13 a302 a198 (own_f2 ((p2 &&& (2147483647 : Int32)) % (5 : Int32)) ((XT.ushr p2 (16 : Int32)) % (5 : Int32))) (own_f13 a302 a198 (own_f2 ((p2 &&& (2147483647 : Int32)) % (5 : Int32)) ((XT.ushr p2 (16 : Int32)) % (5 : Int32))) (own_f13 a302 a198 (own_f2 ((p2 &&& (2147483647 : Int32)) % (5 : Int32)) ((XT.ushr p2 (16 : Int32)) % (5 : Int32))) (own_f1 ((p2 &&& (2147483647 : Int32)) % (5 : Int32)) ((XT.ushr p2 (16 : Int32)) % (5 : Int32))) p3 a256 cs G a285 (nar .char ((p1 &&& (255 : Int32)).toUInt32.toUInt16.toUInt32.toInt32)) (nar .char (((XT.ushr p1 (8 : Int32)) &&& (255 : Int32)).toUInt32.toUInt16.toUInt32.toInt32)) (nar .char (((XT.ushr p1 (16 : Int32)) &&& (255 : Int32)).toUInt32.toUInt16.toUInt32.toInt32)) (nar .char (((XT.ushr p1 (24 : Int32)) &&& (255 : Int32)).toUInt32.toUInt16.toUInt32.toInt32))) p4 a256 cs G a285 (nar .char ((p1 &&& (255 : Int32)).toUInt32.toUInt16.toUInt32.toInt32)) (nar .char (((XT.ushr p1 (8 : Int32)) &&& (255 : Int32)).toUInt32.toUInt16.toUInt32.toInt32)) (nar .char (((XT.ushr p1 (16 : Int32)) &&& (255 : Int32)).toUInt32.toUInt16.toUInt32.toInt32)) (nar .char (((XT.ushr p1 (24 : Int32)) &&& (255 : Int32)).toUInt32.toUInt16.toUInt32.toInt32))) p5 a256 cs G a285 (nar .char ((p1 &&& (255 : Int32)).toUInt32.toUInt16.toUInt32.toInt32)) (nar .char (((XT.ushr p1 (8 : Int32)) &&& (255 : Int32)).toUInt32.toUInt16.toUInt32.toInt32)) (nar .char (((XT.ushr p1 (16 : Int32)) &&& (255 : Int32)).toUInt32.toUInt16.toUInt32.toInt32)) (nar .char (((XT.ushr p1 (24 : Int32)) &&& (255 : Int32)).toUInt32.toUInt16.toUInt32.toInt32))) (own_f2 ((p2 &&& (2147483647 : Int32)) % (5 : Int32)) ((XT.ushr p2 (16 : Int32)) % (5 : Int32))) (own_chr (own_f13 a302 a198 (own_f2 ((p2 &&& (2147483647 : Int32)) % (5 : Int32)) ((XT.ushr p2 (16 : Int32)) % (5 : Int32))) (own_f13 a302 a198 (own_f2 ((p2 &&& (2147483647 : Int32)) % (5 : Int32)) ((XT.ushr p2 (16 : Int32)) % (5 : Int32))) (own_f13 a302 a198 (own_f2 ((p2 &&& (2147483647 : Int32)) % (5 : Int32)) ((XT.ushr p2 (16 : Int32)) % (5 : Int32))) (own_f1 ((p2 &&& (2147483647 : Int32)) % (5 : Int32)) ((XT.ushr p2 (16 : Int32)) % (5 : Int32))) p3 a256 cs G a285 (nar .char ((p1 &&& (255 : Int32)).toUInt32.toUInt16.toUInt32.toInt32)) (nar .char (((XT.ushr p1 (8 : Int32)) &&& (255 : Int32)).toUInt32.toUInt16.toUInt32.toInt32)) (nar .char (((XT.ushr p1 (16 : Int32)) &&& (255 : Int32)).toUInt32.toUInt16.toUInt32.toInt32)) (nar .char (((XT.ushr p1 (24 : Int32)) &&& (255 : Int32)).toUInt32.toUInt16.toUInt32.toInt32))) p4 a256 cs G a285 (nar .char ((p1 &&& (255 : Int32)).toUInt32.toUInt16.toUInt32.toInt32)) (nar .char (((XT.ushr p1 (8 : Int32)) &&& (255 : Int32)).toUInt32.toUInt16.toUInt32.toInt32)) (nar .char (((XT.ushr p1 (16 : Int32)) &&& (255 : Int32)).toUInt32.toUInt16.toUInt32.toInt32)) (nar .char (((XT.ushr p1 (24 : Int32)) &&& (255 : Int32)).toUInt32.toUInt16.toUInt32.toInt32))) p5 a256 cs G a285 (nar .char ((p1 &&& (255 : Int32)).toUInt32.toUInt16.toUInt32.toInt32)) (nar .char (((XT.ushr p1 (8 : Int32)) &&& (255 : Int32)).toUInt32.toUInt16.toUInt32.toInt32)) (nar .char (((XT.ushr p1 (16 : Int32)) &&& (255 : Int32)).toUInt32.toUInt16.toUInt32.toInt32)) (nar .char (((XT.ushr p1 (24 : Int32)) &&& (255 : Int32)).toUInt32.toUInt16.toUInt32.toInt32))) p6 (nar .char ((p1 &&& (255 : Int32)).toUInt32.toUInt16.toUInt32.toInt32)) (nar .char (((XT.ushr p1 (8 : Int32)) &&& (255 : Int32)).toUInt32.toUInt16.toUInt32.toInt32)) (nar .char (((XT.ushr p1 (16 : Int32)) &&& (255 : Int32)).toUInt32.toUInt16.toUInt32.toInt32)) (nar .char (((XT.ushr p1 (24 : Int32)) &&& (255 : Int32)).toUInt32.toUInt16.toUInt32.toInt32))) (nar .char ((p1 &&& (255 : Int32)).toUInt32.toUInt16.toUInt32.toInt32)) (nar .char (((XT.ushr p1 (8 : Int32)) &&& (255 : Int32)).toUInt32.toUInt16.toUInt32.toInt32)) (nar .char (((XT.ushr p1 (16 : Int32)) &&& (255 : Int32)).toUInt32.toUInt16.toUInt32.toInt32)) (nar .char (((XT.ushr p1 (24 : Int32)) &&& (255 : Int32)).toUInt32.toUInt16.toUInt32.toInt32)))) = (own_f13 a302 a198 (own_f2 ((p2 &&& (2147483647 : Int32)) % (5 : Int32)) ((XT.ushr p2 (16 : Int32)) % (5 : Int32))) (own_f13 a302 a198 (own_f2 ((p2 &&& (2147483647 : Int32)) % (5 : Int32)) ((XT.ushr p2 (16 : Int32)) % (5 : Int32))) (own_f13 a302 a198 (own_f2 ((p2 &&& (2147483647 : Int32)) % (5 : Int32)) ((XT.ushr p2 (16 : Int32)) % (5 : Int32))) (own_f13 a302 a198 (own_f2 ((p2 &&& (2147483647 : Int32)) % (5 : Int32)) ((XT.ushr p2 (16 : Int32)) % (5 : Int32))) (own_f1 ((p2 &&& (2147483647 : Int32)) % (5 : Int32)) ((XT.ushr p2 (16 : Int32)) % (5 : Int32))) p3 a256 cs G a285 (nar .char ((p1 &&& (255 : Int32)).toUInt32.toUInt16.toUInt32.toInt32)) (nar .char (((XT.ushr p1 (8 : Int32)) &&& (255 : Int32)).toUInt32.toUInt16.toUInt32.toInt32)) (nar .char (((XT.ushr p1 (16 : Int32)) &&& (255 : Int32)).toUInt32.toUInt16.toUInt32.toInt32)) (nar .char (((XT.ushr p1 (24 : Int32)) &&& (255 : Int32)).toUInt32.toUInt16.toUInt32.toInt32))) p4 a256 cs G a285 (nar .char ((p1 &&& (255 : Int32)).toUInt32.toUInt16.toUInt32.toInt32)) (nar .char (((XT.ushr p1 (8 : Int32)) &&& (255 : Int32)).toUInt32.toUInt16.toUInt32.toInt32)) (nar .char (((XT.ushr p1 (16 : Int32)) &&& (255 : Int32)).toUInt32.toUInt16.toUInt32.toInt32)) (nar .char (((XT.ushr p1 (24 : Int32)) &&& (255 : Int32)).toUInt32.toUInt16.toUInt32.toInt32))) p5 a256 cs G a285 (nar .char ((p1 &&& (255 : Int32)).toUInt32.toUInt16.toUInt32.toInt32)) (nar .char (((XT.ushr p1 (8 : Int32)) &&& (255 : Int32)).toUInt32.toUInt16.toUInt32.toInt32)) (nar .char (((XT.ushr p1 (16 : Int32)) &&& (255 : Int32)).toUInt32.toUInt16.toUInt32.toInt32)) (nar .char (((XT.ushr p1 (24 : Int32)) &&& (255 : Int32)).toUInt32.toUInt16.toUInt32.toInt32))) p6 a256 cs G a285 (nar .char ((p1 &&& (255 : Int32)).toUInt32.toUInt16.toUInt32.toInt32)) (nar .char (((XT.ushr p1 (8 : Int32)) &&& (255 : Int32)).toUInt32.toUInt16.toUInt32.toInt32)) (nar .char (((XT.ushr p1 (16 : Int32)) &&& (255 : Int32)).toUInt32.toUInt16.toUInt32.toInt32)) (nar .char (((XT.ushr p1 (24 : Int32)) &&& (255 : Int32)).toUInt32.toUInt16.toUInt32.toInt32)))))) (fun _ => ?_)
    refine own_iconst X462 hx (v := (1 : Int32)) (hb hby at_224) (q := 225) rfl rfl ?_
    refine own_goto X462 hx (hb hby at_225) (q := 229) (by decide) (by decide) ?_
    refine own_retN X462 hx hlk (t := .boolean) (by simp) Bd.returns (hb hby at_229) ?_ (by decide) (by decide)
    exact ⟨rfl, N448⟩
  refine own_icmpM X348 hx (hb hby at_124) (cd := .ne) (x := own_f1 ((p2 &&& (2147483647 : Int32)) % (5 : Int32)) ((XT.ushr p2 (16 : Int32)) % (5 : Int32))) (y := own_f2 ((p2 &&& (2147483647 : Int32)) % (5 : Int32)) ((XT.ushr p2 (16 : Int32)) % (5 : Int32))) (pt := 131) (q := 127) (by decide) (by decide) rfl rfl (fun (c6 : ¬ ((own_f1 ((p2 &&& (2147483647 : Int32)) % (5 : Int32)) ((XT.ushr p2 (16 : Int32)) % (5 : Int32))) = (own_f2 ((p2 &&& (2147483647 : Int32)) % (5 : Int32)) ((XT.ushr p2 (16 : Int32)) % (5 : Int32))))) => ?_) (fun (c6 : (own_f1 ((p2 &&& (2147483647 : Int32)) % (5 : Int32)) ((XT.ushr p2 (16 : Int32)) % (5 : Int32))) = (own_f2 ((p2 &&& (2147483647 : Int32)) % (5 : Int32)) ((XT.ushr p2 (16 : Int32)) % (5 : Int32)))) => ?_)
  · refine own_iconst X348 hx (v := (0 : Int32)) (hb hby at_131) (q := 132) rfl rfl ?_
    exact J351 _ (by rw [if_neg c6])
  · refine own_iconst X348 hx (v := (1 : Int32)) (hb hby at_127) (q := 128) rfl rfl ?_
    refine own_goto X348 hx (hb hby at_128) (q := 132) (by decide) (by decide) ?_
    exact J351 _ (by rw [if_pos c6])
set_option maxRecDepth 65536 in
set_option maxHeartbeats 40000000 in
theorem comes_1 {Post : Tables → Env → Array Value → State → Outcome → State → Prop} (hpost : ∀ tb e args s v u, (limb_1_1.after args s (.returned v) u = true ∧ limb_1_2.after args s (.returned v) u = true ∧ True) → FrameEnd s (.returned v) u (Jvm.fieldLocs frame_1_writes args s ++ Jvm.arrayLocs frame_1_arrays args s ++ Jvm.staticLocs frame_1_statics s) 16 128 → Post tb e args s (.returned v) u) :
    ArmFor flags0 classFile x code maxLocals ret World_1 tables_1 room_1 Calls_1 rest_1 Pre_1 Post := by
  intro l hfl _ _ p e ha hc hk s m args below hf hA hF happ hP
  obtain ⟨hcalls, hrest, hpre⟩ := hP
  obtain ⟨-, -, -, hnamed, -, -, -, hat⟩ := (Spec.applies_iff hf).mp happ
  obtain ⟨hg, hn⟩ := and_e (Cond.before_iff.mp (show (Jvm.Cond.and given_1 narrow_1).before args s = true from hpre))
  obtain ⟨h1, g0⟩ := and_e hg
  obtain ⟨k0, g1⟩ := and_e g0
  obtain ⟨k1, g2⟩ := and_e g1
  obtain ⟨k2, g3⟩ := and_e g2
  obtain ⟨k3, g4⟩ := and_e g3
  obtain ⟨k4, g5⟩ := and_e g4
  have k5 := g5
  obtain ⟨w0, w1, w2, w3, w4, w5, rfl⟩ : ∃ w0 w1 w2 w3 w4 w5 : Value, args = #[w0, w1, w2, w3, w4, w5] := by
    have hs : args.size = 6 := by simpa [Cond.value, given_1] using h1
    obtain ⟨L⟩ := args
    match L, hs with
    | [w0, w1, w2, w3, w4, w5], _ => exact ⟨w0, w1, w2, w3, w4, w5, rfl⟩
  have hw := fun d (hd : d ∈ tables_1) => atoms_spec (ws := Jvm.Cond.code x code maxLocals ret :: tables_1) hat d (List.mem_cons_of_mem _ hd)
  have hfit : Fit s := fun {y c} hc i hi => by
    obtain ⟨ha, rfl⟩ := Array.getElem?_eq_some_iff.mp hc
    have q := List.all_eq_true.mp ((Array.all_eq_true_iff_forall_mem.mp hF) _ (Array.getElem_mem ha)) i (List.mem_range.mpr hi)
    simpa [Array.getElem?_eq_getElem hi] using q
  obtain ⟨i0, e0⟩ := is_v k0
  obtain rfl : w0 = (.int i0) := Option.some.inj e0
  obtain ⟨i1, e1⟩ := is_v k1
  obtain rfl : w1 = (.int i1) := Option.some.inj e1
  obtain ⟨i2, e2⟩ := is_v k2
  obtain rfl : w2 = (.int i2) := Option.some.inj e2
  obtain ⟨i3, e3⟩ := is_v k3
  obtain rfl : w3 = (.int i3) := Option.some.inj e3
  obtain ⟨i4, e4⟩ := is_v k4
  obtain rfl : w4 = (.int i4) := Option.some.inj e4
  obtain ⟨i5, e5⟩ := is_v k5
  obtain rfl : w5 = (.int i5) := Option.some.inj e5
  obtain ⟨hsets, hown0⟩ := atoms_of _ (rest_1_c_eq ▸ (show rest_1_c.before _ s = true from hrest))
  have n5 := not_v (Cond.before_iff.mp (hsets _ (List.mem_of_getElem? (i := 2) rfl)))
  obtain ⟨cs, ecs⟩ := is_v (Cond.before_iff.mp (hsets _ (List.mem_of_getElem? (i := 1) rfl)))
  have SCS : Sta s s.heap "java/lang/String" "COMPACT_STRINGS" "Z" (.int cs) := Sta.start ecs (Or.inl (hsets _ (List.mem_of_getElem? (i := 0) rfl)))
  have PCS : ¬ (cs = (0 : Int32)) := gotF (Cond.eq_ints ecs (Term.int_eval (0))) n5
  obtain ⟨G, eG, rG⟩ := isR_v (Cond.before_iff.mp (hsets _ (List.mem_of_getElem? (i := 8) rfl)))
  have SSG : Sta s s.heap "jdk/internal/util/Preconditions" "SIOOBE_FORMATTER" "Ljava/util/function/BiFunction;" G := Sta.start eG (Or.inl (hsets _ (List.mem_of_getElem? (i := 7) rfl)))
  obtain ⟨n, o, h1, h2, h3, _, L, rfl, ⟨rfl, N⟩, hq⟩ := rm0 l s _ hw tables_1 i0 i1 i2 i3 i4 i5 s.heap s.heap.size (Nat.le_refl _) SCS PCS SSG rG p e ha hc hk s m _ below hf ((Spec.applies_iff_loose hf).mp happ).1 ⟨rfl, State.Warmed39.refl s, rfl⟩ trivial
  refine ⟨n, _, h1, h2, h3, hpost _ _ _ _ _ _ ⟨Cond.after_iff.mpr rfl, Cond.after_iff.mpr (eq_i res_at (Term.int_eval (1)) rfl), trivial⟩ ⟨hq.1, hq.2.1, (hq.2.2.sift fun y hy => Or.inr (N y hy)).mono (by decide) (by decide)⟩⟩
theorem main_1_1 : Claimed_1_1 := comes_1 fun _ _ _ _ _ _ h hF => ⟨h.1, hF⟩
theorem main_1_2 : Claimed_1_2 := comes_1 fun _ _ _ _ _ _ h hF => ⟨h.2.1, hF⟩
end Jvm.Pilot.@@N@@
namespace Jvm.Pilot.@@N@@
open Jvm Jvm.ClassFile Sem Op Lib Jvm.Free Jvm.Stand Jvm.Pilot.@@N@@.Jvm.D
/-! MADE BY PROGRAM (witnessworld.py) out of the Statement's table words and the real class files: 21 classes; the members and pool entries that the words name. The judged class is class 1, her method 2. -/
namespace start1
open Jvm.ClassFile
def u (s : String) : CpInfo := .utf8 (stringToUtf16 s)
/-- a pool by its gaps: so many unusable entries, then the entry; so many at the end -/
def gap : Nat → List CpInfo → List CpInfo
  | 0, r => r
  | n + 1, r => .unusable :: gap n r
def poolList (es : List (Nat × CpInfo)) (last : Nat) : List CpInfo := es.foldr (fun e r => gap e.1 (e.2 :: r)) (gap last [])
def pool (es : List (Nat × CpInfo)) (last : Nat) : Array CpInfo := ⟨poolList es last⟩
def fileOf (pool : Array CpInfo) (this : Nat) (attrs : Array Attribute := #[]) (ms : Array MethodInfo := #[]) (fl : Nat := 33) (sup : Nat := 0) (ifs : Array Nat := #[]) (fds : Array FieldInfo := #[]) : ClassFile where
  minorVersion := 0
  majorVersion := 65
  constantPool := pool
  accessFlags := fl
  thisClass := this
  superClass := sup
  interfaces := ifs
  fields := fds
  methods := ms
  attributes := attrs
def plain (name : String) (sup : Option ClassId) : Class where
  name := name
  kind := .ordinary
  loader := none
  accessFlags := 33
  super := sup
  interfaces := #[]
  cf := none
  fields := #[]
  methods := #[]
  instanceTypes := #[]
  staticTypes := #[]
  resolved := #[]
  callSites := []
  init := .initialized
  statics := none
  mirror := none

def pool0 : Array CpInfo := pool [(5, u "<init>"), (0, u "()V"), (1, .class_ 10), (1, u "java/lang/Object")] 113

def k0c0 : Code := { maxStack := 0, maxLocals := 1, code := object_method_1_code, exceptionTable := #[], attributes := #[] }
def k0m0 : Method := { name := "<init>", desc := "()V", sig := { parameters := [], returnType := none }, accessFlags := 1, code := some k0c0 }
/-- java/lang/Object -/
def k0 : Class := { plain "java/lang/Object" none with
  accessFlags := 33
  interfaces := #[]
  cf := some (fileOf pool0 8 #[] #[{ accessFlags := 1, nameIndex := 5, descriptorIndex := 6, attributes := #[] }] 33 0 #[] #[])
  fields := #[]
  methods := #[k0m0]
  instanceTypes := #[]
  staticTypes := #[]
  resolved := Array.replicate 124 none
  statics := none }

def pool1 : Array CpInfo := pool [(2, .class_ 4), (1, u "java/lang/Object"), (0, u "<init>"), (0, u "()V"), (0, .methodref 8 9), (0, .class_ 10), (0, .nameAndType 11 12), (0, u "com/example/tisza/tisza/tree/TextScanner"), (0, u "accept"), (0, u "(C)Z"), (0, .methodref 8 14), (0, .nameAndType 15 16), (0, u "atEnd"), (0, u "()Z"), (0, .integer 2147483647), (0, .methodref 19 20), (0, .class_ 21), (0, .nameAndType 22 23), (0, u "java/lang/Math"), (0, u "min"), (0, u "(II)I"), (0, .methodref 19 25), (0, .nameAndType 26 23), (0, u "max"), (0, .class_ 28), (0, u "java/lang/String"), (0, .methodref 27 30), (0, .nameAndType 5 31), (0, u "([C)V"), (0, .methodref 8 33), (0, .nameAndType 5 34), (0, u "(Ljava/lang/String;III)V"), (0, .methodref 36 37), (0, .class_ 38), (0, .nameAndType 39 40), (0, u "com/example/tisza/tisza/tree/TextScannerAtEndPinLaw"), (0, u "step"), (0, u "(Lcom/example/tisza/tisza/tree/TextScanner;[CIII)I"), (0, .methodref 8 42), (0, .nameAndType 43 44), (0, u "getPosition"), (0, u "()I"), (5, u "law"), (0, u "(IIIIII)Z")] 2

def k1m0 : Method := { name := "<init>", desc := "()V", sig := { parameters := [], returnType := none }, accessFlags := 1, code := none }
def k1c1 : Code := { maxStack := 3, maxLocals := 8, code := method_2_code, exceptionTable := #[], attributes := #[] }
def k1m1 : Method := { name := "step", desc := "(Lcom/example/tisza/tisza/tree/TextScanner;[CIII)I", sig := { parameters := [(.object "com/example/tisza/tisza/tree/TextScanner"), (.array .char), .int, .int, .int], returnType := some .int }, accessFlags := 10, code := some k1c1 }
def k1c2 : Code := { maxStack := 6, maxLocals := 15, code := code, exceptionTable := #[], attributes := #[] }
def k1m2 : Method := { name := "law", desc := "(IIIIII)Z", sig := { parameters := [.int, .int, .int, .int, .int, .int], returnType := some .boolean }, accessFlags := 9, code := some k1c2 }
/-- com/example/tisza/tisza/tree/TextScannerAtEndPinLaw -/
def k1 : Class := { plain "com/example/tisza/tisza/tree/TextScannerAtEndPinLaw" (some 0) with
  accessFlags := 49
  interfaces := #[]
  cf := some (fileOf pool1 36 #[] #[{ accessFlags := 1, nameIndex := 5, descriptorIndex := 6, attributes := #[] }, { accessFlags := 10, nameIndex := 39, descriptorIndex := 40, attributes := #[] }, { accessFlags := 9, nameIndex := 50, descriptorIndex := 51, attributes := #[] }] 49 2 #[] #[])
  fields := #[]
  methods := #[k1m0, k1m1, k1m2]
  instanceTypes := #[]
  staticTypes := #[]
  resolved := Array.replicate 54 none
  statics := none }

def pool2 : Array CpInfo := pool [(1, .class_ 2), (0, u "java/lang/Math"), (1, .class_ 6), (1, u "java/lang/Object"), (0, u "<init>"), (0, u "()V"), (89, .class_ 100), (1, u "java/lang/Math$RandomNumberGeneratorHolder"), (71, u "negativeZeroFloatBits"), (0, u "J"), (2, u "negativeZeroDoubleBits"), (21, u "max"), (2, u "min"), (43, u "$assertionsDisabled"), (0, u "Z"), (88, u "(II)I"), (2, u "twoToTheDoubleScaleDown"), (0, u "D"), (4, u "twoToTheDoubleScaleUp"), (9, u "E"), (3, u "PI"), (2, u "TAU"), (2, u "DEGREES_TO_RADIANS"), (0, u "RADIANS_TO_DEGREES")] 94

def k2m0 : Method := { name := "<init>", desc := "()V", sig := { parameters := [], returnType := none }, accessFlags := 2, code := none }
def k2c1 : Code := { maxStack := 2, maxLocals := 2, code := jdk_29_method_65_code, exceptionTable := #[], attributes := #[] }
def k2m1 : Method := { name := "max", desc := "(II)I", sig := { parameters := [.int, .int], returnType := some .int }, accessFlags := 9, code := some k2c1 }
def k2c2 : Code := { maxStack := 2, maxLocals := 2, code := jdk_29_method_69_code, exceptionTable := #[], attributes := #[] }
def k2m2 : Method := { name := "min", desc := "(II)I", sig := { parameters := [.int, .int], returnType := some .int }, accessFlags := 9, code := some k2c2 }
/-- java/lang/Math -/
def k2 : Class := { plain "java/lang/Math" (some 0) with
  accessFlags := 49
  interfaces := #[]
  cf := some (fileOf pool2 1 #[.nestMembers #[98]] #[{ accessFlags := 2, nameIndex := 7, descriptorIndex := 8, attributes := #[] }, { accessFlags := 9, nameIndex := 198, descriptorIndex := 335, attributes := #[] }, { accessFlags := 9, nameIndex := 201, descriptorIndex := 335, attributes := #[] }] 49 4 #[] #[{ accessFlags := 25, nameIndex := 354, descriptorIndex := 339, attributes := #[] }, { accessFlags := 25, nameIndex := 358, descriptorIndex := 339, attributes := #[] }, { accessFlags := 25, nameIndex := 361, descriptorIndex := 339, attributes := #[] }, { accessFlags := 26, nameIndex := 364, descriptorIndex := 339, attributes := #[] }, { accessFlags := 26, nameIndex := 365, descriptorIndex := 339, attributes := #[] }, { accessFlags := 26, nameIndex := 172, descriptorIndex := 173, attributes := #[] }, { accessFlags := 26, nameIndex := 176, descriptorIndex := 173, attributes := #[] }, { accessFlags := 8, nameIndex := 344, descriptorIndex := 339, attributes := #[] }, { accessFlags := 8, nameIndex := 338, descriptorIndex := 339, attributes := #[] }, { accessFlags := 4120, nameIndex := 245, descriptorIndex := 246, attributes := #[] }])
  fields := #[{ name := "E", type := .double, accessFlags := 25, slot := 0, constantValue := 0 }, { name := "PI", type := .double, accessFlags := 25, slot := 1, constantValue := 0 }, { name := "TAU", type := .double, accessFlags := 25, slot := 2, constantValue := 0 }, { name := "DEGREES_TO_RADIANS", type := .double, accessFlags := 26, slot := 3, constantValue := 0 }, { name := "RADIANS_TO_DEGREES", type := .double, accessFlags := 26, slot := 4, constantValue := 0 }, { name := "negativeZeroFloatBits", type := .long, accessFlags := 26, slot := 5, constantValue := 0 }, { name := "negativeZeroDoubleBits", type := .long, accessFlags := 26, slot := 6, constantValue := 0 }, { name := "twoToTheDoubleScaleUp", type := .double, accessFlags := 8, slot := 7, constantValue := 0 }, { name := "twoToTheDoubleScaleDown", type := .double, accessFlags := 8, slot := 8, constantValue := 0 }, { name := "$assertionsDisabled", type := .boolean, accessFlags := 4120, slot := 9, constantValue := 0 }]
  methods := #[k2m0, k2m1, k2m2]
  instanceTypes := #[]
  staticTypes := #[.double, .double, .double, .double, .double, .long, .long, .double, .double, .boolean]
  resolved := Array.replicate 460 none
  statics := none }

def pool3 : Array CpInfo := pool [(1, .class_ 2), (0, u "java/io/Serializable"), (0, .class_ 4), (0, u "java/lang/Object")] 2

/-- java/io/Serializable -/
def k3 : Class := { plain "java/io/Serializable" (some 0) with
  accessFlags := 1537
  interfaces := #[]
  cf := some (fileOf pool3 1 #[] #[] 1537 3 #[] #[])
  fields := #[]
  methods := #[]
  instanceTypes := #[]
  staticTypes := #[]
  resolved := Array.replicate 7 none
  statics := none }

def pool4 : Array CpInfo := pool [(1, .class_ 2), (0, u "java/lang/Comparable"), (0, .class_ 4), (0, u "java/lang/Object")] 7

/-- java/lang/Comparable -/
def k4 : Class := { plain "java/lang/Comparable" (some 0) with
  accessFlags := 1537
  interfaces := #[]
  cf := some (fileOf pool4 1 #[] #[] 1537 3 #[] #[])
  fields := #[]
  methods := #[]
  instanceTypes := #[]
  staticTypes := #[]
  resolved := Array.replicate 12 none
  statics := none }

def pool5 : Array CpInfo := pool [(2, .class_ 4), (1, u "java/lang/CharSequence"), (42, .class_ 48), (0, u "java/lang/CharSequence$1CodePointIterator"), (10, .class_ 60), (0, u "java/lang/CharSequence$1CharIterator"), (5, .class_ 67), (0, u "java/lang/Object")] 63

/-- java/lang/CharSequence -/
def k5 : Class := { plain "java/lang/CharSequence" (some 0) with
  accessFlags := 1537
  interfaces := #[]
  cf := some (fileOf pool5 2 #[.nestMembers #[47, 59]] #[] 1537 66 #[] #[])
  fields := #[]
  methods := #[]
  instanceTypes := #[]
  staticTypes := #[]
  resolved := Array.replicate 131 none
  statics := none }

def pool6 : Array CpInfo := pool [(1, .class_ 2), (0, u "java/lang/constant/Constable"), (0, .class_ 4), (0, u "java/lang/Object")] 6

/-- java/lang/constant/Constable -/
def k6 : Class := { plain "java/lang/constant/Constable" (some 0) with
  accessFlags := 1537
  interfaces := #[]
  cf := some (fileOf pool6 1 #[] #[] 1537 3 #[] #[])
  fields := #[]
  methods := #[]
  instanceTypes := #[]
  staticTypes := #[]
  resolved := Array.replicate 11 none
  statics := none }

def pool7 : Array CpInfo := pool [(1, .class_ 2), (0, u "java/lang/constant/ConstantDesc"), (0, .class_ 4), (0, u "java/lang/Object")] 32

/-- java/lang/constant/ConstantDesc -/
def k7 : Class := { plain "java/lang/constant/ConstantDesc" (some 0) with
  accessFlags := 1537
  interfaces := #[]
  cf := some (fileOf pool7 1 #[] #[] 1537 3 #[] #[])
  fields := #[]
  methods := #[]
  instanceTypes := #[]
  staticTypes := #[]
  resolved := Array.replicate 37 none
  statics := none }

def pool8 : Array CpInfo := pool [(1, .methodref 2 3), (0, .class_ 4), (0, .nameAndType 5 6), (0, u "java/lang/Object"), (0, u "<init>"), (0, u "()V"), (2, .fieldref 10 11), (0, .class_ 12), (0, .nameAndType 13 14), (0, u "java/lang/String"), (0, u "value"), (0, u "[B"), (0, .fieldref 10 16), (0, .nameAndType 17 18), (0, u "coder"), (0, u "B"), (2, u "hash"), (0, u "I"), (2, u "hashIsZero"), (0, u "Z"), (0, .methodref 10 28), (0, .nameAndType 5 29), (0, u "([CIILjava/lang/Void;)V"), (8, .fieldref 10 39), (0, .nameAndType 40 26), (0, u "COMPACT_STRINGS"), (1, .class_ 44), (1, u "java/lang/StringUTF16"), (0, u "compress"), (1, .methodref 42 48), (0, .nameAndType 49 50), (0, u "coderFromArrayLen"), (0, u "([BI)B"), (56, .class_ 109), (1, u "java/lang/StringLatin1"), (32, u "()Z"), (34, .methodref 42 178), (0, .nameAndType 45 179), (0, u "([CII)[B"), (154, u "()I"), (0, .methodref 10 336), (0, .nameAndType 17 337), (0, u "()B"), (25, u "([BI)C"), (27, u "(II)V"), (35, u "(I)C"), (64, .methodref 10 493), (0, .nameAndType 494 142), (0, u "isLatin1"), (0, .methodref 107 496), (0, .nameAndType 497 363), (0, u "charAt"), (3, u "checkIndex"), (5, u "length"), (67, .class_ 576), (0, u "java/lang/CharSequence"), (22, u "CASE_INSENSITIVE_ORDER"), (0, u "Ljava/util/Comparator;"), (409, u "([C)V"), (42, .fieldref 1054 1055), (0, .class_ 1056), (0, .nameAndType 1057 1058), (0, u "jdk/internal/util/Preconditions"), (0, u "SIOOBE_FORMATTER"), (0, u "Ljava/util/function/BiFunction;"), (0, .methodref 1054 1060), (0, .nameAndType 501 1061), (0, u "(IILjava/util/function/BiFunction;)I"), (39, u "serialPersistentFields"), (0, u "[Ljava/io/ObjectStreamField;"), (0, .class_ 1104), (0, u "java/lang/String$CaseInsensitiveComparator"), (1, .class_ 1107), (0, u "java/io/Serializable"), (0, .class_ 1109), (0, u "java/lang/Comparable"), (0, .class_ 1111), (0, u "java/lang/constant/Constable"), (0, .class_ 1113), (0, u "java/lang/constant/ConstantDesc"), (2, u "serialVersionUID"), (0, u "J"), (3, u "REPL"), (0, u "C"), (2, u "LATIN1"), (1, u "UTF16")] 323

def k8m0 : Method := { name := "<init>", desc := "()V", sig := { parameters := [], returnType := none }, accessFlags := 1, code := none }
def k8c1 : Code := { maxStack := 5, maxLocals := 2, code := jdk_42_method_3_code, exceptionTable := #[], attributes := #[] }
def k8m1 : Method := { name := "<init>", desc := "([C)V", sig := { parameters := [(.array .char)], returnType := none }, accessFlags := 1, code := some k8c1 }
def k8c2 : Code := { maxStack := 2, maxLocals := 1, code := jdk_42_method_54_code, exceptionTable := #[], attributes := #[] }
def k8m2 : Method := { name := "length", desc := "()I", sig := { parameters := [], returnType := some .int }, accessFlags := 1, code := some k8c2 }
def k8c3 : Code := { maxStack := 2, maxLocals := 2, code := jdk_42_method_56_code, exceptionTable := #[], attributes := #[] }
def k8m3 : Method := { name := "charAt", desc := "(I)C", sig := { parameters := [.int], returnType := some .char }, accessFlags := 1, code := some k8c3 }
def k8c4 : Code := { maxStack := 4, maxLocals := 6, code := jdk_42_method_149_code, exceptionTable := #[], attributes := #[] }
def k8m4 : Method := { name := "<init>", desc := "([CIILjava/lang/Void;)V", sig := { parameters := [(.array .char), .int, .int, (.object "java/lang/Void")], returnType := none }, accessFlags := 2, code := some k8c4 }
def k8c5 : Code := { maxStack := 1, maxLocals := 1, code := jdk_42_method_152_code, exceptionTable := #[], attributes := #[] }
def k8m5 : Method := { name := "coder", desc := "()B", sig := { parameters := [], returnType := some .byte }, accessFlags := 0, code := some k8c5 }
def k8c6 : Code := { maxStack := 1, maxLocals := 1, code := jdk_42_method_154_code, exceptionTable := #[], attributes := #[] }
def k8m6 : Method := { name := "isLatin1", desc := "()Z", sig := { parameters := [], returnType := some .boolean }, accessFlags := 0, code := some k8c6 }
def k8c7 : Code := { maxStack := 3, maxLocals := 2, code := jdk_42_method_155_code, exceptionTable := #[], attributes := #[] }
def k8m7 : Method := { name := "checkIndex", desc := "(II)V", sig := { parameters := [.int, .int], returnType := none }, accessFlags := 8, code := some k8c7 }
/-- java/lang/String -/
def k8 : Class := { plain "java/lang/String" (some 0) with
  accessFlags := 49
  interfaces := #[3, 4, 5, 6, 7]
  cf := some (fileOf pool8 10 #[.nestMembers #[1103]] #[{ accessFlags := 1, nameIndex := 5, descriptorIndex := 6, attributes := #[] }, { accessFlags := 1, nameIndex := 5, descriptorIndex := 1010, attributes := #[] }, { accessFlags := 1, nameIndex := 507, descriptorIndex := 334, attributes := #[] }, { accessFlags := 1, nameIndex := 497, descriptorIndex := 427, attributes := #[] }, { accessFlags := 2, nameIndex := 5, descriptorIndex := 29, attributes := #[] }, { accessFlags := 0, nameIndex := 17, descriptorIndex := 337, attributes := #[] }, { accessFlags := 0, nameIndex := 494, descriptorIndex := 142, attributes := #[] }, { accessFlags := 8, nameIndex := 501, descriptorIndex := 391, attributes := #[] }] 49 2 #[1106, 1108, 575, 1110, 1112] #[{ accessFlags := 18, nameIndex := 13, descriptorIndex := 14, attributes := #[] }, { accessFlags := 18, nameIndex := 17, descriptorIndex := 18, attributes := #[] }, { accessFlags := 2, nameIndex := 21, descriptorIndex := 22, attributes := #[] }, { accessFlags := 2, nameIndex := 25, descriptorIndex := 26, attributes := #[] }, { accessFlags := 26, nameIndex := 1116, descriptorIndex := 1117, attributes := #[] }, { accessFlags := 24, nameIndex := 40, descriptorIndex := 26, attributes := #[] }, { accessFlags := 26, nameIndex := 1101, descriptorIndex := 1102, attributes := #[] }, { accessFlags := 26, nameIndex := 1121, descriptorIndex := 1122, attributes := #[] }, { accessFlags := 25, nameIndex := 599, descriptorIndex := 600, attributes := #[] }, { accessFlags := 24, nameIndex := 1125, descriptorIndex := 18, attributes := #[] }, { accessFlags := 24, nameIndex := 1127, descriptorIndex := 18, attributes := #[] }])
  fields := #[{ name := "value", type := (.array .byte), accessFlags := 18, slot := 0, constantValue := 0 }, { name := "coder", type := .byte, accessFlags := 18, slot := 1, constantValue := 0 }, { name := "hash", type := .int, accessFlags := 2, slot := 2, constantValue := 0 }, { name := "hashIsZero", type := .boolean, accessFlags := 2, slot := 3, constantValue := 0 }, { name := "serialVersionUID", type := .long, accessFlags := 26, slot := 0, constantValue := 0 }, { name := "COMPACT_STRINGS", type := .boolean, accessFlags := 24, slot := 1, constantValue := 0 }, { name := "serialPersistentFields", type := (.array (.object "java/io/ObjectStreamField")), accessFlags := 26, slot := 2, constantValue := 0 }, { name := "REPL", type := .char, accessFlags := 26, slot := 3, constantValue := 0 }, { name := "CASE_INSENSITIVE_ORDER", type := (.object "java/util/Comparator"), accessFlags := 25, slot := 4, constantValue := 0 }, { name := "LATIN1", type := .byte, accessFlags := 24, slot := 5, constantValue := 0 }, { name := "UTF16", type := .byte, accessFlags := 24, slot := 6, constantValue := 0 }]
  methods := #[k8m0, k8m1, k8m2, k8m3, k8m4, k8m5, k8m6, k8m7]
  instanceTypes := #[(.array .byte), .byte, .int, .boolean]
  staticTypes := #[.long, .boolean, (.array (.object "java/io/ObjectStreamField")), .char, (.object "java/util/Comparator"), .byte, .byte]
  resolved := Array.replicate 1451 none
  statics := some 0 }

def pool9 : Array CpInfo := pool [(6, .class_ 8), (1, u "java/lang/Object"), (0, u "<init>"), (0, u "()V"), (1, .class_ 14), (1, u "java/lang/StringUTF16"), (31, u "$assertionsDisabled"), (0, u "Z"), (13, u "HI_BYTE_SHIFT"), (0, u "I"), (2, u "LO_BYTE_SHIFT"), (49, .methodref 12 116), (0, .nameAndType 117 118), (0, u "compress"), (0, u "([CI[BII)I"), (3, u "([CII)[B"), (138, u "coderFromArrayLen"), (0, u "([BI)B"), (106, .class_ 371), (1, u "java/lang/StringUTF16$LinesSpliterator"), (58, u "MAX_LENGTH"), (196, .class_ 628), (0, u "java/lang/StringUTF16$CodePointsSpliterator"), (0, .class_ 630), (0, u "java/lang/StringUTF16$CharsSpliterator")] 4

def k9m0 : Method := { name := "<init>", desc := "()V", sig := { parameters := [], returnType := none }, accessFlags := 0, code := none }
def k9c1 : Code := { maxStack := 2, maxLocals := 2, code := jdk_52_method_15_code, exceptionTable := #[], attributes := #[] }
def k9m1 : Method := { name := "coderFromArrayLen", desc := "([BI)B", sig := { parameters := [(.array .byte), .int], returnType := some .byte }, accessFlags := 8, code := some k9c1 }
def k9c2 : Code := { maxStack := 5, maxLocals := 6, code := jdk_52_method_16_code, exceptionTable := #[], attributes := #[] }
def k9m2 : Method := { name := "compress", desc := "([CII)[B", sig := { parameters := [(.array .char), .int, .int], returnType := some (.array .byte) }, accessFlags := 9, code := some k9c2 }
def k9c3 : Code := { maxStack := 3, maxLocals := 7, code := jdk_52_method_21_code, exceptionTable := #[], attributes := #[] }
def k9m3 : Method := { name := "compress", desc := "([CI[BII)I", sig := { parameters := [(.array .char), .int, (.array .byte), .int, .int], returnType := some .int }, accessFlags := 9, code := some k9c3 }
/-- java/lang/StringUTF16 -/
def k9 : Class := { plain "java/lang/StringUTF16" (some 0) with
  accessFlags := 48
  interfaces := #[]
  cf := some (fileOf pool9 12 #[.nestMembers #[627, 629, 369]] #[{ accessFlags := 0, nameIndex := 9, descriptorIndex := 10, attributes := #[] }, { accessFlags := 8, nameIndex := 261, descriptorIndex := 262, attributes := #[] }, { accessFlags := 9, nameIndex := 117, descriptorIndex := 122, attributes := #[] }, { accessFlags := 9, nameIndex := 117, descriptorIndex := 118, attributes := #[] }] 48 6 #[] #[{ accessFlags := 26, nameIndex := 61, descriptorIndex := 62, attributes := #[] }, { accessFlags := 26, nameIndex := 65, descriptorIndex := 62, attributes := #[] }, { accessFlags := 24, nameIndex := 430, descriptorIndex := 62, attributes := #[] }, { accessFlags := 4120, nameIndex := 46, descriptorIndex := 47, attributes := #[] }])
  fields := #[{ name := "HI_BYTE_SHIFT", type := .int, accessFlags := 26, slot := 0, constantValue := 0 }, { name := "LO_BYTE_SHIFT", type := .int, accessFlags := 26, slot := 1, constantValue := 0 }, { name := "MAX_LENGTH", type := .int, accessFlags := 24, slot := 2, constantValue := 0 }, { name := "$assertionsDisabled", type := .boolean, accessFlags := 4120, slot := 3, constantValue := 0 }]
  methods := #[k9m0, k9m1, k9m2, k9m3]
  instanceTypes := #[]
  staticTypes := #[.int, .int, .int, .boolean]
  resolved := Array.replicate 635 none
  statics := none }

def pool10 : Array CpInfo := pool [(1, .methodref 2 3), (0, .class_ 4), (0, .nameAndType 5 6), (0, u "java/lang/Object"), (0, u "<init>"), (0, u "()V"), (0, .methodref 8 9), (0, .class_ 10), (0, .nameAndType 11 12), (0, u "java/lang/String"), (0, u "length"), (0, u "()I"), (9, .fieldref 23 24), (0, .class_ 25), (0, .nameAndType 26 27), (0, u "com/example/tisza/tisza/tree/TextScanner"), (0, u "text"), (0, u "Ljava/lang/String;"), (0, .fieldref 23 29), (0, .nameAndType 30 31), (0, u "end"), (0, u "I"), (0, .fieldref 23 33), (0, .nameAndType 34 31), (0, u "position"), (0, .fieldref 23 36), (0, .nameAndType 37 31), (0, u "line"), (2, u "(Ljava/lang/String;III)V"), (3, .methodref 8 45), (0, .nameAndType 46 47), (0, u "charAt"), (0, u "(I)C"), (3, u "(C)Z"), (73, u "getPosition"), (1, u "atEnd"), (0, u "()Z"), (0, u "accept")] 28

def k10c0 : Code := { maxStack := 5, maxLocals := 5, code := prog_129_method_1_code, exceptionTable := #[], attributes := #[] }
def k10m0 : Method := { name := "<init>", desc := "(Ljava/lang/String;III)V", sig := { parameters := [(.object "java/lang/String"), .int, .int, .int], returnType := none }, accessFlags := 1, code := some k10c0 }
def k10c1 : Code := { maxStack := 1, maxLocals := 1, code := prog_129_method_4_code, exceptionTable := #[], attributes := #[] }
def k10m1 : Method := { name := "getPosition", desc := "()I", sig := { parameters := [], returnType := some .int }, accessFlags := 1, code := some k10c1 }
def k10c2 : Code := { maxStack := 2, maxLocals := 1, code := prog_129_method_6_code, exceptionTable := #[], attributes := #[] }
def k10m2 : Method := { name := "atEnd", desc := "()Z", sig := { parameters := [], returnType := some .boolean }, accessFlags := 1, code := some k10c2 }
def k10c3 : Code := { maxStack := 3, maxLocals := 3, code := prog_129_method_8_code, exceptionTable := #[], attributes := #[] }
def k10m3 : Method := { name := "accept", desc := "(C)Z", sig := { parameters := [.char], returnType := some .boolean }, accessFlags := 1, code := some k10c3 }
/-- com/example/tisza/tisza/tree/TextScanner -/
def k10 : Class := { plain "com/example/tisza/tisza/tree/TextScanner" (some 0) with
  accessFlags := 33
  interfaces := #[]
  cf := some (fileOf pool10 23 #[] #[{ accessFlags := 1, nameIndex := 5, descriptorIndex := 40, attributes := #[] }, { accessFlags := 1, nameIndex := 125, descriptorIndex := 12, attributes := #[] }, { accessFlags := 1, nameIndex := 127, descriptorIndex := 128, attributes := #[] }, { accessFlags := 1, nameIndex := 129, descriptorIndex := 51, attributes := #[] }] 33 2 #[] #[{ accessFlags := 18, nameIndex := 26, descriptorIndex := 27, attributes := #[] }, { accessFlags := 18, nameIndex := 30, descriptorIndex := 31, attributes := #[] }, { accessFlags := 2, nameIndex := 34, descriptorIndex := 31, attributes := #[] }, { accessFlags := 2, nameIndex := 37, descriptorIndex := 31, attributes := #[] }])
  fields := #[{ name := "text", type := (.object "java/lang/String"), accessFlags := 18, slot := 0, constantValue := 0 }, { name := "end", type := .int, accessFlags := 18, slot := 1, constantValue := 0 }, { name := "position", type := .int, accessFlags := 2, slot := 2, constantValue := 0 }, { name := "line", type := .int, accessFlags := 2, slot := 3, constantValue := 0 }]
  methods := #[k10m0, k10m1, k10m2, k10m3]
  instanceTypes := #[(.object "java/lang/String"), .int, .int, .int]
  staticTypes := #[]
  resolved := Array.replicate 158 none
  statics := none }

def pool11 : Array CpInfo := pool [(1, .class_ 2), (0, u "java/lang/String"), (1, .class_ 6), (1, u "java/lang/Object"), (0, u "<init>"), (0, u "()V"), (0, .methodref 1 10), (0, .nameAndType 11 12), (0, u "checkIndex"), (0, u "(II)V"), (1, .class_ 16), (1, u "java/lang/StringLatin1"), (36, u "([BI)C"), (67, u "$assertionsDisabled"), (0, u "Z"), (98, .class_ 223), (1, u "java/lang/StringLatin1$LinesSpliterator"), (28, u "charAt"), (137, .class_ 391), (0, u "java/lang/StringLatin1$CharsSpliterator")] 3

def k11m0 : Method := { name := "<init>", desc := "()V", sig := { parameters := [], returnType := none }, accessFlags := 0, code := none }
def k11c1 : Code := { maxStack := 2, maxLocals := 2, code := jdk_43_method_2_code, exceptionTable := #[], attributes := #[] }
def k11m1 : Method := { name := "charAt", desc := "([BI)C", sig := { parameters := [(.array .byte), .int], returnType := some .char }, accessFlags := 9, code := some k11c1 }
/-- java/lang/StringLatin1 -/
def k11 : Class := { plain "java/lang/StringLatin1" (some 0) with
  accessFlags := 48
  interfaces := #[]
  cf := some (fileOf pool11 14 #[.nestMembers #[390, 221]] #[{ accessFlags := 0, nameIndex := 7, descriptorIndex := 8, attributes := #[] }, { accessFlags := 9, nameIndex := 252, descriptorIndex := 53, attributes := #[] }] 48 4 #[] #[{ accessFlags := 4120, nameIndex := 121, descriptorIndex := 122, attributes := #[] }])
  fields := #[{ name := "$assertionsDisabled", type := .boolean, accessFlags := 4120, slot := 0, constantValue := 0 }]
  methods := #[k11m0, k11m1]
  instanceTypes := #[]
  staticTypes := #[.boolean]
  resolved := Array.replicate 395 none
  statics := none }

def pool12 : Array CpInfo := pool [(2, .class_ 4), (1, u "java/lang/Object"), (0, u "<init>"), (0, u "()V"), (17, .class_ 26), (1, u "jdk/internal/util/Preconditions"), (6, u "checkIndex"), (21, .class_ 56), (0, u "jdk/internal/util/Preconditions$4"), (57, .class_ 115), (0, u "jdk/internal/util/Preconditions$1"), (7, u "SIOOBE_FORMATTER"), (0, u "Ljava/util/function/BiFunction;"), (0, .class_ 126), (0, u "jdk/internal/util/Preconditions$2"), (3, u "AIOOBE_FORMATTER"), (0, .class_ 132), (0, u "jdk/internal/util/Preconditions$3"), (3, u "IOOBE_FORMATTER"), (41, u "(IILjava/util/function/BiFunction;)I")] 15

def k12m0 : Method := { name := "<init>", desc := "()V", sig := { parameters := [], returnType := none }, accessFlags := 1, code := none }
def k12c1 : Code := { maxStack := 3, maxLocals := 3, code := jdk_41_method_11_code, exceptionTable := #[], attributes := #[] }
def k12m1 : Method := { name := "checkIndex", desc := "(IILjava/util/function/BiFunction;)I", sig := { parameters := [.int, .int, (.object "java/util/function/BiFunction")], returnType := some .int }, accessFlags := 9, code := some k12c1 }
/-- jdk/internal/util/Preconditions -/
def k12 : Class := { plain "jdk/internal/util/Preconditions" (some 0) with
  accessFlags := 33
  interfaces := #[]
  cf := some (fileOf pool12 24 #[.nestMembers #[55, 131, 125, 114]] #[{ accessFlags := 1, nameIndex := 5, descriptorIndex := 6, attributes := #[] }, { accessFlags := 9, nameIndex := 33, descriptorIndex := 178, attributes := #[] }] 33 2 #[] #[{ accessFlags := 25, nameIndex := 123, descriptorIndex := 124, attributes := #[] }, { accessFlags := 25, nameIndex := 130, descriptorIndex := 124, attributes := #[] }, { accessFlags := 25, nameIndex := 136, descriptorIndex := 124, attributes := #[] }])
  fields := #[{ name := "SIOOBE_FORMATTER", type := (.object "java/util/function/BiFunction"), accessFlags := 25, slot := 0, constantValue := 0 }, { name := "AIOOBE_FORMATTER", type := (.object "java/util/function/BiFunction"), accessFlags := 25, slot := 1, constantValue := 0 }, { name := "IOOBE_FORMATTER", type := (.object "java/util/function/BiFunction"), accessFlags := 25, slot := 2, constantValue := 0 }]
  methods := #[k12m0, k12m1]
  instanceTypes := #[]
  staticTypes := #[(.object "java/util/function/BiFunction"), (.object "java/util/function/BiFunction"), (.object "java/util/function/BiFunction")]
  resolved := Array.replicate 194 none
  statics := some 1 }

def pool13 : Array CpInfo := pool [(9, u "<init>"), (6, .class_ 18), (1, u "java/lang/Object"), (0, u "()V"), (1, .class_ 23), (1, u "jdk/internal/util/ArraysSupport"), (0, u "LOG2_ARRAY_LONG_INDEX_SCALE"), (0, u "I"), (2, u "U"), (0, u "Ljdk/internal/misc/Unsafe;"), (8, u "BIG_ENDIAN"), (0, u "Z"), (8, u "LOG2_BYTE_BIT_SIZE"), (4, u "LOG2_ARRAY_INT_INDEX_SCALE"), (54, u "JLA"), (0, u "Ljdk/internal/access/JavaLangAccess;"), (11, u "LOG2_ARRAY_BOOLEAN_INDEX_SCALE"), (9, u "LOG2_ARRAY_BYTE_INDEX_SCALE"), (5, u "LOG2_ARRAY_CHAR_INDEX_SCALE"), (5, u "LOG2_ARRAY_SHORT_INDEX_SCALE"), (18, u "LOG2_ARRAY_FLOAT_INDEX_SCALE"), (24, u "LOG2_ARRAY_DOUBLE_INDEX_SCALE"), (89, u "T_BOOLEAN"), (2, u "T_CHAR"), (1, u "T_FLOAT"), (1, u "T_DOUBLE"), (1, u "T_BYTE"), (1, u "T_SHORT"), (1, u "T_INT"), (1, u "T_LONG"), (1, u "SOFT_MAX_ARRAY_LENGTH")] 83

def k13m0 : Method := { name := "<init>", desc := "()V", sig := { parameters := [], returnType := none }, accessFlags := 2, code := none }
/-- jdk/internal/util/ArraysSupport -/
def k13 : Class := { plain "jdk/internal/util/ArraysSupport" (some 0) with
  accessFlags := 33
  interfaces := #[]
  cf := some (fileOf pool13 21 #[] #[{ accessFlags := 2, nameIndex := 9, descriptorIndex := 19, attributes := #[] }] 33 16 #[] #[{ accessFlags := 24, nameIndex := 28, descriptorIndex := 29, attributes := #[] }, { accessFlags := 26, nameIndex := 38, descriptorIndex := 39, attributes := #[] }, { accessFlags := 25, nameIndex := 121, descriptorIndex := 25, attributes := #[] }, { accessFlags := 25, nameIndex := 131, descriptorIndex := 25, attributes := #[] }, { accessFlags := 25, nameIndex := 137, descriptorIndex := 25, attributes := #[] }, { accessFlags := 25, nameIndex := 143, descriptorIndex := 25, attributes := #[] }, { accessFlags := 25, nameIndex := 53, descriptorIndex := 25, attributes := #[] }, { accessFlags := 25, nameIndex := 24, descriptorIndex := 25, attributes := #[] }, { accessFlags := 25, nameIndex := 162, descriptorIndex := 25, attributes := #[] }, { accessFlags := 25, nameIndex := 187, descriptorIndex := 25, attributes := #[] }, { accessFlags := 26, nameIndex := 48, descriptorIndex := 25, attributes := #[] }, { accessFlags := 25, nameIndex := 277, descriptorIndex := 25, attributes := #[] }, { accessFlags := 25, nameIndex := 280, descriptorIndex := 25, attributes := #[] }, { accessFlags := 25, nameIndex := 282, descriptorIndex := 25, attributes := #[] }, { accessFlags := 25, nameIndex := 284, descriptorIndex := 25, attributes := #[] }, { accessFlags := 25, nameIndex := 286, descriptorIndex := 25, attributes := #[] }, { accessFlags := 25, nameIndex := 288, descriptorIndex := 25, attributes := #[] }, { accessFlags := 25, nameIndex := 290, descriptorIndex := 25, attributes := #[] }, { accessFlags := 25, nameIndex := 292, descriptorIndex := 25, attributes := #[] }, { accessFlags := 26, nameIndex := 108, descriptorIndex := 109, attributes := #[] }, { accessFlags := 25, nameIndex := 294, descriptorIndex := 25, attributes := #[] }])
  fields := #[{ name := "U", type := (.object "jdk/internal/misc/Unsafe"), accessFlags := 24, slot := 0, constantValue := 0 }, { name := "BIG_ENDIAN", type := .boolean, accessFlags := 26, slot := 1, constantValue := 0 }, { name := "LOG2_ARRAY_BOOLEAN_INDEX_SCALE", type := .int, accessFlags := 25, slot := 2, constantValue := 0 }, { name := "LOG2_ARRAY_BYTE_INDEX_SCALE", type := .int, accessFlags := 25, slot := 3, constantValue := 0 }, { name := "LOG2_ARRAY_CHAR_INDEX_SCALE", type := .int, accessFlags := 25, slot := 4, constantValue := 0 }, { name := "LOG2_ARRAY_SHORT_INDEX_SCALE", type := .int, accessFlags := 25, slot := 5, constantValue := 0 }, { name := "LOG2_ARRAY_INT_INDEX_SCALE", type := .int, accessFlags := 25, slot := 6, constantValue := 0 }, { name := "LOG2_ARRAY_LONG_INDEX_SCALE", type := .int, accessFlags := 25, slot := 7, constantValue := 0 }, { name := "LOG2_ARRAY_FLOAT_INDEX_SCALE", type := .int, accessFlags := 25, slot := 8, constantValue := 0 }, { name := "LOG2_ARRAY_DOUBLE_INDEX_SCALE", type := .int, accessFlags := 25, slot := 9, constantValue := 0 }, { name := "LOG2_BYTE_BIT_SIZE", type := .int, accessFlags := 26, slot := 10, constantValue := 0 }, { name := "T_BOOLEAN", type := .int, accessFlags := 25, slot := 11, constantValue := 0 }, { name := "T_CHAR", type := .int, accessFlags := 25, slot := 12, constantValue := 0 }, { name := "T_FLOAT", type := .int, accessFlags := 25, slot := 13, constantValue := 0 }, { name := "T_DOUBLE", type := .int, accessFlags := 25, slot := 14, constantValue := 0 }, { name := "T_BYTE", type := .int, accessFlags := 25, slot := 15, constantValue := 0 }, { name := "T_SHORT", type := .int, accessFlags := 25, slot := 16, constantValue := 0 }, { name := "T_INT", type := .int, accessFlags := 25, slot := 17, constantValue := 0 }, { name := "T_LONG", type := .int, accessFlags := 25, slot := 18, constantValue := 0 }, { name := "JLA", type := (.object "jdk/internal/access/JavaLangAccess"), accessFlags := 26, slot := 19, constantValue := 0 }, { name := "SOFT_MAX_ARRAY_LENGTH", type := .int, accessFlags := 25, slot := 20, constantValue := 0 }]
  methods := #[k13m0]
  instanceTypes := #[]
  staticTypes := #[(.object "jdk/internal/misc/Unsafe"), .boolean, .int, .int, .int, .int, .int, .int, .int, .int, .int, .int, .int, .int, .int, .int, .int, .int, .int, (.object "jdk/internal/access/JavaLangAccess"), .int]
  resolved := Array.replicate 378 none
  statics := none }

def pool14 : Array CpInfo := pool [(1, u "java/lang/Cloneable"), (0, .class_ 1), (0, u "java/lang/Object"), (0, .class_ 3)] 3

/-- java/lang/Cloneable -/
def k14 : Class := { plain "java/lang/Cloneable" (some 0) with
  accessFlags := 1537
  interfaces := #[]
  cf := some (fileOf pool14 2 #[] #[] 1537 4 #[] #[])
  fields := #[]
  methods := #[]
  instanceTypes := #[]
  staticTypes := #[]
  resolved := Array.replicate 8 none
  statics := none }

/-- the primitive byte -/
def k15 : Class := { plain "byte" none with kind := .primitive 'B', accessFlags := 0x411 }
/-- [B -/
def k16 : Class := { plain "[B" (some 0) with kind := .array 15 .byte, interfaces := #[14, 3], accessFlags := 1041 }

/-- the primitive char -/
def k17 : Class := { plain "char" none with kind := .primitive 'C', accessFlags := 0x411 }
/-- [C -/
def k18 : Class := { plain "[C" (some 0) with kind := .array 17 .char, interfaces := #[14, 3], accessFlags := 1041 }

/-- the primitive int -/
def k19 : Class := { plain "int" none with kind := .primitive 'I', accessFlags := 0x411 }
/-- [I -/
def k20 : Class := { plain "[I" (some 0) with kind := .array 19 .int, interfaces := #[14, 3], accessFlags := 1041 }

def heap : Heap := #[{ cls := 8, slots := #[.long 0, .int 1, .null, .int 0, .null, .int 0, .int 0], vm := .statics 8 },
  { cls := 12, slots := #[.null, .null, .null], vm := .statics 12 }]
def classes : Array Class := #[k0, k1, k2, k3, k4, k5, k6, k7, k8, k9, k10, k11, k12, k13, k14, k15, k16, k17, k18, k19, k20]
def interned : List (Array UInt16 × Addr) := []
def slotsUsed : Nat := 10
def theMethod : MethodId := ⟨1, 2⟩
def args0 : Array Value := #[.int 5, .int 5, .int 5, .int 5, .int 5, .int 5]
def aboutOver (below : List Frame) : State where
  vm := { classes := classes, interned := interned.toArray }
  heap := heap
  slotsUsed := slotsUsed
  threads := #[{ frames := .invoking theMethod args0 :: below }]
def below0 : List Frame := [.native { method := ⟨0, 0⟩, args := #[] }]
def about1 : State := aboutOver below0
def p0 : Program := .bare "" "" ""
def e0 : Env := launch0.env 0 0 0
theorem w_frames : about1.frames = Frame.invoking theMethod args0 :: below0 := rfl
set_option maxRecDepth 65536 in
theorem w_args : argsFit about1.vm theMethod args0 = true := by decide +kernel
set_option maxRecDepth 65536 in
theorem w_heap : heapFits about1 = true := by decide +kernel
set_option maxRecDepth 65536 in
theorem w_runnable : about1.curStatus? = some .runnable := by decide +kernel
set_option maxRecDepth 65536 in
theorem w_alone : about1.alone = true := by decide +kernel
set_option maxRecDepth 65536 in
theorem w_named : about1.methodNamed? x = some theMethod := by decide +kernel
set_option maxRecDepth 65536 in
theorem w_hears : about1.hears theMethod below0 = true := by decide +kernel
set_option maxRecDepth 65536 in
theorem w_ripe : about1.ripe theMethod args0 below0 = true := by decide +kernel
theorem w_running : about1.status = .running := rfl
set_option maxRecDepth 65536 in
theorem w_room : about1.hasRoom e0.platform room_1 = true :=
  launch0.hasRoom_least _ room_1 (by decide +kernel) (by decide +kernel) (by decide +kernel) (by decide +kernel) (by decide +kernel) (by decide +kernel)
theorem allAtoms_all (ts : List Jvm.Cond) (a : Array Jvm.Value) (st : Jvm.State) : (allAtoms ts).before a st = ts.all (fun c => c.before a st) := by
  induction ts with
  | nil => rfl
  | cons c t ih =>
    show (Jvm.Cond.and c (allAtoms t)).before a st = _
    rw [Jvm.Cond.before_and, ih, List.all_cons]
def words1 : List Jvm.Cond := Jvm.Cond.code x code maxLocals ret :: tables_1
/-- a 'code' word, met by the world's own term for the bytes: nothing is compared byte by byte -/
theorem code_word {y : MethodName} {bytes : ByteArray} {mx : Nat} {rt : Option FieldType} {a : Array Value} {s : State} {m : MethodId} {meth : Method} {c : Code} (h1 : s.methodNamed? y = some m) (h2 : s.vm.method? m = some meth) (h3 : meth.code = some c) (h4 : c.code = bytes)
    (h5 : (c.maxLocals == mx && c.exceptionTable.isEmpty && decide (c.maxStack ≤ mostOperands) && decide (meth.sig.returnType = rt) && !meth.locks && decide (parseMethodDescriptor y.desc = some meth.sig)) = true) : (Jvm.Cond.code y bytes mx rt).before a s = true := by
  simp only [Bool.and_eq_true, beq_iff_eq, Bool.not_eq_true', decide_eq_true_eq] at h5
  obtain ⟨⟨⟨⟨⟨g1, g2⟩, g3⟩, g4⟩, g5⟩, g6⟩ := h5
  simp [Cond.before, Cond.holds, Cond.value, h1, h2, h3, h4, g1, g2, g3, g4, g5, g6]
def isCode : Jvm.Cond → Bool
  | .code _ _ _ _ => true
  | _ => false
theorem all_split {L : List Jvm.Cond} {P : Jvm.Cond → Bool} (h1 : L.all (fun c => isCode c || P c) = true) (h2 : ∀ c ∈ L.filter isCode, P c = true) : L.all P = true := by
  refine List.all_eq_true.mpr fun c hc => ?_
  have h := List.all_eq_true.mp h1 c hc
  rcases Bool.eq_false_or_eq_true (isCode c) with hi | hi
  · exact h2 c (List.mem_filter.mpr ⟨hc, hi⟩)
  · simpa [hi] using h
set_option maxRecDepth 65536 in
theorem w_c0 : (Jvm.Cond.code x code maxLocals ret).before args0 about1 = true := code_word (m := ⟨1, 2⟩) (meth := k1m2) (c := k1c2) (by decide +kernel) rfl rfl rfl (by decide +kernel)
set_option maxRecDepth 65536 in
theorem w_c1 : (Jvm.Cond.code ({ cls := "java/lang/Math", name := "min", desc := "(II)I" } : Jvm.MethodName) jdk_29_method_69_code (2 : Nat) (Option.some Jvm.ClassFile.FieldType.int)).before args0 about1 = true := code_word (m := ⟨2, 2⟩) (meth := k2m2) (c := k2c2) (by decide +kernel) rfl rfl rfl (by decide +kernel)
set_option maxRecDepth 65536 in
theorem w_c2 : (Jvm.Cond.code ({ cls := "java/lang/Math", name := "max", desc := "(II)I" } : Jvm.MethodName) jdk_29_method_65_code (2 : Nat) (Option.some Jvm.ClassFile.FieldType.int)).before args0 about1 = true := code_word (m := ⟨2, 1⟩) (meth := k2m1) (c := k2c1) (by decide +kernel) rfl rfl rfl (by decide +kernel)
set_option maxRecDepth 65536 in
theorem w_c3 : (Jvm.Cond.code ({ cls := "java/lang/String", name := "<init>", desc := "([C)V" } : Jvm.MethodName) jdk_42_method_3_code (2 : Nat) (Option.none : Option Jvm.ClassFile.FieldType)).before args0 about1 = true := code_word (m := ⟨8, 1⟩) (meth := k8m1) (c := k8c1) (by decide +kernel) rfl rfl rfl (by decide +kernel)
set_option maxRecDepth 65536 in
theorem w_c4 : (Jvm.Cond.code ({ cls := "java/lang/String", name := "<init>", desc := "([CIILjava/lang/Void;)V" } : Jvm.MethodName) jdk_42_method_149_code (6 : Nat) (Option.none : Option Jvm.ClassFile.FieldType)).before args0 about1 = true := code_word (m := ⟨8, 4⟩) (meth := k8m4) (c := k8c4) (by decide +kernel) rfl rfl rfl (by decide +kernel)
set_option maxRecDepth 65536 in
theorem w_c5 : (Jvm.Cond.code ({ cls := "java/lang/Object", name := "<init>", desc := "()V" } : Jvm.MethodName) object_method_1_code (1 : Nat) (Option.none : Option Jvm.ClassFile.FieldType)).before args0 about1 = true := code_word (m := ⟨0, 0⟩) (meth := k0m0) (c := k0c0) (by decide +kernel) rfl rfl rfl (by decide +kernel)
set_option maxRecDepth 65536 in
theorem w_c6 : (Jvm.Cond.code ({ cls := "java/lang/StringUTF16", name := "compress", desc := "([CII)[B" } : Jvm.MethodName) jdk_52_method_16_code (6 : Nat) (Option.some (Jvm.ClassFile.FieldType.array Jvm.ClassFile.FieldType.byte))).before args0 about1 = true := code_word (m := ⟨9, 2⟩) (meth := k9m2) (c := k9c2) (by decide +kernel) rfl rfl rfl (by decide +kernel)
set_option maxRecDepth 65536 in
theorem w_c7 : (Jvm.Cond.code ({ cls := "java/lang/StringUTF16", name := "compress", desc := "([CI[BII)I" } : Jvm.MethodName) jdk_52_method_21_code (7 : Nat) (Option.some Jvm.ClassFile.FieldType.int)).before args0 about1 = true := code_word (m := ⟨9, 3⟩) (meth := k9m3) (c := k9c3) (by decide +kernel) rfl rfl rfl (by decide +kernel)
set_option maxRecDepth 65536 in
theorem w_c8 : (Jvm.Cond.code ({ cls := "java/lang/StringUTF16", name := "coderFromArrayLen", desc := "([BI)B" } : Jvm.MethodName) jdk_52_method_15_code (2 : Nat) (Option.some Jvm.ClassFile.FieldType.byte)).before args0 about1 = true := code_word (m := ⟨9, 1⟩) (meth := k9m1) (c := k9c1) (by decide +kernel) rfl rfl rfl (by decide +kernel)
set_option maxRecDepth 65536 in
theorem w_c9 : (Jvm.Cond.code ({ cls := "com/example/tisza/tisza/tree/TextScanner", name := "<init>", desc := "(Ljava/lang/String;III)V" } : Jvm.MethodName) prog_129_method_1_code (5 : Nat) (Option.none : Option Jvm.ClassFile.FieldType)).before args0 about1 = true := code_word (m := ⟨10, 0⟩) (meth := k10m0) (c := k10c0) (by decide +kernel) rfl rfl rfl (by decide +kernel)
set_option maxRecDepth 65536 in
theorem w_c10 : (Jvm.Cond.code ({ cls := "java/lang/String", name := "length", desc := "()I" } : Jvm.MethodName) jdk_42_method_54_code (1 : Nat) (Option.some Jvm.ClassFile.FieldType.int)).before args0 about1 = true := code_word (m := ⟨8, 2⟩) (meth := k8m2) (c := k8c2) (by decide +kernel) rfl rfl rfl (by decide +kernel)
set_option maxRecDepth 65536 in
theorem w_c11 : (Jvm.Cond.code ({ cls := "java/lang/String", name := "coder", desc := "()B" } : Jvm.MethodName) jdk_42_method_152_code (1 : Nat) (Option.some Jvm.ClassFile.FieldType.byte)).before args0 about1 = true := code_word (m := ⟨8, 5⟩) (meth := k8m5) (c := k8c5) (by decide +kernel) rfl rfl rfl (by decide +kernel)
set_option maxRecDepth 65536 in
theorem w_c12 : (Jvm.Cond.code ({ cls := "com/example/tisza/tisza/tree/TextScanner", name := "atEnd", desc := "()Z" } : Jvm.MethodName) prog_129_method_6_code (1 : Nat) (Option.some Jvm.ClassFile.FieldType.boolean)).before args0 about1 = true := code_word (m := ⟨10, 2⟩) (meth := k10m2) (c := k10c2) (by decide +kernel) rfl rfl rfl (by decide +kernel)
set_option maxRecDepth 65536 in
theorem w_c13 : (Jvm.Cond.code ({ cls := "com/example/tisza/tisza/tree/TextScannerAtEndPinLaw", name := "step", desc := "(Lcom/example/tisza/tisza/tree/TextScanner;[CIII)I" } : Jvm.MethodName) method_2_code (8 : Nat) (Option.some Jvm.ClassFile.FieldType.int)).before args0 about1 = true := code_word (m := ⟨1, 1⟩) (meth := k1m1) (c := k1c1) (by decide +kernel) rfl rfl rfl (by decide +kernel)
set_option maxRecDepth 65536 in
theorem w_c14 : (Jvm.Cond.code ({ cls := "com/example/tisza/tisza/tree/TextScanner", name := "accept", desc := "(C)Z" } : Jvm.MethodName) prog_129_method_8_code (3 : Nat) (Option.some Jvm.ClassFile.FieldType.boolean)).before args0 about1 = true := code_word (m := ⟨10, 3⟩) (meth := k10m3) (c := k10c3) (by decide +kernel) rfl rfl rfl (by decide +kernel)
set_option maxRecDepth 65536 in
theorem w_c15 : (Jvm.Cond.code ({ cls := "java/lang/String", name := "charAt", desc := "(I)C" } : Jvm.MethodName) jdk_42_method_56_code (2 : Nat) (Option.some Jvm.ClassFile.FieldType.char)).before args0 about1 = true := code_word (m := ⟨8, 3⟩) (meth := k8m3) (c := k8c3) (by decide +kernel) rfl rfl rfl (by decide +kernel)
set_option maxRecDepth 65536 in
theorem w_c16 : (Jvm.Cond.code ({ cls := "java/lang/String", name := "isLatin1", desc := "()Z" } : Jvm.MethodName) jdk_42_method_154_code (1 : Nat) (Option.some Jvm.ClassFile.FieldType.boolean)).before args0 about1 = true := code_word (m := ⟨8, 6⟩) (meth := k8m6) (c := k8c6) (by decide +kernel) rfl rfl rfl (by decide +kernel)
set_option maxRecDepth 65536 in
theorem w_c17 : (Jvm.Cond.code ({ cls := "java/lang/StringLatin1", name := "charAt", desc := "([BI)C" } : Jvm.MethodName) jdk_43_method_2_code (2 : Nat) (Option.some Jvm.ClassFile.FieldType.char)).before args0 about1 = true := code_word (m := ⟨11, 1⟩) (meth := k11m1) (c := k11c1) (by decide +kernel) rfl rfl rfl (by decide +kernel)
set_option maxRecDepth 65536 in
theorem w_c18 : (Jvm.Cond.code ({ cls := "java/lang/String", name := "checkIndex", desc := "(II)V" } : Jvm.MethodName) jdk_42_method_155_code (2 : Nat) (Option.none : Option Jvm.ClassFile.FieldType)).before args0 about1 = true := code_word (m := ⟨8, 7⟩) (meth := k8m7) (c := k8c7) (by decide +kernel) rfl rfl rfl (by decide +kernel)
set_option maxRecDepth 65536 in
theorem w_c19 : (Jvm.Cond.code ({ cls := "jdk/internal/util/Preconditions", name := "checkIndex", desc := "(IILjava/util/function/BiFunction;)I" } : Jvm.MethodName) jdk_41_method_11_code (3 : Nat) (Option.some Jvm.ClassFile.FieldType.int)).before args0 about1 = true := code_word (m := ⟨12, 1⟩) (meth := k12m1) (c := k12c1) (by decide +kernel) rfl rfl rfl (by decide +kernel)
set_option maxRecDepth 65536 in
theorem w_c20 : (Jvm.Cond.code ({ cls := "com/example/tisza/tisza/tree/TextScanner", name := "getPosition", desc := "()I" } : Jvm.MethodName) prog_129_method_4_code (1 : Nat) (Option.some Jvm.ClassFile.FieldType.int)).before args0 about1 = true := code_word (m := ⟨10, 1⟩) (meth := k10m1) (c := k10c1) (by decide +kernel) rfl rfl rfl (by decide +kernel)
def codes1 : List Jvm.Cond := [Jvm.Cond.code x code maxLocals ret, Jvm.Cond.code ({ cls := "java/lang/Math", name := "min", desc := "(II)I" } : Jvm.MethodName) jdk_29_method_69_code (2 : Nat) (Option.some Jvm.ClassFile.FieldType.int), Jvm.Cond.code ({ cls := "java/lang/Math", name := "max", desc := "(II)I" } : Jvm.MethodName) jdk_29_method_65_code (2 : Nat) (Option.some Jvm.ClassFile.FieldType.int), Jvm.Cond.code ({ cls := "java/lang/String", name := "<init>", desc := "([C)V" } : Jvm.MethodName) jdk_42_method_3_code (2 : Nat) (Option.none : Option Jvm.ClassFile.FieldType), Jvm.Cond.code ({ cls := "java/lang/String", name := "<init>", desc := "([CIILjava/lang/Void;)V" } : Jvm.MethodName) jdk_42_method_149_code (6 : Nat) (Option.none : Option Jvm.ClassFile.FieldType), Jvm.Cond.code ({ cls := "java/lang/Object", name := "<init>", desc := "()V" } : Jvm.MethodName) object_method_1_code (1 : Nat) (Option.none : Option Jvm.ClassFile.FieldType), Jvm.Cond.code ({ cls := "java/lang/StringUTF16", name := "compress", desc := "([CII)[B" } : Jvm.MethodName) jdk_52_method_16_code (6 : Nat) (Option.some (Jvm.ClassFile.FieldType.array Jvm.ClassFile.FieldType.byte)), Jvm.Cond.code ({ cls := "java/lang/StringUTF16", name := "compress", desc := "([CI[BII)I" } : Jvm.MethodName) jdk_52_method_21_code (7 : Nat) (Option.some Jvm.ClassFile.FieldType.int), Jvm.Cond.code ({ cls := "java/lang/StringUTF16", name := "coderFromArrayLen", desc := "([BI)B" } : Jvm.MethodName) jdk_52_method_15_code (2 : Nat) (Option.some Jvm.ClassFile.FieldType.byte), Jvm.Cond.code ({ cls := "com/example/tisza/tisza/tree/TextScanner", name := "<init>", desc := "(Ljava/lang/String;III)V" } : Jvm.MethodName) prog_129_method_1_code (5 : Nat) (Option.none : Option Jvm.ClassFile.FieldType), Jvm.Cond.code ({ cls := "java/lang/String", name := "length", desc := "()I" } : Jvm.MethodName) jdk_42_method_54_code (1 : Nat) (Option.some Jvm.ClassFile.FieldType.int), Jvm.Cond.code ({ cls := "java/lang/String", name := "coder", desc := "()B" } : Jvm.MethodName) jdk_42_method_152_code (1 : Nat) (Option.some Jvm.ClassFile.FieldType.byte), Jvm.Cond.code ({ cls := "com/example/tisza/tisza/tree/TextScanner", name := "atEnd", desc := "()Z" } : Jvm.MethodName) prog_129_method_6_code (1 : Nat) (Option.some Jvm.ClassFile.FieldType.boolean), Jvm.Cond.code ({ cls := "com/example/tisza/tisza/tree/TextScannerAtEndPinLaw", name := "step", desc := "(Lcom/example/tisza/tisza/tree/TextScanner;[CIII)I" } : Jvm.MethodName) method_2_code (8 : Nat) (Option.some Jvm.ClassFile.FieldType.int), Jvm.Cond.code ({ cls := "com/example/tisza/tisza/tree/TextScanner", name := "accept", desc := "(C)Z" } : Jvm.MethodName) prog_129_method_8_code (3 : Nat) (Option.some Jvm.ClassFile.FieldType.boolean), Jvm.Cond.code ({ cls := "java/lang/String", name := "charAt", desc := "(I)C" } : Jvm.MethodName) jdk_42_method_56_code (2 : Nat) (Option.some Jvm.ClassFile.FieldType.char), Jvm.Cond.code ({ cls := "java/lang/String", name := "isLatin1", desc := "()Z" } : Jvm.MethodName) jdk_42_method_154_code (1 : Nat) (Option.some Jvm.ClassFile.FieldType.boolean), Jvm.Cond.code ({ cls := "java/lang/StringLatin1", name := "charAt", desc := "([BI)C" } : Jvm.MethodName) jdk_43_method_2_code (2 : Nat) (Option.some Jvm.ClassFile.FieldType.char), Jvm.Cond.code ({ cls := "java/lang/String", name := "checkIndex", desc := "(II)V" } : Jvm.MethodName) jdk_42_method_155_code (2 : Nat) (Option.none : Option Jvm.ClassFile.FieldType), Jvm.Cond.code ({ cls := "jdk/internal/util/Preconditions", name := "checkIndex", desc := "(IILjava/util/function/BiFunction;)I" } : Jvm.MethodName) jdk_41_method_11_code (3 : Nat) (Option.some Jvm.ClassFile.FieldType.int), Jvm.Cond.code ({ cls := "com/example/tisza/tisza/tree/TextScanner", name := "getPosition", desc := "()I" } : Jvm.MethodName) prog_129_method_4_code (1 : Nat) (Option.some Jvm.ClassFile.FieldType.int)]
set_option maxRecDepth 65536 in
theorem codes_eq : words1.filter isCode = codes1 := rfl
theorem w_codes : ∀ c ∈ words1.filter isCode, c.before args0 about1 = true := by
  rw [codes_eq]
  intro c hc
  simp only [codes1, List.mem_cons, List.not_mem_nil, or_false] at hc
  rcases hc with rfl | rfl | rfl | rfl | rfl | rfl | rfl | rfl | rfl | rfl | rfl | rfl | rfl | rfl | rfl | rfl | rfl | rfl | rfl | rfl | rfl
  · exact w_c0
  · exact w_c1
  · exact w_c2
  · exact w_c3
  · exact w_c4
  · exact w_c5
  · exact w_c6
  · exact w_c7
  · exact w_c8
  · exact w_c9
  · exact w_c10
  · exact w_c11
  · exact w_c12
  · exact w_c13
  · exact w_c14
  · exact w_c15
  · exact w_c16
  · exact w_c17
  · exact w_c18
  · exact w_c19
  · exact w_c20
set_option maxRecDepth 65536 in
theorem w_t1 : (words1.take 24).all (fun c => isCode c || c.before args0 about1) = true := by decide +kernel
set_option maxRecDepth 65536 in
theorem w_t2 : ((words1.drop 24).take 24).all (fun c => isCode c || c.before args0 about1) = true := by decide +kernel
set_option maxRecDepth 65536 in
theorem w_t3 : (((words1.drop 24).drop 24).take 24).all (fun c => isCode c || c.before args0 about1) = true := by decide +kernel
set_option maxRecDepth 65536 in
theorem w_t4 : ((((words1.drop 24).drop 24).drop 24).take 24).all (fun c => isCode c || c.before args0 about1) = true := by decide +kernel
set_option maxRecDepth 65536 in
theorem w_t5 : ((((words1.drop 24).drop 24).drop 24).drop 24).all (fun c => isCode c || c.before args0 about1) = true := by decide +kernel
theorem w_tables : (allAtoms (Jvm.Cond.code x code maxLocals ret :: tables_1)).before args0 about1 = true := by
  rw [allAtoms_all]
  show words1.all (fun c => c.before args0 about1) = true
  refine all_split ?_ w_codes
  rw [← List.take_append_drop 24 words1, List.all_append, w_t1, ← List.take_append_drop 24 (words1.drop 24), List.all_append, w_t2, ← List.take_append_drop 24 ((words1.drop 24).drop 24), List.all_append, w_t3, ← List.take_append_drop 24 (((words1.drop 24).drop 24).drop 24), List.all_append, w_t4, w_t5]
  rfl
set_option maxRecDepth 65536 in
theorem w_rest : rest_1_c.before args0 about1 = true := by decide +kernel
set_option maxRecDepth 65536 in
theorem w_case : (Jvm.Cond.and given_1 narrow_1).before args0 about1 = true := by decide +kernel
theorem w_applies : (headSpec (Jvm.Cond.code x code maxLocals ret :: tables_1) room_1).applies x e0.platform about1 = true :=
  (Spec.applies_iff w_frames).mpr ⟨w_running, w_runnable, w_alone, w_named, w_hears, w_ripe, w_room, w_tables⟩
theorem atStart : AtStart classFile x code maxLocals ret World_1 tables_1 room_1 Calls_1 rest_1 Pre_1 launch0 p0 e0 about1 theMethod args0 below0 :=
  ⟨lists_1, trivial, launch0.admits_env _ _ _, launch0.least_env, fairChoices_fair.cas, fairChoices_fair.clock, w_frames, w_args, w_heap, w_applies, trivial, w_rest, w_case⟩
end start1
theorem witness_1 : WitnessClaimed_1 := ⟨start1.p0, start1.e0, start1.about1, start1.theMethod, start1.args0, start1.below0, start1.atStart⟩
end Jvm.Pilot.@@N@@
