import JvmDerived
import JvmDerived.Pilot.@@N@@Statement
import JvmDerived.Pilot.@@N@@Code
set_option linter.unusedVariables false
set_option linter.unusedSimpArgs false
/- laws to paste: Road.backV (cut by pick.py; bodies as the Statement names them) -/
namespace Jvm.Pilot.@@N@@
namespace StrChars
open Jvm Sem ClassFile Op Lib Jvm.Stand Jvm.Free.XT Jvm.Free.ALB Jvm.Free.JM Jvm.Free
open Jvm.Lib.Cold (StaticIs)
/-- a char array whose places are chars -/
def Ch (a : Addr) (A : Cell) (U : State) : Prop := Arr .char a A U ∧ Typed .char A
theorem Ch.mv {a : Addr} {A : Cell} {U U' : State} (h : Ch a A U) (hal : U.vm.Alike U'.vm) (hh : U'.heap = U.heap) : Ch a A U' := ⟨h.1.mv hal hh, h.2⟩
theorem Ch.keep {a : Addr} {A : Cell} {U U' : State} (h : Ch a A U) (hal : U.vm.Alike U'.vm) (hk : U'.heap[a]? = some A) : Ch a A U' := ⟨h.1.keep hal hk, h.2⟩
/-- what place i of a char[]'s cell holds -/
def cv (A : Cell) (i : Nat) : Int32 := match A.slots[i]? with | some (.int x) => x | _ => 0
theorem Ch.get {a : Addr} {A : Cell} {U : State} (h : Ch a A U) {i : Nat} (hi : i < A.slots.size) : A.slots[i]? = some (.int (cv A i)) := by
  have e := Array.getElem?_eq_getElem hi
  have f := h.2 i _ e
  unfold cv; rw [e]
  generalize A.slots[i] = v at f
  cases v <;> simp [fits] at f ⊢
/-- the byte that i2b leaves of a char -/
def lo8 (x : Int32) : Int32 := x.toInt8.toInt32
theorem fits_lo8 (y : Int32) : fits .byte (.int (lo8 y)) = true := by
  have h1 := y.toInt8.le_toInt
  have h2 := y.toInt8.toInt_lt
  simp only [lo8, fits, Bool.and_eq_true, decide_eq_true_eq, Int32.le_iff_toInt_le, Int8.toInt_toInt32, show (-128 : Int32).toInt = -128 from by decide, show (127 : Int32).toInt = 127 from by decide]
  omega
/-- A' is A but that each place j of lo .. hi - 1 holds f j -/
def Laid (A A' : Cell) (lo hi : Nat) (f : Nat → Value) : Prop := A'.cls = A.cls ∧ A'.vm = A.vm ∧ A'.slots.size = A.slots.size ∧ ∀ i, A'.slots[i]? = if lo ≤ i ∧ i < hi then some (f i) else A.slots[i]?
theorem Laid.zero (A : Cell) (lo : Nat) (f : Nat → Value) : Laid A A lo (lo + 0) f := ⟨rfl, rfl, rfl, fun i => by rw [if_neg (by omega)]⟩
theorem Laid.step {A Ak : Cell} {lo k : Nat} {f : Nat → Value} {v : Value} (h : Laid A Ak lo k f) (hlo : lo ≤ k) (hk : k < Ak.slots.size) (hv : v = f k) : Laid A (Ak.setSlot k v) lo (k + 1) f := by
  refine ⟨h.1, h.2.1, by simpa [Cell.setSlot] using h.2.2.1, fun i => ?_⟩
  by_cases e : k = i
  · subst e; rw [Cell.slots_setSlot_self v hk, if_pos (by omega), hv]
  · rw [Cell.slots_setSlot_ne v e, h.2.2.2 i]
    by_cases q : lo ≤ i ∧ i < k
    · rw [if_pos q, if_pos (by omega)]
    · rw [if_neg q, if_neg (by omega)]
def U16 : String := "java/lang/StringUTF16"
namespace Cmp5
def yN : MethodName := ⟨"java/lang/StringUTF16", "compress", "([CI[BII)I"⟩
abbrev yB : ByteArray := jdk_52_method_21_code
theorem d0 : decode yB 0 = .ok (.iconst 0, 1) := by decide +kernel
theorem d1 : decode yB 1 = .ok (.istore 5, 2) := by decide +kernel
theorem d3 : decode yB 3 = .ok (.iload 5, 2) := by decide +kernel
theorem d5 : decode yB 5 = .ok (.iload 4, 2) := by decide +kernel
theorem d7 : decode yB 7 = .ok (.if_icmp (.ge) 37, 3) := by decide +kernel
theorem d10 : decode yB 10 = .ok (.aload_n 0, 1) := by decide +kernel
theorem d11 : decode yB 11 = .ok (.iload_n 1, 1) := by decide +kernel
theorem d12 : decode yB 12 = .ok (.caload, 1) := by decide +kernel
theorem d13 : decode yB 13 = .ok (.istore 6, 2) := by decide +kernel
theorem d15 : decode yB 15 = .ok (.iload 6, 2) := by decide +kernel
theorem d17 : decode yB 17 = .ok (.sipush 255, 3) := by decide +kernel
theorem d20 : decode yB 20 = .ok (.if_icmp (.le) 6, 3) := by decide +kernel
theorem d26 : decode yB 26 = .ok (.aload_n 2, 1) := by decide +kernel
theorem d27 : decode yB 27 = .ok (.iload_n 3, 1) := by decide +kernel
theorem d28 : decode yB 28 = .ok (.iload 6, 2) := by decide +kernel
theorem d30 : decode yB 30 = .ok (.i2b, 1) := by decide +kernel
theorem d31 : decode yB 31 = .ok (.bastore, 1) := by decide +kernel
theorem d32 : decode yB 32 = .ok (.iinc 1 1, 3) := by decide +kernel
theorem d35 : decode yB 35 = .ok (.iinc 3 1, 3) := by decide +kernel
theorem d38 : decode yB 38 = .ok (.iinc 5 1, 3) := by decide +kernel
theorem d41 : decode yB 41 = .ok (.goto (-38), 3) := by decide +kernel
theorem d44 : decode yB 44 = .ok (.iload 4, 2) := by decide +kernel
theorem d46 : decode yB 46 = .ok (.ireturn, 1) := by decide +kernel
def site : List Cond := []
def tab : Cond := tabOf yN yB 7 (some .int) site
def P (b : Addr) (A : Cell) (d : Addr) (B : Cell) (o q len : Nat) (args : Array Value) (s : State) : Prop := args = #[.ref b, .int (Int32.ofNat o), .ref d, .int (Int32.ofNat q), .int (Int32.ofNat len)] ∧ Ch b A s ∧ Arr .byte d B s ∧ b ≠ d ∧ o + len ≤ A.slots.size ∧ q + len ≤ B.slots.size ∧ ∀ i, i < len → ¬ 255 < cv A (o + i)
def E (b : Addr) (A : Cell) (d : Addr) (B : Cell) (o q len : Nat) (r : Option Value) (s u : State) : Prop := r = some (.int (Int32.ofNat len)) ∧ ∃ B', Put d B' s u ∧ Laid B B' q (q + len) (fun j => Value.int (lo8 (cv A (o + (j - q)))))
/-- no char of the range above 255: len; the places written hold each char's low byte -/
theorem law (l : Launch) (b : Addr) (A : Cell) (d : Addr) (B : Cell) (o q len : Nat) : Law l yN 5 5 0 0 yB 7 (some .int) site (P b A d B o q len) (E b A d B o q len) (copyLocs d q len) 0 0 := by
  refine Law.of_walk (plainFor_of_name (by decide +kernel)) (by decide +kernel) (by decide +kernel) (by decide) (fun _ _ h => by rw [h.1]; rfl) (fun _ U U' hal hh h => ⟨h.1, h.2.1.mv hal hh, h.2.2.1.mv hal hh, h.2.2.2⟩) (fun r U U' V V' h1 hal h2 h => ⟨h.1, h.2.elim fun B' q => ⟨B', q.1.mv h1 h2, q.2⟩⟩) ?_
  intro p e s m args below meth c s₁ X0 hexec hbytes hml hret hlk hnm hown hh0 W hP
  obtain ⟨rfl, hA, hB, hne, l1, l2, hp⟩ := hP
  have c1 : Steps p.tables e below (s₁.setTop (entryFrame m #[.ref b, .int (Int32.ofNat o), .ref d, .int (Int32.ofNat q), .int (Int32.ofNat len)] 7)) (s₁.setTop (mkF m 0 #[.val (.ref b), .val (.int (Int32.ofNat o)), .val (.ref d), .val (.int (Int32.ofNat q)), .val (.int (Int32.ofNat len)), .unset, .unset] [])) := entry rfl
  have hA0 := hA.1.mv X0.warmed.alike hh0
  have hB0 := hB.mv X0.warmed.alike hh0
  have a31 := hA.1.2.2.2
  have c2 : Steps p.tables e below (s₁.setTop (entryFrame m #[.ref b, .int (Int32.ofNat o), .ref d, .int (Int32.ofNat q), .int (Int32.ofNat len)] 7)) (s₁.setTop (mkF m 3 #[.val (.ref b), .val (.int (Int32.ofNat o)), .val (.ref d), .val (.int (Int32.ofNat q)), .val (.int (Int32.ofNat len)), .val (.int 0), .unset] [])) := c1.trans (by
    refine iconstV X0.here hexec rfl 0 (hb hbytes d0) (by decide) ?_
    refine XS.istore X0.here hexec rfl (hb hbytes d1) rfl rfl ?_
    exact Steps.refl _)
  have loop : ∀ (r i : Nat), i + r = len → ∀ (z : Slot), (z = .unset ∨ ∃ w, z = .val w ∧ w.category = 1) → ∀ (Tl : State) (Bk : Cell), Stand p l e { frames := 0, locals := 0, cells := 0, slots := 0 } s m #[.ref b, .int (Int32.ofNat o), .ref d, .int (Int32.ofNat q), .int (Int32.ofNat len)] below meth c Tl ([] ++ copyLocs d q i) 0 0 → Put d Bk s₁ Tl → Laid B Bk q (q + i) (fun j => Value.int (lo8 (cv A (o + (j - q))))) →
      Steps p.tables e below (s₁.setTop (entryFrame m #[.ref b, .int (Int32.ofNat o), .ref d, .int (Int32.ofNat q), .int (Int32.ofNat len)] 7)) (Tl.setTop (mkF m 3 #[.val (.ref b), .val (.int (Int32.ofNat (o + i))), .val (.ref d), .val (.int (Int32.ofNat (q + i))), .val (.int (Int32.ofNat len)), .val (.int (Int32.ofNat i)), z] [])) → ∃ (T' : State) (B' : Cell) (z' : Slot), Stand p l e { frames := 0, locals := 0, cells := 0, slots := 0 } s m #[.ref b, .int (Int32.ofNat o), .ref d, .int (Int32.ofNat q), .int (Int32.ofNat len)] below meth c T' ([] ++ copyLocs d q len) 0 0 ∧ Put d B' s₁ T' ∧ Laid B B' q (q + len) (fun j => Value.int (lo8 (cv A (o + (j - q))))) ∧
      Steps p.tables e below (s₁.setTop (entryFrame m #[.ref b, .int (Int32.ofNat o), .ref d, .int (Int32.ofNat q), .int (Int32.ofNat len)] 7)) (T'.setTop (mkF m 3 #[.val (.ref b), .val (.int (Int32.ofNat (o + len))), .val (.ref d), .val (.int (Int32.ofNat (q + len))), .val (.int (Int32.ofNat len)), .val (.int (Int32.ofNat len)), z'] [])) := by
    intro r
    induction r with
    | zero =>
      intro i hi z hz Tl Bk Xl pl fl cl
      have hil : i = len := by omega
      rw [hil] at Xl fl cl
      exact ⟨Tl, Bk, z, Xl, pl, fl, cl⟩
    | succ r ih =>
      intro i hi z hz Tl Bk Xl pl fl cl
      have all := X0.warmed.alike.symm.trans Xl.warmed.alike
      have hAl := hA0.keep all (pl.other hne hA0.1)
      have hBk := hB0.like all pl.1 fl.1 fl.2.1 fl.2.2.1
      have hlt : q + i < Bk.slots.size := by rw [fl.2.2.1]; omega
      have c3 : Steps p.tables e below (s₁.setTop (entryFrame m #[.ref b, .int (Int32.ofNat o), .ref d, .int (Int32.ofNat q), .int (Int32.ofNat len)] 7)) (Tl.setTop (mkF m 12 #[.val (.ref b), .val (.int (Int32.ofNat (o + i))), .val (.ref d), .val (.int (Int32.ofNat (q + i))), .val (.int (Int32.ofNat len)), .val (.int (Int32.ofNat i)), z] [.int (Int32.ofNat (o + i)), .ref b])) := cl.trans (by
        refine XS.iload Xl.here hexec rfl (hb hbytes d3) rfl ?_
        refine XS.iload Xl.here hexec rfl (hb hbytes d5) rfl ?_
        refine XS.icmpNo Xl.here hexec rfl (hb hbytes d7) rfl (ii_ge_f (lt32 (by omega) (by omega))) ?_
        refine XS.aloadN Xl.here hexec rfl (hb hbytes d10) rfl rfl ?_
        refine XS.iloadN Xl.here hexec rfl (hb hbytes d11) rfl ?_
        exact Steps.refl _)
      have c4 : Steps p.tables e below (s₁.setTop (entryFrame m #[.ref b, .int (Int32.ofNat o), .ref d, .int (Int32.ofNat q), .int (Int32.ofNat len)] 7)) (Tl.setTop (mkF m 13 #[.val (.ref b), .val (.int (Int32.ofNat (o + i))), .val (.ref d), .val (.int (Int32.ofNat (q + i))), .val (.int (Int32.ofNat len)), .val (.int (Int32.ofNat i)), z] [.int (cv A (o + i))])) := c3.trans (by
        refine Xl.aget hexec hAl rfl (hA.get (i := o + i) (by omega)) rfl rfl (hb hbytes d12) ?_
        exact Steps.refl _)
      have c5 : Steps p.tables e below (s₁.setTop (entryFrame m #[.ref b, .int (Int32.ofNat o), .ref d, .int (Int32.ofNat q), .int (Int32.ofNat len)] 7)) (Tl.setTop (mkF m 15 #[.val (.ref b), .val (.int (Int32.ofNat (o + i))), .val (.ref d), .val (.int (Int32.ofNat (q + i))), .val (.int (Int32.ofNat len)), .val (.int (Int32.ofNat i)), .val (.int (cv A (o + i)))] [])) := c4.trans (by
        refine XS.istoreS Xl.here hexec rfl (hb hbytes d13) rfl rfl hz ?_
        exact Steps.refl _)
      have c6 : Steps p.tables e below (s₁.setTop (entryFrame m #[.ref b, .int (Int32.ofNat o), .ref d, .int (Int32.ofNat q), .int (Int32.ofNat len)] 7)) (Tl.setTop (mkF m 31 #[.val (.ref b), .val (.int (Int32.ofNat (o + i))), .val (.ref d), .val (.int (Int32.ofNat (q + i))), .val (.int (Int32.ofNat len)), .val (.int (Int32.ofNat i)), .val (.int (cv A (o + i)))] [.int (lo8 (cv A (o + i))), .int (Int32.ofNat (q + i)), .ref d])) := c5.trans (by
        refine XS.iload Xl.here hexec rfl (hb hbytes d15) rfl ?_
        refine sipushV Xl.here hexec rfl 255 (hb hbytes d17) (by decide) ?_
        refine XS.icmpYes Xl.here hexec rfl (pc0 := 20) rfl (hb hbytes d20) rfl (ii_le_t (hp i (by omega))) (by decide) rfl ?_
        refine XS.aloadN Xl.here hexec rfl (hb hbytes d26) rfl rfl ?_
        refine XS.iloadN Xl.here hexec rfl (hb hbytes d27) rfl ?_
        refine XS.iload Xl.here hexec rfl (hb hbytes d28) rfl ?_
        refine i2b Xl.here hexec rfl (hb hbytes d30) rfl ?_
        exact Steps.refl _)
      obtain ⟨T7, X7, p7, st7⟩ := Xl.aput hexec hBk rfl hlt rfl (fits_lo8 (cv A (o + i))) (g := (mkF m 31 #[.val (.ref b), .val (.int (Int32.ofNat (o + i))), .val (.ref d), .val (.int (Int32.ofNat (q + i))), .val (.int (Int32.ofNat len)), .val (.int (Int32.ofNat i)), .val (.int (cv A (o + i)))] [.int (lo8 (cv A (o + i))), .int (Int32.ofNat (q + i)), .ref d])) rfl (rest := []) rfl (hb hbytes d31)
      have c8 : Steps p.tables e below (s₁.setTop (entryFrame m #[.ref b, .int (Int32.ofNat o), .ref d, .int (Int32.ofNat q), .int (Int32.ofNat len)] 7)) (T7.setTop (mkF m 32 #[.val (.ref b), .val (.int (Int32.ofNat (o + i))), .val (.ref d), .val (.int (Int32.ofNat (q + i))), .val (.int (Int32.ofNat len)), .val (.int (Int32.ofNat i)), .val (.int (cv A (o + i)))] [])) := c6.trans (st7 _ (Steps.refl _))
      have c9 : Steps p.tables e below (s₁.setTop (entryFrame m #[.ref b, .int (Int32.ofNat o), .ref d, .int (Int32.ofNat q), .int (Int32.ofNat len)] 7)) (T7.setTop (mkF m 3 #[.val (.ref b), .val (.int (Int32.ofNat (o + i) + 1)), .val (.ref d), .val (.int (Int32.ofNat (q + i) + 1)), .val (.int (Int32.ofNat len)), .val (.int (Int32.ofNat i + 1)), .val (.int (cv A (o + i)))] [])) := c8.trans (by
        refine iincV X7.here hexec rfl 1 (hb hbytes d32) (by decide) rfl rfl ?_
        refine iincV X7.here hexec rfl 1 (hb hbytes d35) (by decide) rfl rfl ?_
        refine iincV X7.here hexec rfl 1 (hb hbytes d38) (by decide) rfl rfl ?_
        refine XS.goto X7.here hexec rfl (pc0 := 41) rfl (hb hbytes d41) (by decide) rfl ?_
        exact Steps.refl _)
      have c10 : Steps p.tables e below (s₁.setTop (entryFrame m #[.ref b, .int (Int32.ofNat o), .ref d, .int (Int32.ofNat q), .int (Int32.ofNat len)] 7)) (T7.setTop (mkF m 3 #[.val (.ref b), .val (.int (Int32.ofNat (o + (i + 1)))), .val (.ref d), .val (.int (Int32.ofNat (q + (i + 1)))), .val (.int (Int32.ofNat len)), .val (.int (Int32.ofNat (i + 1))), .val (.int (cv A (o + i)))] [])) := by
        have := c9
        rw [succ32, succ32, succ32] at this
        exact this
      exact ih (i + 1) (by omega) _ (Or.inr ⟨_, rfl, rfl⟩) T7 _ (by rw [copyLocs_step, ← List.append_assoc]; exact X7) (pl.trans p7) (fl.step (by omega) hlt (by simp)) c10
  obtain ⟨T9, B9, z9, X9, p9, f9, g9⟩ := loop len 0 (by omega) .unset (Or.inl rfl) s₁ B (by simpa [copyLocs] using X0) ⟨hB0.1, fun _ _ => rfl, rfl⟩ (Laid.zero _ _ _) c2
  have c11 : Steps p.tables e below (s₁.setTop (entryFrame m #[.ref b, .int (Int32.ofNat o), .ref d, .int (Int32.ofNat q), .int (Int32.ofNat len)] 7)) (T9.setTop (mkF m 46 #[.val (.ref b), .val (.int (Int32.ofNat (o + len))), .val (.ref d), .val (.int (Int32.ofNat (q + len))), .val (.int (Int32.ofNat len)), .val (.int (Int32.ofNat len)), z9] [.int (Int32.ofNat len)])) := g9.trans (by
    refine XS.iload X9.here hexec rfl (hb hbytes d3) rfl ?_
    refine XS.iload X9.here hexec rfl (hb hbytes d5) rfl ?_
    refine XS.icmpYes X9.here hexec rfl (pc0 := 7) rfl (hb hbytes d7) rfl (ii_ge_t (nlt32 (by omega) (Nat.le_refl _))) (by decide) rfl ?_
    refine XS.iload X9.here hexec rfl (hb hbytes d44) rfl ?_
    exact Steps.refl _)
  exact ⟨T9, some (.int (Int32.ofNat len)), _, _, _, X9, by simp, rfl, rfl, (fun h => by cases h), ⟨rfl, B9, p9.from hh0, f9⟩, fun fs hl => c11.trans (X9.ireturnOut hexec hret rfl (Or.inl rfl) (hb hbytes d46) hl)⟩
end Cmp5
namespace Cmp3
def yN : MethodName := ⟨"java/lang/StringUTF16", "compress", "([CII)[B"⟩
abbrev yB : ByteArray := jdk_52_method_16_code
theorem d0 : decode yB 0 = .ok (.iload_n 2, 1) := by decide +kernel
theorem d1 : decode yB 1 = .ok (.newarray .byte, 2) := by decide +kernel
theorem d3 : decode yB 3 = .ok (.astore_n 3, 1) := by decide +kernel
theorem d4 : decode yB 4 = .ok (.aload_n 0, 1) := by decide +kernel
theorem d5 : decode yB 5 = .ok (.iload_n 1, 1) := by decide +kernel
theorem d6 : decode yB 6 = .ok (.aload_n 3, 1) := by decide +kernel
theorem d7 : decode yB 7 = .ok (.iconst 0, 1) := by decide +kernel
theorem d8 : decode yB 8 = .ok (.iload_n 2, 1) := by decide +kernel
theorem d9 : decode yB 9 = .ok (.invokestatic 115, 3) := by decide +kernel
theorem d12 : decode yB 12 = .ok (.istore 4, 2) := by decide +kernel
theorem d14 : decode yB 14 = .ok (.iload 4, 2) := by decide +kernel
theorem d16 : decode yB 16 = .ok (.iload_n 2, 1) := by decide +kernel
theorem d17 : decode yB 17 = .ok (.if_icmp (.eq) 40, 3) := by decide +kernel
theorem d57 : decode yB 57 = .ok (.aload_n 3, 1) := by decide +kernel
theorem d58 : decode yB 58 = .ok (.areturn, 1) := by decide +kernel
def site : List Cond := [.arrayClass .byte, Cmp5.tab] ++ staticW U16 115 Cmp5.yN
def tab : Cond := tabOf yN yB 6 (some (.array .byte)) site
def P (b : Addr) (A : Cell) (o len : Nat) (args : Array Value) (s : State) : Prop := args = #[.ref b, .int (Int32.ofNat o), .int (Int32.ofNat len)] ∧ Ch b A s ∧ o + len ≤ A.slots.size ∧ len ≤ 536870912 ∧ ∀ i, i < len → ¬ 255 < cv A (o + i)
def E (b : Addr) (A : Cell) (o len : Nat) (r : Option Value) (s u : State) : Prop := NewArr .byte "[B" len (fun j => .int (lo8 (cv A (o + j)))) r s u ∧ u.heap.size = s.heap.size + 1
/-- no char of the range above 255: a new byte[] of their low bytes -/
theorem law (l : Launch) (b : Addr) (A : Cell) (o len : Nat) : Law l yN 3 3 1 18 yB 6 (some (.array .byte)) site (P b A o len) (E b A o len) [] 1 len := by
  refine Law.of_walk (plainFor_of_name (by decide +kernel)) (by decide +kernel) (by decide +kernel) (by decide) (fun _ _ h => by rw [h.1]; rfl) (fun _ U U' hal hh h => ⟨h.1, h.2.1.mv hal hh, h.2.2⟩) (fun r U U' V V' h1 hal h2 h => ⟨NewArr.mv r U U' V V' h1 hal h2 h.1, by rw [h1, h2]; exact h.2⟩) ?_
  intro p e s m args below meth c s₁ X0 hexec hbytes hml hret hlk hnm hown hh0 W hP
  obtain ⟨rfl, hA, l1, l2, hp⟩ := hP
  have a31 := hA.1.2.2.2
  have c1 : Steps p.tables e below (s₁.setTop (entryFrame m #[.ref b, .int (Int32.ofNat o), .int (Int32.ofNat len)] 6)) (s₁.setTop (mkF m 0 #[.val (.ref b), .val (.int (Int32.ofNat o)), .val (.int (Int32.ofNat len)), .unset, .unset, .unset] [])) := entry rfl
  have c2 : Steps p.tables e below (s₁.setTop (entryFrame m #[.ref b, .int (Int32.ofNat o), .int (Int32.ofNat len)] 6)) (s₁.setTop (mkF m 1 #[.val (.ref b), .val (.int (Int32.ofNat o)), .val (.int (Int32.ofNat len)), .unset, .unset, .unset] [.int (Int32.ofNat len)])) := c1.trans (by
    refine XS.iloadN X0.here hexec rfl (hb hbytes d0) rfl ?_
    exact Steps.refl _)
  obtain ⟨T3, B3, X3, ba3, bs3, bv3, bh3, bf3, st3⟩ := X0.anew hexec (atype := .byte) (wk W (.arrayClass .byte)) rfl (by show len * 1 ≤ _; omega) (by omega) (g := (mkF m 1 #[.val (.ref b), .val (.int (Int32.ofNat o)), .val (.int (Int32.ofNat len)), .unset, .unset, .unset] [.int (Int32.ofNat len)])) rfl (hb hbytes d1) (rest := []) rfl (Nat.le_refl _) (by show 0 + len ≤ len; omega)
  rw [hh0] at ba3 st3
  have kp3 : XT.Kept s T3 := (XT.Kept.of_eq hh0).push bh3
  have hA3 := hA.keep X3.warmed.alike (kp3 _ _ hA.1.1)
  have hne : b ≠ s.heap.size := hA.1.ne
  have c4 : Steps p.tables e below (s₁.setTop (entryFrame m #[.ref b, .int (Int32.ofNat o), .int (Int32.ofNat len)] 6)) (T3.setTop (mkF m 3 #[.val (.ref b), .val (.int (Int32.ofNat o)), .val (.int (Int32.ofNat len)), .unset, .unset, .unset] [.ref s.heap.size])) := c2.trans (st3 _ (Steps.refl _))
  have c5 : Steps p.tables e below (s₁.setTop (entryFrame m #[.ref b, .int (Int32.ofNat o), .int (Int32.ofNat len)] 6)) (T3.setTop (mkF m 9 #[.val (.ref b), .val (.int (Int32.ofNat o)), .val (.int (Int32.ofNat len)), .val (.ref s.heap.size), .unset, .unset] [.int (Int32.ofNat len), .int 0, .ref s.heap.size, .int (Int32.ofNat o), .ref b])) := c4.trans (by
    refine XS.astoreN X3.here hexec rfl (hb hbytes d3) rfl rfl rfl ?_
    refine XS.aloadN X3.here hexec rfl (hb hbytes d4) rfl rfl ?_
    refine XS.iloadN X3.here hexec rfl (hb hbytes d5) rfl ?_
    refine XS.aloadN X3.here hexec rfl (hb hbytes d6) rfl rfl ?_
    refine iconstV X3.here hexec rfl 0 (hb hbytes d7) (by decide) ?_
    refine XS.iloadN X3.here hexec rfl (hb hbytes d8) rfl ?_
    exact Steps.refl _)
  obtain ⟨v6, T6, X6, E6, g6⟩ := X3.callS hexec (Cmp5.law l b A s.heap.size B3 o 0 len) hown (wks W (staticW U16 115 Cmp5.yN)) (wk W Cmp5.tab) (W := 0) (Nat.le_of_ble_eq_true rfl) (Nat.le_of_ble_eq_true rfl) (Nat.le_refl _) (by show 0 + len + 0 ≤ len; omega) (g := (mkF m 9 #[.val (.ref b), .val (.int (Int32.ofNat o)), .val (.int (Int32.ofNat len)), .val (.ref s.heap.size), .unset, .unset] [.int (Int32.ofNat len), .int (Int32.ofNat 0), .ref s.heap.size, .int (Int32.ofNat o), .ref b])) rfl (by rw [hml]; rfl) c5 (argsL := [.ref b, .int (Int32.ofNat o), .ref s.heap.size, .int (Int32.ofNat 0), .int (Int32.ofNat len)]) (rest := []) rfl rfl (by show 2 * 0 + 0 ≤ _; decide) (hb hbytes d9) (⟨rfl, hA3, ba3, hne, l1, by rw [bs3]; simp, hp⟩)
  obtain ⟨rfl, B6, p6, f6⟩ := E6
  have c7 : Steps p.tables e below (s₁.setTop (entryFrame m #[.ref b, .int (Int32.ofNat o), .int (Int32.ofNat len)] 6)) (T6.setTop (mkF m 12 #[.val (.ref b), .val (.int (Int32.ofNat o)), .val (.int (Int32.ofNat len)), .val (.ref s.heap.size), .unset, .unset] [.int (Int32.ofNat len)])) := g6
  have c8 : Steps p.tables e below (s₁.setTop (entryFrame m #[.ref b, .int (Int32.ofNat o), .int (Int32.ofNat len)] 6)) (T6.setTop (mkF m 58 #[.val (.ref b), .val (.int (Int32.ofNat o)), .val (.int (Int32.ofNat len)), .val (.ref s.heap.size), .val (.int (Int32.ofNat len)), .unset] [.ref s.heap.size])) := c7.trans (by
    refine XS.istore X6.here hexec rfl (hb hbytes d12) rfl rfl ?_
    refine XS.iload X6.here hexec rfl (hb hbytes d14) rfl ?_
    refine XS.iloadN X6.here hexec rfl (hb hbytes d16) rfl ?_
    refine XS.icmpYes X6.here hexec rfl (pc0 := 17) rfl (hb hbytes d17) rfl (ii_eq_t rfl) (by decide) rfl ?_
    refine XS.aloadN X6.here hexec rfl (hb hbytes d57) rfl rfl ?_
    exact Steps.refl _)
  have X8 := X6.wide (L' := []) (cells' := 1) (slots' := len) (fun x hx hlt => by
    simp only [List.nil_append, copyLocs, List.mem_map, List.mem_range] at hx
    obtain ⟨i, -, rfl⟩ := hx
    exact absurd hlt (Nat.lt_irrefl _)) (Nat.le_refl _) (by omega)
  exact ⟨T6, some (.ref s.heap.size), _, _, _, X8, rfl, rfl, rfl, (fun h => by cases h), ⟨⟨rfl, B6, ba3.like (X3.warmed.alike.symm.trans X6.warmed.alike) p6.1 f6.1 f6.2.1 f6.2.2.1, f6.2.1.trans bv3, by rw [X6.warmed.alike.findClass, f6.1]; exact bf3, by rw [f6.2.2.1, bs3]; simp, fun j hj => by rw [f6.2.2.2 j, if_pos (by omega)]; rfl, kp3.put p6 (Nat.le_refl _)⟩, by rw [p6.2.2, bh3, hh0]; simp⟩, fun fs hl => c8.trans (X8.areturnOut hexec rfl hret rfl (hb hbytes d58) hl)⟩
end Cmp3
namespace CodL
def yN : MethodName := ⟨"java/lang/StringUTF16", "coderFromArrayLen", "([BI)B"⟩
abbrev yB : ByteArray := jdk_52_method_15_code
theorem d0 : decode yB 0 = .ok (.iload_n 1, 1) := by decide +kernel
theorem d1 : decode yB 1 = .ok (.aload_n 0, 1) := by decide +kernel
theorem d2 : decode yB 2 = .ok (.arraylength, 1) := by decide +kernel
theorem d3 : decode yB 3 = .ok (.isub, 1) := by decide +kernel
theorem d4 : decode yB 4 = .ok (.bipush 31, 2) := by decide +kernel
theorem d6 : decode yB 6 = .ok (.iushr, 1) := by decide +kernel
theorem d7 : decode yB 7 = .ok (.i2b, 1) := by decide +kernel
theorem d8 : decode yB 8 = .ok (.ireturn, 1) := by decide +kernel
def site : List Cond := []
def tab : Cond := tabOf yN yB 2 (some .byte) site
def P (d : Addr) (B : Cell) (args : Array Value) (s : State) : Prop := args = #[.ref d, .int (Int32.ofNat B.slots.size)] ∧ Arr .byte d B s
def E (r : Option Value) (s u : State) : Prop := XT.PureE (some (.int 0)) r s u
/-- an array as long as the number of chars: LATIN1 -/
theorem law (l : Launch) (d : Addr) (B : Cell) : Law l yN 2 2 0 0 yB 2 (some .byte) site (P d B) E [] 0 0 := by
  refine Law.of_walk (plainFor_of_name (by decide +kernel)) (by decide +kernel) (by decide +kernel) (by decide) (fun _ _ h => by rw [h.1]; rfl) (fun _ U U' hal hh h => ⟨h.1, h.2.mv hal hh⟩) (fun r U U' V V' h1 hal h2 h => XT.PureE.mv r U U' V V' h1 hal h2 h) ?_
  intro p e s m args below meth c s₁ X0 hexec hbytes hml hret hlk hnm hown hh0 W hP
  obtain ⟨rfl, hB⟩ := hP
  have hB0 := hB.mv X0.warmed.alike hh0
  have c1 : Steps p.tables e below (s₁.setTop (entryFrame m #[.ref d, .int (Int32.ofNat B.slots.size)] 2)) (s₁.setTop (mkF m 0 #[.val (.ref d), .val (.int (Int32.ofNat B.slots.size))] [])) := entry rfl
  have c2 : Steps p.tables e below (s₁.setTop (entryFrame m #[.ref d, .int (Int32.ofNat B.slots.size)] 2)) (s₁.setTop (mkF m 2 #[.val (.ref d), .val (.int (Int32.ofNat B.slots.size))] [.ref d, .int (Int32.ofNat B.slots.size)])) := c1.trans (by
    refine XS.iloadN X0.here hexec rfl (hb hbytes d0) rfl ?_
    refine XS.aloadN X0.here hexec rfl (hb hbytes d1) rfl rfl ?_
    exact Steps.refl _)
  have c3 : Steps p.tables e below (s₁.setTop (entryFrame m #[.ref d, .int (Int32.ofNat B.slots.size)] 2)) (s₁.setTop (mkF m 8 #[.val (.ref d), .val (.int (Int32.ofNat B.slots.size))] [.int (lo8 (ushr (Int32.ofNat B.slots.size - Int32.ofNat B.slots.size) 31))])) := c2.trans (by
    refine X0.alen hexec hB0 rfl rfl (hb hbytes d2) ?_
    refine XS.isub X0.here hexec rfl (hb hbytes d3) rfl ?_
    refine bipushV X0.here hexec rfl 31 (hb hbytes d4) (by decide) ?_
    refine iushr X0.here hexec rfl (hb hbytes d6) rfl ?_
    refine i2b X0.here hexec rfl (hb hbytes d7) rfl ?_
    exact Steps.refl _)
  have e0 : lo8 (ushr (Int32.ofNat B.slots.size - Int32.ofNat B.slots.size) 31) = 0 := by rw [Int32.sub_self]; decide
  rw [e0] at c3
  exact ⟨s₁, some (.int 0), _, _, _, X0, rfl, rfl, rfl, (fun h => by cases h), ⟨rfl, hh0⟩, fun fs hl => c3.trans (X0.ireturnOut hexec hret rfl (Or.inr (Or.inr (Or.inl rfl))) (hb hbytes d8) hl)⟩
end CodL
/-- the String at a is Latin-1 over a new byte[] (the heap's one new cell): the low bytes of the len chars of A from o on; every cell but a is kept -/
def Got (a : Addr) (D : Cell) (fV fC : Field) (A : Cell) (o len : Nat) (r : Option Value) (s u : State) : Prop := r = none ∧ ∃ D' V : Cell, Blank "java/lang/String" a D' u ∧ Same D D' [fV.slot, fC.slot] ∧ D'.slots[fV.slot]? = some (.ref s.heap.size) ∧ D'.slots[fC.slot]? = some (.int 0) ∧ Arr .byte s.heap.size V u ∧ V.vm = .none ∧ u.vm.findClass "[B" = some V.cls ∧ V.slots.size = len ∧ (∀ j, j < len → V.slots[j]? = some (.int (lo8 (cv A (o + j))))) ∧ (∀ (y : Addr) (c : Cell), y ≠ a → s.heap[y]? = some c → u.heap[y]? = some c) ∧ u.heap.size = s.heap.size + 1
theorem Got.mv {a : Addr} {D A : Cell} {fV fC : Field} {o len : Nat} : ∀ r (U U' V V' : State), U'.heap = U.heap → V.vm.Alike V'.vm → V'.heap = V.heap → Got a D fV fC A o len r U V → Got a D fV fC A o len r U' V' :=
  fun r U U' V V' h1 hal h2 ⟨e0, D', X, a1, a2, a3, a4, a5, a6, a7, a8, a9, a10, a11⟩ => ⟨e0, D', X, a1.mv hal h2, a2, by rw [h1]; exact a3, a4, by rw [h1]; exact a5.mv hal h2, a6, by rw [hal.findClass]; exact a7, a8, a9, by rw [h1, h2]; exact a10, by rw [h1, h2]; exact a11⟩
namespace New4
def yN : MethodName := ⟨"java/lang/String", "<init>", "([CIILjava/lang/Void;)V"⟩
abbrev yB : ByteArray := jdk_42_method_149_code
theorem d0 : decode yB 0 = .ok (.aload_n 0, 1) := by decide +kernel
theorem d1 : decode yB 1 = .ok (.invokespecial 1, 3) := by decide +kernel
theorem d4 : decode yB 4 = .ok (.iload_n 3, 1) := by decide +kernel
theorem d5 : decode yB 5 = .ok (.ifCond (.ne) 22, 3) := by decide +kernel
theorem d27 : decode yB 27 = .ok (.getstatic 38, 3) := by decide +kernel
theorem d30 : decode yB 30 = .ok (.ifCond (.eq) 28, 3) := by decide +kernel
theorem d33 : decode yB 33 = .ok (.aload_n 1, 1) := by decide +kernel
theorem d34 : decode yB 34 = .ok (.iload_n 2, 1) := by decide +kernel
theorem d35 : decode yB 35 = .ok (.iload_n 3, 1) := by decide +kernel
theorem d36 : decode yB 36 = .ok (.invokestatic 177, 3) := by decide +kernel
theorem d39 : decode yB 39 = .ok (.astore 5, 2) := by decide +kernel
theorem d41 : decode yB 41 = .ok (.aload_n 0, 1) := by decide +kernel
theorem d42 : decode yB 42 = .ok (.aload 5, 2) := by decide +kernel
theorem d44 : decode yB 44 = .ok (.iload_n 3, 1) := by decide +kernel
theorem d45 : decode yB 45 = .ok (.invokestatic 47, 3) := by decide +kernel
theorem d48 : decode yB 48 = .ok (.putfield 15, 3) := by decide +kernel
theorem d51 : decode yB 51 = .ok (.aload_n 0, 1) := by decide +kernel
theorem d52 : decode yB 52 = .ok (.aload 5, 2) := by decide +kernel
theorem d54 : decode yB 54 = .ok (.putfield 9, 3) := by decide +kernel
theorem d57 : decode yB 57 = .ok (.return_, 1) := by decide +kernel
def site : List Cond := [.fieldLink "java/lang/String" 38 "java/lang/String" "COMPACT_STRINGS" "Z", Cmp3.tab, CodL.tab, .laysFinal "java/lang/String" "java/lang/String" "value" "[B", .fieldLink "java/lang/String" 9 "java/lang/String" "value" "[B", .laysFinal "java/lang/String" "java/lang/String" "coder" "B", .fieldLink "java/lang/String" 15 "java/lang/String" "coder" "B"] ++ objW "java/lang/String" 1 ++ staticW "java/lang/String" 177 Cmp3.yN ++ staticW "java/lang/String" 47 CodL.yN
def tab : Cond := tabOf yN yB 6 none site
def P (a : Addr) (D : Cell) (fV fC : Field) (b : Addr) (A : Cell) (z : Int32) (o len : Nat) (args : Array Value) (s : State) : Prop := args = #[.ref a, .ref b, .int (Int32.ofNat o), .int (Int32.ofNat len), .null] ∧ Blank "java/lang/String" a D s ∧ Found "java/lang/String" "value" "[B" fV s ∧ Found "java/lang/String" "coder" "B" fC s ∧ Ch b A s ∧ StaticIs s "java/lang/String" "COMPACT_STRINGS" "Z" (.int z) ∧ ¬ z = 0 ∧ 0 < len ∧ o + len ≤ A.slots.size ∧ len ≤ 536870912 ∧ ∀ i, i < len → ¬ 255 < cv A (o + i)
def E (a : Addr) (D : Cell) (fV fC : Field) (A : Cell) (o len : Nat) (r : Option Value) (s u : State) : Prop := Got a D fV fC A o len r s u
/-- len > 0, no char of the range above 255: a Latin-1 String of their low bytes -/
theorem law (l : Launch) (a : Addr) (D : Cell) (fV fC : Field) (b : Addr) (A : Cell) (z : Int32) (o len : Nat) : Law l yN 5 4 2 35 yB 6 none site (P a D fV fC b A z o len) (E a D fV fC A o len) [⟨a, fC.slot⟩, ⟨a, fV.slot⟩] 1 len := by
  refine Law.of_walk (plainFor_of_name (by decide +kernel)) (by decide +kernel) (by decide +kernel) (by decide) (fun _ _ h => by rw [h.1]; rfl) (fun _ U U' hal hh h => ⟨h.1, h.2.1.mv hal hh, h.2.2.1.al hal, h.2.2.2.1.al hal, h.2.2.2.2.1.mv hal hh, h.2.2.2.2.2.1.there hal hh, h.2.2.2.2.2.2⟩) (fun r U U' V V' h1 hal h2 h => Got.mv r U U' V V' h1 hal h2 h) ?_
  intro p e s m args below meth c s₁ X0 hexec hbytes hml hret hlk hnm hown hh0 W hP
  obtain ⟨rfl, hB, f1, f2, hA, s1, hz, l0, l1, l2, hp⟩ := hP
  have a31 := hA.1.2.2.2
  have c1 : Steps p.tables e below (s₁.setTop (entryFrame m #[.ref a, .ref b, .int (Int32.ofNat o), .int (Int32.ofNat len), .null] 6)) (s₁.setTop (mkF m 0 #[.val (.ref a), .val (.ref b), .val (.int (Int32.ofNat o)), .val (.int (Int32.ofNat len)), .val .null, .unset] [])) := entry rfl
  have c2 : Steps p.tables e below (s₁.setTop (entryFrame m #[.ref a, .ref b, .int (Int32.ofNat o), .int (Int32.ofNat len), .null] 6)) (s₁.setTop (mkF m 1 #[.val (.ref a), .val (.ref b), .val (.int (Int32.ofNat o)), .val (.int (Int32.ofNat len)), .val .null, .unset] [.ref a])) := c1.trans (by
    refine XS.aloadN X0.here hexec rfl (hb hbytes d0) rfl rfl ?_
    exact Steps.refl _)
  obtain ⟨T3, X3, q3, st3⟩ := X0.oinit hexec hown (wks W (objW "java/lang/String" 1)) (g := (mkF m 1 #[.val (.ref a), .val (.ref b), .val (.int (Int32.ofNat o)), .val (.int (Int32.ofNat len)), .val .null, .unset] [.ref a])) rfl (by rw [hml]; rfl) (rest := []) rfl (hb hbytes d1) (W := 0) (by show 2 * 0 + 0 ≤ _; decide) (Nat.le_of_ble_eq_true rfl) (Nat.le_of_ble_eq_true rfl)
  have hh3 := q3.trans hh0
  have c4 : Steps p.tables e below (s₁.setTop (entryFrame m #[.ref a, .ref b, .int (Int32.ofNat o), .int (Int32.ofNat len), .null] 6)) (T3.setTop (mkF m 27 #[.val (.ref a), .val (.ref b), .val (.int (Int32.ofNat o)), .val (.int (Int32.ofNat len)), .val .null, .unset] [])) := (c2.trans (st3 _ (Steps.refl _))).trans (by
    refine XS.iloadN X3.here hexec rfl (hb hbytes d4) rfl ?_
    refine XS.ifYes X3.here hexec rfl (pc0 := 5) rfl (hb hbytes d5) rfl (i0_ne_t (nz32 (by omega) l0)) (by decide) rfl ?_
    exact Steps.refl _)
  obtain ⟨T5, X5, q5, st5⟩ := X3.sget hexec hown (wk W (.fieldLink "java/lang/String" 38 "java/lang/String" "COMPACT_STRINGS" "Z")) s1 (fun _ _ h => by rw [hh3]; exact h) (g := (mkF m 27 #[.val (.ref a), .val (.ref b), .val (.int (Int32.ofNat o)), .val (.int (Int32.ofNat len)), .val .null, .unset] [])) rfl (hb hbytes d27)
  have hh5 := q5.trans hh3
  have c6 : Steps p.tables e below (s₁.setTop (entryFrame m #[.ref a, .ref b, .int (Int32.ofNat o), .int (Int32.ofNat len), .null] 6)) (T5.setTop (mkF m 30 #[.val (.ref a), .val (.ref b), .val (.int (Int32.ofNat o)), .val (.int (Int32.ofNat len)), .val .null, .unset] [.int z])) := c4.trans (st5 _ (Steps.refl _))
  have c7 : Steps p.tables e below (s₁.setTop (entryFrame m #[.ref a, .ref b, .int (Int32.ofNat o), .int (Int32.ofNat len), .null] 6)) (T5.setTop (mkF m 36 #[.val (.ref a), .val (.ref b), .val (.int (Int32.ofNat o)), .val (.int (Int32.ofNat len)), .val .null, .unset] [.int (Int32.ofNat len), .int (Int32.ofNat o), .ref b])) := c6.trans (by
    refine XS.ifNo X5.here hexec rfl (hb hbytes d30) rfl (i0_eq_f hz) ?_
    refine XS.aloadN X5.here hexec rfl (hb hbytes d33) rfl rfl ?_
    refine XS.iloadN X5.here hexec rfl (hb hbytes d34) rfl ?_
    refine XS.iloadN X5.here hexec rfl (hb hbytes d35) rfl ?_
    exact Steps.refl _)
  obtain ⟨v8, T8, X8, E8, g8⟩ := X5.callS hexec (Cmp3.law l b A o len) hown (wks W (staticW "java/lang/String" 177 Cmp3.yN)) (wk W Cmp3.tab) (W := 0) (Nat.le_of_ble_eq_true rfl) (Nat.le_of_ble_eq_true rfl) (Nat.le_refl _) (by show 0 + len ≤ len; omega) (g := (mkF m 36 #[.val (.ref a), .val (.ref b), .val (.int (Int32.ofNat o)), .val (.int (Int32.ofNat len)), .val .null, .unset] [.int (Int32.ofNat len), .int (Int32.ofNat o), .ref b])) rfl (by rw [hml]; rfl) c7 (argsL := [.ref b, .int (Int32.ofNat o), .int (Int32.ofNat len)]) (rest := []) rfl rfl (by show 2 * 0 + 0 ≤ _; decide) (hb hbytes d36) (⟨rfl, hA.mv X5.warmed.alike hh5, l1, l2, hp⟩)
  obtain ⟨e8, z8⟩ := E8
  obtain ⟨rfl, N, n1, n2, n3, n4, n5, n6⟩ := NewArr.mv _ T5 s _ _ hh5.symm (Vm.Alike.refl _) rfl e8
  rw [hh5] at z8
  have hB1 := hB.keep X8.warmed.alike (n6 _ _ hB.1)
  have hne : s.heap.size ≠ a := (Nat.ne_of_lt (Array.getElem?_eq_some_iff.mp hB.1).1).symm
  have c9 : Steps p.tables e below (s₁.setTop (entryFrame m #[.ref a, .ref b, .int (Int32.ofNat o), .int (Int32.ofNat len), .null] 6)) (T8.setTop (mkF m 39 #[.val (.ref a), .val (.ref b), .val (.int (Int32.ofNat o)), .val (.int (Int32.ofNat len)), .val .null, .unset] [.ref s.heap.size])) := g8
  have c10 : Steps p.tables e below (s₁.setTop (entryFrame m #[.ref a, .ref b, .int (Int32.ofNat o), .int (Int32.ofNat len), .null] 6)) (T8.setTop (mkF m 45 #[.val (.ref a), .val (.ref b), .val (.int (Int32.ofNat o)), .val (.int (Int32.ofNat len)), .val .null, .val (.ref s.heap.size)] [.int (Int32.ofNat N.slots.size), .ref s.heap.size, .ref a])) := by
    have hc : Steps p.tables e below (s₁.setTop (entryFrame m #[.ref a, .ref b, .int (Int32.ofNat o), .int (Int32.ofNat len), .null] 6)) (T8.setTop (mkF m 45 #[.val (.ref a), .val (.ref b), .val (.int (Int32.ofNat o)), .val (.int (Int32.ofNat len)), .val .null, .val (.ref s.heap.size)] [.int (Int32.ofNat len), .ref s.heap.size, .ref a])) := c9.trans (by
      refine XS.astore X8.here hexec rfl (hb hbytes d39) rfl rfl rfl ?_
      refine XS.aloadN X8.here hexec rfl (hb hbytes d41) rfl rfl ?_
      refine XS.aload X8.here hexec rfl (hb hbytes d42) rfl rfl ?_
      refine XS.iloadN X8.here hexec rfl (hb hbytes d44) rfl ?_
      exact Steps.refl _)
    rw [n4]; exact hc
  obtain ⟨v11, T11, X11, E11, g11⟩ := X8.callS hexec (CodL.law l s.heap.size N) hown (wks W (staticW "java/lang/String" 47 CodL.yN)) (wk W CodL.tab) (W := 1) (Nat.le_of_ble_eq_true rfl) (Nat.le_of_ble_eq_true rfl) (Nat.le_refl _) (by show 0 + len + 0 ≤ len; omega) (g := (mkF m 45 #[.val (.ref a), .val (.ref b), .val (.int (Int32.ofNat o)), .val (.int (Int32.ofNat len)), .val .null, .val (.ref s.heap.size)] [.int (Int32.ofNat N.slots.size), .ref s.heap.size, .ref a])) rfl (by rw [hml]; rfl) c10 (argsL := [.ref s.heap.size, .int (Int32.ofNat N.slots.size)]) (rest := [.ref a]) rfl rfl (by show 2 * 0 + (1 + 0) ≤ _; decide) (hb hbytes d45) (⟨rfl, n1⟩)
  obtain ⟨rfl, q11⟩ := E11
  have hB11 := hB1.mv (X8.warmed.alike.symm.trans X11.warmed.alike) q11
  have c12 : Steps p.tables e below (s₁.setTop (entryFrame m #[.ref a, .ref b, .int (Int32.ofNat o), .int (Int32.ofNat len), .null] 6)) (T11.setTop (mkF m 48 #[.val (.ref a), .val (.ref b), .val (.int (Int32.ofNat o)), .val (.int (Int32.ofNat len)), .val .null, .val (.ref s.heap.size)] [.int 0, .ref a])) := g11
  obtain ⟨T13, X13, p13, bl13, sl13, st13⟩ := X11.finit hexec hown (wk W (.fieldLink "java/lang/String" 15 "java/lang/String" "coder" "B")) (Or.inr ⟨_, (wk W (.laysFinal "java/lang/String" "java/lang/String" "coder" "B"))⟩) (Or.inl ⟨rfl, hnm⟩) f2 (Or.inl rfl) hB11 (t := .byte) (by decide +kernel) rfl (g := (mkF m 48 #[.val (.ref a), .val (.ref b), .val (.int (Int32.ofNat o)), .val (.int (Int32.ofNat len)), .val .null, .val (.ref s.heap.size)] [.int 0, .ref a])) rfl (rest := []) rfl (hb hbytes d48)
  have c14 : Steps p.tables e below (s₁.setTop (entryFrame m #[.ref a, .ref b, .int (Int32.ofNat o), .int (Int32.ofNat len), .null] 6)) (T13.setTop (mkF m 54 #[.val (.ref a), .val (.ref b), .val (.int (Int32.ofNat o)), .val (.int (Int32.ofNat len)), .val .null, .val (.ref s.heap.size)] [.ref s.heap.size, .ref a])) := (c12.trans (st13 _ (Steps.refl _))).trans (by
    refine XS.aloadN X13.here hexec rfl (hb hbytes d51) rfl rfl ?_
    refine XS.aload X13.here hexec rfl (hb hbytes d52) rfl rfl ?_
    exact Steps.refl _)
  obtain ⟨T15, X15, p15, bl15, sl15, st15⟩ := X13.finit hexec hown (wk W (.fieldLink "java/lang/String" 9 "java/lang/String" "value" "[B")) (Or.inr ⟨_, (wk W (.laysFinal "java/lang/String" "java/lang/String" "value" "[B"))⟩) (Or.inl ⟨rfl, hnm⟩) f1 (Or.inl rfl) bl13 (t := (.array .byte)) (by decide +kernel) rfl (g := (mkF m 54 #[.val (.ref a), .val (.ref b), .val (.int (Int32.ofNat o)), .val (.int (Int32.ofNat len)), .val .null, .val (.ref s.heap.size)] [.ref s.heap.size, .ref a])) rfl (rest := []) rfl (hb hbytes d54)
  have c16 : Steps p.tables e below (s₁.setTop (entryFrame m #[.ref a, .ref b, .int (Int32.ofNat o), .int (Int32.ofNat len), .null] 6)) (T15.setTop (mkF m 57 #[.val (.ref a), .val (.ref b), .val (.int (Int32.ofNat o)), .val (.int (Int32.ofNat len)), .val .null, .val (.ref s.heap.size)] [])) := c14.trans (st15 _ (Steps.refl _))
  have ap := apart (Or.inr ⟨_, (wk W (.laysFinal "java/lang/String" "java/lang/String" "value" "[B"))⟩) (Or.inr ⟨_, (wk W (.laysFinal "java/lang/String" "java/lang/String" "coder" "B"))⟩) f1 f2 (t₁ := .array .byte) (t₂ := .byte) (by decide +kernel) (by decide +kernel) (by decide)
  have al := X8.warmed.alike.symm.trans X15.warmed.alike
  have n7 : T11.heap[s.heap.size]? = some N := by rw [q11]; exact n1.1
  exact ⟨T15, none, _, _, _, X15, by simp, rfl, by omega, (fun _ => rfl), ⟨rfl, _, N, bl15, ((Same.refl D _).set _ (by simp)).set _ (by simp), sl15, (Cell.slots_setSlot_ne _ ap).trans sl13, n1.keep al (p15.other hne (p13.other hne n7)), n2, by rw [al.findClass]; exact n3, n4, n5, fun y c h1 h2 => p15.other h1 (p13.other h1 (by rw [q11]; exact n6 y c h2)), by rw [p15.2.2, p13.2.2, q11]; exact z8⟩, fun fs hl => c16.trans (X15.returnOut hexec hret (hb hbytes d57) hl)⟩
end New4
namespace New1
def yN : MethodName := ⟨"java/lang/String", "<init>", "([C)V"⟩
abbrev yB : ByteArray := jdk_42_method_3_code
theorem d0 : decode yB 0 = .ok (.aload_n 0, 1) := by decide +kernel
theorem d1 : decode yB 1 = .ok (.aload_n 1, 1) := by decide +kernel
theorem d2 : decode yB 2 = .ok (.iconst 0, 1) := by decide +kernel
theorem d3 : decode yB 3 = .ok (.aload_n 1, 1) := by decide +kernel
theorem d4 : decode yB 4 = .ok (.arraylength, 1) := by decide +kernel
theorem d5 : decode yB 5 = .ok (.aconst_null, 1) := by decide +kernel
theorem d6 : decode yB 6 = .ok (.invokespecial 27, 3) := by decide +kernel
theorem d9 : decode yB 9 = .ok (.return_, 1) := by decide +kernel
def site : List Cond := [New4.tab] ++ initW "java/lang/String" 27 New4.yN
def tab : Cond := tabOf yN yB 2 none site
def P (a : Addr) (D : Cell) (fV fC : Field) (b : Addr) (A : Cell) (z : Int32) (args : Array Value) (s : State) : Prop := args = #[.ref a, .ref b] ∧ Blank "java/lang/String" a D s ∧ Found "java/lang/String" "value" "[B" fV s ∧ Found "java/lang/String" "coder" "B" fC s ∧ Ch b A s ∧ StaticIs s "java/lang/String" "COMPACT_STRINGS" "Z" (.int z) ∧ ¬ z = 0 ∧ 0 < A.slots.size ∧ A.slots.size ≤ 536870912 ∧ ∀ i, i < A.slots.size → ¬ 255 < cv A i
def E (a : Addr) (D : Cell) (fV fC : Field) (A : Cell) (r : Option Value) (s u : State) : Prop := Got a D fV fC A 0 A.slots.size r s u
/-- new String(chars), not empty, no char above 255: a Latin-1 String of their low bytes -/
theorem law (l : Launch) (a : Addr) (D : Cell) (fV fC : Field) (b : Addr) (A : Cell) (z : Int32) : Law l yN 2 1 3 52 yB 2 none site (P a D fV fC b A z) (E a D fV fC A) [⟨a, fC.slot⟩, ⟨a, fV.slot⟩] 1 A.slots.size := by
  refine Law.of_walk (plainFor_of_name (by decide +kernel)) (by decide +kernel) (by decide +kernel) (by decide) (fun _ _ h => by rw [h.1]; rfl) (fun _ U U' hal hh h => ⟨h.1, h.2.1.mv hal hh, h.2.2.1.al hal, h.2.2.2.1.al hal, h.2.2.2.2.1.mv hal hh, h.2.2.2.2.2.1.there hal hh, h.2.2.2.2.2.2⟩) (fun r U U' V V' h1 hal h2 h => Got.mv r U U' V V' h1 hal h2 h) ?_
  intro p e s m args below meth c s₁ X0 hexec hbytes hml hret hlk hnm hown hh0 W hP
  obtain ⟨rfl, hB, f1, f2, hA, s1, hz, l0, l2, hp⟩ := hP
  have c1 : Steps p.tables e below (s₁.setTop (entryFrame m #[.ref a, .ref b] 2)) (s₁.setTop (mkF m 0 #[.val (.ref a), .val (.ref b)] [])) := entry rfl
  have c2 : Steps p.tables e below (s₁.setTop (entryFrame m #[.ref a, .ref b] 2)) (s₁.setTop (mkF m 6 #[.val (.ref a), .val (.ref b)] [.null, .int (Int32.ofNat A.slots.size), .int 0, .ref b, .ref a])) := c1.trans (by
    refine XS.aloadN X0.here hexec rfl (hb hbytes d0) rfl rfl ?_
    refine XS.aloadN X0.here hexec rfl (hb hbytes d1) rfl rfl ?_
    refine iconstV X0.here hexec rfl 0 (hb hbytes d2) (by decide) ?_
    refine XS.aloadN X0.here hexec rfl (hb hbytes d3) rfl rfl ?_
    refine X0.alen hexec (hA.1.mv X0.warmed.alike hh0) rfl rfl (hb hbytes d4) ?_
    refine XS.aconstNull X0.here hexec rfl (hb hbytes d5) ?_
    exact Steps.refl _)
  obtain ⟨v3, T3, X3, E3, g3⟩ := X0.callN hexec (New4.law l a D fV fC b A z 0 A.slots.size) rfl hown (wks W (initW "java/lang/String" 27 New4.yN)) (W New4.tab (by simp only [site, List.mem_cons, List.mem_append, true_or, or_true])) (W := 0) (Nat.le_of_ble_eq_true rfl) (Nat.le_of_ble_eq_true rfl) (Nat.le_refl _) (by show 0 + A.slots.size ≤ A.slots.size; omega) (g := (mkF m 6 #[.val (.ref a), .val (.ref b)] [.null, .int (Int32.ofNat A.slots.size), .int (Int32.ofNat 0), .ref b, .ref a])) rfl (by rw [hml]; rfl) c2 (argsL := [.ref b, .int (Int32.ofNat 0), .int (Int32.ofNat A.slots.size), .null]) (rest := []) rfl rfl (by show 2 * 0 + 0 ≤ _; decide) (hb hbytes d6) (⟨rfl, hB.mv X0.warmed.alike hh0, f1.al X0.warmed.alike, f2.al X0.warmed.alike, hA.mv X0.warmed.alike hh0, s1.there X0.warmed.alike hh0, hz, l0, by omega, l2, fun i hi => by rw [Nat.zero_add]; exact hp i hi⟩)
  have e0 := Got.mv _ s₁ s _ _ hh0.symm (Vm.Alike.refl _) rfl E3
  obtain rfl := e0.1
  have c4 : Steps p.tables e below (s₁.setTop (entryFrame m #[.ref a, .ref b] 2)) (T3.setTop (mkF m 9 #[.val (.ref a), .val (.ref b)] [])) := g3
  exact ⟨T3, none, _, _, _, X3, by simp, rfl, by omega, (fun _ => rfl), e0, fun fs hl => c4.trans (X3.returnOut hexec hret (hb hbytes d9) hl)⟩
theorem pays {l : Launch} {R : Room} {p : Program} {e : Env} {below : List Frame} {s : State} {sargs : Array Value} {len W : Nat} (a : Addr) (D : Cell) (fV fC : Field) (b : Addr) (A : Cell) (z : Int32) (htab : tab.before sargs s = true) (hfr : 4 ≤ R.frames) (hlo : W + 65 ≤ R.locals) :
    Back l R p e below s sargs yN len W (fun A₁ a₁ => A₁.cells + 1 ≤ R.cells ∧ A₁.slots + A.slots.size ≤ R.slots ∧ P a D fV fC b A z a₁ A₁.U) (fun A₁ _ v₁ B₁ => E a D fV fC A v₁ A₁.U B₁.U ∧ B₁.locs = A₁.locs ++ [⟨a, fC.slot⟩, ⟨a, fV.slot⟩] ∧ B₁.cells = A₁.cells + 1 ∧ B₁.slots = A₁.slots + A.slots.size) :=
  (law l a D fV fC b A z).pays htab hfr (by omega)
end New1
end StrChars
namespace StrChars.Road
open Jvm Sem ClassFile Op Lib Jvm.Stand Jvm.Free Jvm.Free.XT
open Jvm.Lib.Cold (StaticIs)
abbrev ST : String := "java/lang/String"
/-- every table word that New1's law asks, flat -/
abbrev words : List Jvm.Cond := [.code New1.yN New1.yB 2 none, .initialized ST, .methodLink ST 27 New4.yN, .instanceMethod New4.yN,
  .code New4.yN New4.yB 6 none, .fieldLink ST 38 ST "COMPACT_STRINGS" "Z", .laysFinal ST ST "value" "[B", .fieldLink ST 9 ST "value" "[B", .laysFinal ST ST "coder" "B", .fieldLink ST 15 ST "coder" "B",
  .methodLink ST 1 Lib.objectInit, .instanceMethod Lib.objectInit, .code Lib.objectInit ⟨#[0xb1]⟩ 1 none, .methodLink ST 177 Cmp3.yN, .static Cmp3.yN, .methodLink ST 47 CodL.yN, .static CodL.yN,
  .code Cmp3.yN Cmp3.yB 6 (some (.array .byte)), .initialized U16, .arrayClass .byte, .methodLink U16 115 Cmp5.yN, .static Cmp5.yN, .code Cmp5.yN Cmp5.yB 7 (some .int), .code CodL.yN CodL.yB 2 (some .byte)]
theorem tab_of {a : Array Value} {s : State} (h : ∀ w ∈ words, w.before a s = true) : New1.tab.before a s = true := by
  have h5 : Cmp5.tab.before a s = true := unparts (wk h (.code Cmp5.yN Cmp5.yB 7 (some .int))) (wks h (.initialized Cmp5.yN.cls :: Cmp5.site))
  have hc : CodL.tab.before a s = true := unparts (wk h (.code CodL.yN CodL.yB 2 (some .byte))) (wks h (.initialized CodL.yN.cls :: CodL.site))
  have q5 : ∀ w ∈ Cmp5.tab :: words, w.before a s = true := fun w hw => (List.mem_cons.mp hw).elim (fun e => e ▸ h5) (h w)
  have h3 : Cmp3.tab.before a s = true := unparts (wk q5 (.code Cmp3.yN Cmp3.yB 6 (some (.array .byte)))) (wks q5 (.initialized Cmp3.yN.cls :: Cmp3.site))
  have q3 : ∀ w ∈ Cmp3.tab :: CodL.tab :: words, w.before a s = true := fun w hw => (List.mem_cons.mp hw).elim (fun e => e ▸ h3) fun hw => (List.mem_cons.mp hw).elim (fun e => e ▸ hc) (h w)
  have h4 : New4.tab.before a s = true := unparts (wk q3 (.code New4.yN New4.yB 6 none)) (wks q3 (.initialized New4.yN.cls :: New4.site))
  have q4 : ∀ w ∈ New4.tab :: words, w.before a s = true := fun w hw => (List.mem_cons.mp hw).elim (fun e => e ▸ h4) (h w)
  exact unparts (wk q4 (.code New1.yN New1.yB 2 none)) (wks q4 (.initialized New1.yN.cls :: New1.site))
/-- the words ride from the start Z to the walk's own state -/
theorem moved {Z s : State} {a0 args : Array Value} (hZ : Z.Warmed39 s.vm) (hw : ∀ d ∈ words, d.before a0 Z = true) : ∀ d ∈ words, d.before args s = true := fun d hd => by
  have q := hw d hd
  have t : ∀ d ∈ words, d = .arrayClass .byte ∨ (d.onTables && d.keepsFace) = true := by decide +kernel
  rcases t d hd with rfl | t
  · exact RoadKit.mvA hZ q
  · exact RoadKit.mv hZ q t
/-- WHAT COMES BACK, over the tables of the start Z: h the heap at the call, h' behind it -/
def Q (Z : State) (x : Addr) (A : Cell) (h : Heap) (v : Option Value) (h' : Heap) (L : List Loc) : Prop := v = none ∧ (∀ y ∈ L, y.base = x) ∧ RoadKit.Keep h h' [x] ∧ h'.size = h.size + 1 ∧ RoadKit.Exa Z h' x ST ∧ RoadKit.Fld Z h' x ST "value" "[B" (.ref h.size) ∧ RoadKit.Fld Z h' x ST "coder" "B" (.int 0) ∧
  (∃ V : Cell, RoadKit.Arr Z h' h.size V .byte ∧ V.vm = .none ∧ Z.vm.findClass "[B" = some V.cls ∧ V.slots.size = A.slots.size ∧ ∀ j, j < A.slots.size → V.slots[j]? = some (.int (lo8 (cv A j)))) ∧
  ∀ (O n d : String) (w : Value), RoadKit.Fld Z h x O n d w → RoadKit.slotOf Z O n d ≠ RoadKit.slotOf Z ST "value" "[B" → RoadKit.slotOf Z O n d ≠ RoadKit.slotOf Z ST "coder" "B" → RoadKit.Fld Z h' x O n d w
/-- **new String(chars) AT A CALL, IN THE ROAD'S FORM**: for specialBack behind newO: x the fresh String, b the char[] with the cell A -/
theorem back {p : Program} {l : Launch} {e : Env} {R : Room} {s : State} {args : Array Value} {below : List Frame} {len W : Nat} {Z : State} {a0 : Array Value} {h : Heap} (hZ : Z.Warmed39 s.vm) (hw : ∀ d ∈ words, d.before a0 Z = true) {kI : Nat} (wi : (Jvm.Cond.instantiable ST kI).before a0 Z = true)
    {x b : Addr} {A : Cell} {z : Int32} {v0 c0 : Value} (E : RoadKit.Exa Z h x ST) (V : RoadKit.Fld Z h x ST "value" "[B" v0) (C : RoadKit.Fld Z h x ST "coder" "B" c0) (K : RoadKit.Arr Z h b A .char) (hty : Typed .char A) (S : RoadKit.Sta Z h ST "COMPACT_STRINGS" "Z" (.int z)) (hz : ¬ z = 0)
    (l0 : 0 < A.slots.size) (l2 : A.slots.size ≤ 536870912) (hp : ∀ i, i < A.slots.size → ¬ 255 < cv A i) (hfr : 4 ≤ R.frames) (hlo : W + 65 ≤ R.locals) :
    Back l R p e below s args New1.yN len W (fun P a => a = #[.ref x, .ref b] ∧ P.U.heap = h ∧ P.cells + 1 ≤ R.cells ∧ P.slots + A.slots.size ≤ R.slots)
      (fun P _ v B => ∃ L, Q Z x A h v B.U.heap L ∧ B.locs = P.locs ++ L ∧ B.cells = P.cells + 1 ∧ B.slots = P.slots + A.slots.size) := by
  intro m meth c P g ig mk a X hg hsize hdg hW hn hp'
  obtain ⟨rfl, rfl, r1, r2⟩ := hp'
  have al : Z.vm.Alike P.U.vm := hZ.alike.trans X.warmed.alike
  obtain ⟨D, cfV, kV, iV, fV, hD, gV, stV, knV, obV, asV, slV⟩ := id V
  obtain ⟨D', cfC, kC, iC, fC, hD', gC, stC, -, -, asC, slC⟩ := id C
  cases hD.symm.trans hD'
  obtain ⟨D2, kD, e1, e2, e3, e4, e5⟩ := id E
  cases hD.symm.trans e1
  obtain ⟨c2, k2, i1, i2, i3, -⟩ := Cond.instantiable_spec wi
  cases e2.symm.trans i1
  cases e3.symm.trans i2
  obtain ⟨kU, u1, u2⟩ := al.2.2 _ _ e3
  have hB : Blank ST x D P.U := ⟨hD, ⟨knV, fun q hq => by rw [hq] at obV; cases obV⟩, by rw [al.findClass]; exact e2, kU, u1, by rw [u2]; exact i3, by rw [u2]; exact e5 i3⟩
  have F1 : Found ST "value" "[B" fV P.U := ⟨SBG.found_only al ⟨cfV, kV, iV, gV⟩, stV⟩
  have F2 : Found ST "coder" "B" fC P.U := ⟨SBG.found_only al ⟨cfC, kC, iC, gC⟩, stC⟩
  have hA : Ch b A P.U := ⟨⟨K.1, State.isArrayOf_alike al K.2.1, K.2.2, by omega⟩, hty⟩
  have hS : StaticIs P.U ST "COMPACT_STRINGS" "Z" (.int z) := by
    obtain ⟨cfS, iS, kS, fS, st, cS, t1, t2, t3, t4, t5, t6, t7⟩ := S
    exact StaticIs.there (s := { Z with heap := P.U.heap }) ⟨cfS, iS, kS, fS, st, cS, t1, t2, t3, t4, t5, (fun q => by rw [q] at t6; cases t6), t7⟩ al rfl
  obtain ⟨v, B, X', ⟨⟨hv, E', V', q1, q2, q3, q4, q5, q6, q7, q8, q9, q10, q11⟩, hl, hc, hs⟩, st⟩ := New1.pays x D fV fC b A z (tab_of (moved hZ hw)) hfr hlo m meth c P g ig mk _ X hg hsize hdg hW hn ⟨r1, r2, rfl, hB, F1, F2, hA, hS, hz, l0, l2, hp⟩
  have al' : Z.vm.Alike B.U.vm := hZ.alike.trans X'.warmed.alike
  have hsz : E'.slots.size = D.slots.size := by
    obtain ⟨-, -, -, kB, w1, w2, w3⟩ := q1
    obtain ⟨kB', y1, y2⟩ := al'.2.2 _ _ e3
    rw [q2.2.1] at w1
    cases w1.symm.trans y1
    rw [w3, e5 i3, y2]
  refine ⟨v, B, X', ⟨_, ⟨hv, ?_, ⟨by omega, fun y cy hy hn' => q10 y cy (by simpa using hn') hy, fun y cy hy => ?_⟩, q11, ⟨E', _, q1.1, by rw [q2.2.1]; exact e2, by rw [q2.2.1]; exact e3, by rw [q2.1]; exact obV, fun _ => by rw [hsz]; exact e5 i3⟩,
    ⟨E', cfV, kV, iV, fV, q1.1, gV, stV, by rw [q2.1]; exact knV, by rw [q2.1]; exact obV, by rw [q2.2.1]; exact asV, q3⟩, ⟨E', cfC, kC, iC, fC, q1.1, gC, stC, by rw [q2.1]; exact knV, by rw [q2.1]; exact obV, by rw [q2.2.1]; exact asC, q4⟩,
    ⟨V', ⟨q5.1, State.isArrayOf_alike al'.symm q5.2.1, q5.2.2.1⟩, q6, by rw [← al'.findClass]; exact q7, q8, fun j hj => by have := q9 j hj; rwa [Nat.zero_add] at this⟩, fun O n d w F n1 n2 => ?_⟩, hl, hc, hs⟩, st⟩
  · intro y hy
    simp only [List.mem_cons, List.not_mem_nil, or_false] at hy
    rcases hy with rfl | rfl <;> rfl
  · by_cases q : y = x
    · subst q
      cases hD.symm.trans hy
      exact ⟨E', q1.1, q2.2.1, q2.1, hsz⟩
    · exact ⟨cy, q10 y cy q hy, rfl, rfl, rfl⟩
  · obtain ⟨D3, cf, k, i, f, g1, g2, g3, g4, g5, g6, g7⟩ := F
    cases hD.symm.trans g1
    simp only [RoadKit.slotOf, g2, gV, gC, Option.map_some, Option.getD_some] at n1 n2
    exact ⟨E', cf, k, i, f, q1.1, g2, g3, by rw [q2.1]; exact g4, by rw [q2.1]; exact g5, by rw [q2.2.1]; exact g6, by rw [q2.2.2 f.slot (by simp [n1, n2])]; exact g7⟩
end StrChars.Road
namespace StrChars.Road
open Jvm Sem ClassFile Op Lib Jvm.Stand Jvm.Free Jvm.Free.XT
/-- WHAT COMES BACK, the byte[] as a list of values -/
def QA (Z : State) (x : Addr) (zn : Int32) (cs : List Int32) (h : Heap) (v : Option Value) (h' : Heap) (L : List Loc) : Prop := v = none ∧ (∀ y ∈ L, y.base = x) ∧ RoadKit.Keep h h' [x] ∧ h'.size = h.size + 1 ∧ RoadKit.Exa Z h' x ST ∧ RoadKit.Fld Z h' x ST "value" "[B" (.ref h.size) ∧ RoadKit.Fld Z h' x ST "coder" "B" (.int 0) ∧
  (∃ kb, Z.vm.findClass "[B" = some kb ∧ RoadKit.Arv Z h' h.size kb .byte zn (cs.map fun c => .int (lo8 c)) (.int 0)) ∧
  ∀ (O n d : String) (w : Value), RoadKit.Fld Z h x O n d w → RoadKit.slotOf Z O n d ≠ RoadKit.slotOf Z ST "value" "[B" → RoadKit.slotOf Z O n d ≠ RoadKit.slotOf Z ST "coder" "B" → RoadKit.Fld Z h' x O n d w
/-- **new String(chars) AT A CALL, THE ARRAYS AS LISTS**: the char[] at b holds cs, not empty, no char above 255 -/
theorem backArv {p : Program} {l : Launch} {e : Env} {R : Room} {s : State} {args : Array Value} {below : List Frame} {len W : Nat} {Z : State} {a0 : Array Value} {h : Heap} (hZ : Z.Warmed39 s.vm) (hw : ∀ d ∈ words, d.before a0 Z = true) {kI : Nat} (wi : (Jvm.Cond.instantiable ST kI).before a0 Z = true)
    {x b : Addr} {k : ClassId} {zn z : Int32} {cs : List Int32} {dv v0 c0 : Value} (E : RoadKit.Exa Z h x ST) (V : RoadKit.Fld Z h x ST "value" "[B" v0) (C : RoadKit.Fld Z h x ST "coder" "B" c0) (K : RoadKit.Arv Z h b k .char zn (cs.map Value.int) dv) (S : RoadKit.Sta Z h ST "COMPACT_STRINGS" "Z" (.int z)) (hz : ¬ z = 0)
    (hlen : zn.toNatClampNeg = cs.length) (h0 : 0 < cs.length) (hbig : cs.length ≤ 536870912) (hall : ∀ c ∈ cs, ¬ 255 < c) (hfr : 4 ≤ R.frames) (hlo : W + 65 ≤ R.locals) :
    Back l R p e below s args New1.yN len W (fun P a => a = #[.ref x, .ref b] ∧ P.U.heap = h ∧ P.cells + 1 ≤ R.cells ∧ P.slots + cs.length ≤ R.slots)
      (fun P _ v B => ∃ L, QA Z x zn cs h v B.U.heap L ∧ B.locs = P.locs ++ L ∧ B.cells = P.cells + 1 ∧ B.slots = P.slots + cs.length) := by
  obtain ⟨A, K1, K2, K3, K4, K5, K6⟩ := K
  have e : A.slots.size = cs.length := K3.trans hlen
  have hat : ∀ (i : Nat) (hi : i < cs.length), A.slots[i]? = some (.int cs[i]) := fun i hi => by rw [K5 i (by omega)]; simp [List.getD_eq_getElem?_getD, hi]
  have hcv : ∀ (i : Nat) (hi : i < cs.length), cv A i = cs[i] := fun i hi => by unfold cv; rw [hat i hi]
  have hty : Typed .char A := fun i v hv => by
    have hi : i < A.slots.size := (Array.getElem?_eq_some_iff.mp hv).1
    have q := K5 i hi
    rw [hv] at q
    rw [Option.some.inj q]
    exact K6 i hi
  refine Back.mono (back hZ hw wi E V C K1 hty S hz (by omega) (by omega) (fun i hi => by rw [hcv i (by omega)]; exact hall _ (List.getElem_mem _)) hfr hlo) (fun P a hp => ⟨hp.1, hp.2.1, hp.2.2.1, by rw [e]; exact hp.2.2.2⟩) (fun P a v B hp hq => ?_)
  obtain ⟨L, ⟨q1, q2, q3, q4, q5, q6, q7, ⟨V', v1, v2, v3, v4, v5⟩, q9⟩, hl, hc, hs⟩ := hq
  refine ⟨L, ⟨q1, q2, q3, q4, q5, q6, q7, ⟨V'.cls, v3, V', v1, rfl, by rw [v4, e, hlen], K4, fun i hi => ?_, fun i hi => ?_⟩, q9⟩, hl, hc, by rw [hs, e]⟩
  · have hi' : i < cs.length := by omega
    rw [v5 i (by omega), hcv i hi']; simp [List.getD_eq_getElem?_getD, hi']
  · have hi' : i < cs.length := by omega
    simp only [List.getD_eq_getElem?_getD, List.getElem?_map, List.getElem?_eq_getElem hi', Option.map_some, Option.getD_some]
    exact fits_lo8 _
end StrChars.Road
namespace StrChars.Road
open Jvm Sem ClassFile Op Lib Jvm.Stand Jvm.Free Jvm.Free.XT
/-- WHAT COMES BACK, in the writer's own shape -/
def QV (Z : State) (x : Addr) (N : Int32) (bs : List Int32) (h : Heap) (n0 : Nat) (v : Option Value) (h' : Heap) (L : List Loc) : Prop := v = none ∧ RoadKit.Fr n0 L ∧ RoadKit.Keep h h' [x] ∧ RoadKit.Exa Z h' x ST ∧ RoadKit.Fld Z h' x ST "coder" "B" (.int 0) ∧
  ∃ (t : Addr) (kb : ClassId), n0 ≤ t ∧ h.size ≤ t ∧ ¬ t = x ∧ RoadKit.Fld Z h' x ST "value" "[B" (.ref t) ∧ RoadKit.Arv Z h' t kb .byte N (bs.map Value.int) (.int 0)
/-- **new String(chars) AT A CALL, FOR THE WRITER**: a char[] of n known ints, each 0 to 255 -/
theorem backV {p : Program} {l : Launch} {e : Env} {R : Room} {s : State} {args : Array Value} {below : List Frame} {len W : Nat} {Z : State} {a0 : Array Value} {h : Heap} (hZ : Z.Warmed39 s.vm) (hw : ∀ d ∈ words, d.before a0 Z = true) {kI : Nat} (wi : (Jvm.Cond.instantiable ST kI).before a0 Z = true)
    {x b : Addr} {kC : ClassId} {cs bs : List Int32} {d v0 c0 : Value} {z N : Int32} {n n0 : Nat} (hx0 : n0 ≤ x) (hh0 : n0 ≤ h.size) (E : RoadKit.Exa Z h x ST) (V : RoadKit.Fld Z h x ST "value" "[B" v0) (C : RoadKit.Fld Z h x ST "coder" "B" c0) (K : RoadKit.Arv Z h b kC .char N (cs.map Value.int) d) (S : RoadKit.Sta Z h ST "COMPACT_STRINGS" "Z" (.int z)) (hz : ¬ z = 0)
    (hn : cs.length = n) (hN : N = Int32.ofNat n) (l0 : 0 < n) (l2 : n ≤ 4000) (hp : ∀ c ∈ cs, ¬ c < 0 ∧ ¬ (255 : Int32) < c) (hb : bs = cs.map (fun c => c.toInt8.toInt32)) (hfr : 4 ≤ R.frames) (hlo : W + 65 ≤ R.locals) :
    Back l R p e below s args (⟨"java/lang/String", "<init>", "([C)V"⟩ : MethodName) len W (fun P a => a = #[.ref x, .ref b] ∧ P.U.heap = h ∧ P.cells + 1 ≤ R.cells ∧ P.slots + n ≤ R.slots)
      (fun P _ v B => ∃ L, QV Z x N bs h n0 v B.U.heap L ∧ B.locs = P.locs ++ L ∧ B.cells = P.cells + 1 ∧ B.slots = P.slots + n) := by
  subst hn hN hb
  refine Back.mono (backArv hZ hw wi E V C K S hz (n32 (by omega)) l0 (by omega) (fun c hc => (hp c hc).2) hfr hlo) (fun P a hp => hp) (fun P a v B hp hq => ?_)
  obtain ⟨L, ⟨q1, q2, q3, q4, q5, q6, q7, ⟨kb, v1, v2⟩, q9⟩, hl, hc, hs⟩ := hq
  exact ⟨L, ⟨q1, fun y hy => by rw [q2 y hy]; exact hx0, q3, q5, q7, h.size, kb, hh0, Nat.le_refl _, Nat.ne_of_gt E.lt, q6, by rw [List.map_map]; exact v2⟩, hl, hc, hs⟩
end StrChars.Road
end Jvm.Pilot.@@N@@

namespace Jvm.Pilot.@@N@@
open Jvm Jvm.ClassFile Sem Op Lib Jvm.Free Jvm.Stand Jvm.LawKit Jvm.RoadKit Bundle Jvm.Pilot.@@N@@.Jvm.D
section OwnKit
variable {p : Program} {l : Launch} {e : Env} {R : Room} {s : State} {m : MethodId} {args : Array Value} {below : List Frame} {meth : Method} {c : Code} {T : State} {locs : List Loc} {cells slots kc ks : Nat} {Q : Option Value → Heap → List Loc → Prop} {P : Outcome → State → Prop} {pc q : Nat} {Ls L' : Array Slot} {st : List Value}
def own_Go (p : Program) (e : Env) (below : List Frame) (P : Outcome → State → Prop) (U : State) : Prop :=
  ∃ s₂ o, Steps p.tables e below U s₂ ∧ s₂.status = .running ∧ Ended s₂ below o ∧ P o s₂
def own_E (s : State) (kc ks : Nat) (Q : Option Value → Heap → List Loc → Prop) (o : Outcome) (t : State) : Prop := ∃ v L, o = .returned v ∧ Q v t.heap L ∧ FrameEnd s o t L kc ks
theorem own_via {U V : State} (h : ∀ t, Steps p.tables e below V t → Steps p.tables e below U t) (K : own_Go p e below P V) : own_Go p e below P U := by
  obtain ⟨a, b, h1, r⟩ := K; exact ⟨a, b, h _ h1, r⟩
theorem own_mono {P' : Outcome → State → Prop} {U : State} (h : ∀ o t, P' o t → P o t) (K : own_Go p e below P' U) : own_Go p e below P U := by
  obtain ⟨a, b, h1, h2, h3, h4⟩ := K; exact ⟨a, b, h1, h2, h3, h _ _ h4⟩
def own_P (w : Value) (h : Heap) (v : Option Value) (h' : Heap) (L : List Loc) : Prop := v = some w ∧ h' = h ∧ L = []
theorem own_iadd (X : Stand p l e R s m args below meth c T locs cells slots) (hx : p.tables.exec = Jvm.exec) {x y : Int32} (hd : decode c.code pc = .ok (.iadd, 1)) (hq : pc + 1 = q)  (K : own_Go p e below P (T.setTop (mkF m q Ls (.int (x + y) :: st)))) : own_Go p e below P (T.setTop (mkF m pc Ls (.int y :: .int x :: st))) := by
  subst hq; exact own_via (fun t => XS.iadd X.here hx rfl hd rfl) K
theorem own_isub (X : Stand p l e R s m args below meth c T locs cells slots) (hx : p.tables.exec = Jvm.exec) {x y : Int32} (hd : decode c.code pc = .ok (.isub, 1)) (hq : pc + 1 = q)  (K : own_Go p e below P (T.setTop (mkF m q Ls (.int (x - y) :: st)))) : own_Go p e below P (T.setTop (mkF m pc Ls (.int y :: .int x :: st))) := by
  subst hq; exact own_via (fun t => XS.isub X.here hx rfl hd rfl) K
theorem own_imul (X : Stand p l e R s m args below meth c T locs cells slots) (hx : p.tables.exec = Jvm.exec) {x y : Int32} (hd : decode c.code pc = .ok (.imul, 1)) (hq : pc + 1 = q)  (K : own_Go p e below P (T.setTop (mkF m q Ls (.int (x * y) :: st)))) : own_Go p e below P (T.setTop (mkF m pc Ls (.int y :: .int x :: st))) := by
  subst hq; exact own_via (fun t => XS.imul X.here hx rfl hd rfl) K
theorem own_iand (X : Stand p l e R s m args below meth c T locs cells slots) (hx : p.tables.exec = Jvm.exec) {x y : Int32} (hd : decode c.code pc = .ok (.iand, 1)) (hq : pc + 1 = q)  (K : own_Go p e below P (T.setTop (mkF m q Ls (.int (x &&& y) :: st)))) : own_Go p e below P (T.setTop (mkF m pc Ls (.int y :: .int x :: st))) := by
  subst hq; exact own_via (fun t => XS.iand X.here hx rfl hd rfl) K
theorem own_ixor (X : Stand p l e R s m args below meth c T locs cells slots) (hx : p.tables.exec = Jvm.exec) {x y : Int32} (hd : decode c.code pc = .ok (.ixor, 1)) (hq : pc + 1 = q)  (K : own_Go p e below P (T.setTop (mkF m q Ls (.int (x ^^^ y) :: st)))) : own_Go p e below P (T.setTop (mkF m pc Ls (.int y :: .int x :: st))) := by
  subst hq; exact own_via (fun t => XT.ixor X.here hx rfl hd rfl) K
theorem own_ior (X : Stand p l e R s m args below meth c T locs cells slots) (hx : p.tables.exec = Jvm.exec) {x y : Int32} (hd : decode c.code pc = .ok (.ior, 1)) (hq : pc + 1 = q)  (K : own_Go p e below P (T.setTop (mkF m q Ls (.int (x ||| y) :: st)))) : own_Go p e below P (T.setTop (mkF m pc Ls (.int y :: .int x :: st))) := by
  subst hq; exact own_via (fun t => XT.ior X.here hx rfl hd rfl) K
theorem own_ishl (X : Stand p l e R s m args below meth c T locs cells slots) (hx : p.tables.exec = Jvm.exec) {x y : Int32} (hd : decode c.code pc = .ok (.ishl, 1)) (hq : pc + 1 = q)  (K : own_Go p e below P (T.setTop (mkF m q Ls (.int (x <<< (y &&& 31)) :: st)))) : own_Go p e below P (T.setTop (mkF m pc Ls (.int y :: .int x :: st))) := by
  subst hq; exact own_via (fun t => XT.ishl X.here hx rfl hd rfl) K
theorem own_ishr (X : Stand p l e R s m args below meth c T locs cells slots) (hx : p.tables.exec = Jvm.exec) {x y : Int32} (hd : decode c.code pc = .ok (.ishr, 1)) (hq : pc + 1 = q)  (K : own_Go p e below P (T.setTop (mkF m q Ls (.int (x >>> (y &&& 31)) :: st)))) : own_Go p e below P (T.setTop (mkF m pc Ls (.int y :: .int x :: st))) := by
  subst hq; exact own_via (fun t => XT.ishr X.here hx rfl hd rfl) K
theorem own_iushr (X : Stand p l e R s m args below meth c T locs cells slots) (hx : p.tables.exec = Jvm.exec) {x y : Int32} (hd : decode c.code pc = .ok (.iushr, 1)) (hq : pc + 1 = q)  (K : own_Go p e below P (T.setTop (mkF m q Ls (.int (XT.ushr x y) :: st)))) : own_Go p e below P (T.setTop (mkF m pc Ls (.int y :: .int x :: st))) := by
  subst hq; exact own_via (fun t => XT.iushr X.here hx rfl hd rfl) K
theorem own_idiv (X : Stand p l e R s m args below meth c T locs cells slots) (hx : p.tables.exec = Jvm.exec) {x y : Int32} (hd : decode c.code pc = .ok (.idiv, 1)) (hq : pc + 1 = q) (hy : y ≠ 0) (K : own_Go p e below P (T.setTop (mkF m q Ls (.int (x / y) :: st)))) : own_Go p e below P (T.setTop (mkF m pc Ls (.int y :: .int x :: st))) := by
  subst hq; exact own_via (fun t => XS.idiv X.here hx rfl hd rfl hy) K
theorem own_irem (X : Stand p l e R s m args below meth c T locs cells slots) (hx : p.tables.exec = Jvm.exec) {x y : Int32} (hd : decode c.code pc = .ok (.irem, 1)) (hq : pc + 1 = q) (hy : y ≠ 0) (K : own_Go p e below P (T.setTop (mkF m q Ls (.int (x % y) :: st)))) : own_Go p e below P (T.setTop (mkF m pc Ls (.int y :: .int x :: st))) := by
  subst hq; exact own_via (fun t => iremM X hx rfl hd rfl hy) K
theorem own_ineg (X : Stand p l e R s m args below meth c T locs cells slots) (hx : p.tables.exec = Jvm.exec) {x : Int32} (hd : decode c.code pc = .ok (.ineg, 1)) (hq : pc + 1 = q)  (K : own_Go p e below P (T.setTop (mkF m q Ls (.int (-x) :: st)))) : own_Go p e below P (T.setTop (mkF m pc Ls (.int x :: st))) := by
  subst hq; exact own_via (fun t => XS.ineg X.here hx rfl hd rfl) K
theorem own_ladd (X : Stand p l e R s m args below meth c T locs cells slots) (hx : p.tables.exec = Jvm.exec) {x y : Int64} (hd : decode c.code pc = .ok (.ladd, 1)) (hq : pc + 1 = q)  (K : own_Go p e below P (T.setTop (mkF m q Ls (.long (x + y) :: st)))) : own_Go p e below P (T.setTop (mkF m pc Ls (.long y :: .long x :: st))) := by
  subst hq; exact own_via (fun t => XT.ladd X.here hx rfl hd rfl) K
theorem own_lsub (X : Stand p l e R s m args below meth c T locs cells slots) (hx : p.tables.exec = Jvm.exec) {x y : Int64} (hd : decode c.code pc = .ok (.lsub, 1)) (hq : pc + 1 = q)  (K : own_Go p e below P (T.setTop (mkF m q Ls (.long (x - y) :: st)))) : own_Go p e below P (T.setTop (mkF m pc Ls (.long y :: .long x :: st))) := by
  subst hq; exact own_via (fun t => XT.lsub X.here hx rfl hd rfl) K
theorem own_lmul (X : Stand p l e R s m args below meth c T locs cells slots) (hx : p.tables.exec = Jvm.exec) {x y : Int64} (hd : decode c.code pc = .ok (.lmul, 1)) (hq : pc + 1 = q)  (K : own_Go p e below P (T.setTop (mkF m q Ls (.long (x * y) :: st)))) : own_Go p e below P (T.setTop (mkF m pc Ls (.long y :: .long x :: st))) := by
  subst hq; exact own_via (fun t => XT.lmul X.here hx rfl hd rfl) K
theorem own_land (X : Stand p l e R s m args below meth c T locs cells slots) (hx : p.tables.exec = Jvm.exec) {x y : Int64} (hd : decode c.code pc = .ok (.land, 1)) (hq : pc + 1 = q)  (K : own_Go p e below P (T.setTop (mkF m q Ls (.long (x &&& y) :: st)))) : own_Go p e below P (T.setTop (mkF m pc Ls (.long y :: .long x :: st))) := by
  subst hq; exact own_via (fun t => XT.land X.here hx rfl hd rfl) K
theorem own_lor (X : Stand p l e R s m args below meth c T locs cells slots) (hx : p.tables.exec = Jvm.exec) {x y : Int64} (hd : decode c.code pc = .ok (.lor, 1)) (hq : pc + 1 = q)  (K : own_Go p e below P (T.setTop (mkF m q Ls (.long (x ||| y) :: st)))) : own_Go p e below P (T.setTop (mkF m pc Ls (.long y :: .long x :: st))) := by
  subst hq; exact own_via (fun t => XT.lor X.here hx rfl hd rfl) K
theorem own_lxor (X : Stand p l e R s m args below meth c T locs cells slots) (hx : p.tables.exec = Jvm.exec) {x y : Int64} (hd : decode c.code pc = .ok (.lxor, 1)) (hq : pc + 1 = q)  (K : own_Go p e below P (T.setTop (mkF m q Ls (.long (x ^^^ y) :: st)))) : own_Go p e below P (T.setTop (mkF m pc Ls (.long y :: .long x :: st))) := by
  subst hq; exact own_via (fun t => XT.lxor X.here hx rfl hd rfl) K
theorem own_ldiv (X : Stand p l e R s m args below meth c T locs cells slots) (hx : p.tables.exec = Jvm.exec) {x y : Int64} (hd : decode c.code pc = .ok (.ldiv, 1)) (hq : pc + 1 = q) (hy : y ≠ 0) (K : own_Go p e below P (T.setTop (mkF m q Ls (.long (x / y) :: st)))) : own_Go p e below P (T.setTop (mkF m pc Ls (.long y :: .long x :: st))) := by
  subst hq; exact own_via (fun t => XT.ldiv X.here hx rfl hd rfl hy) K
theorem own_lshl (X : Stand p l e R s m args below meth c T locs cells slots) (hx : p.tables.exec = Jvm.exec) {x : Int64} {y : Int32} (hd : decode c.code pc = .ok (.lshl, 1)) (hq : pc + 1 = q)  (K : own_Go p e below P (T.setTop (mkF m q Ls (.long (x <<< (y.toInt64 &&& 63)) :: st)))) : own_Go p e below P (T.setTop (mkF m pc Ls (.int y :: .long x :: st))) := by
  subst hq; exact own_via (fun t => XT.lshl X.here hx rfl hd rfl) K
theorem own_lshr (X : Stand p l e R s m args below meth c T locs cells slots) (hx : p.tables.exec = Jvm.exec) {x : Int64} {y : Int32} (hd : decode c.code pc = .ok (.lshr, 1)) (hq : pc + 1 = q)  (K : own_Go p e below P (T.setTop (mkF m q Ls (.long (x >>> (y.toInt64 &&& 63)) :: st)))) : own_Go p e below P (T.setTop (mkF m pc Ls (.int y :: .long x :: st))) := by
  subst hq; exact own_via (fun t => XT.lshr X.here hx rfl hd rfl) K
theorem own_lushr (X : Stand p l e R s m args below meth c T locs cells slots) (hx : p.tables.exec = Jvm.exec) {x : Int64} {y : Int32} (hd : decode c.code pc = .ok (.lushr, 1)) (hq : pc + 1 = q)  (K : own_Go p e below P (T.setTop (mkF m q Ls (.long (XT.ushrL x y) :: st)))) : own_Go p e below P (T.setTop (mkF m pc Ls (.int y :: .long x :: st))) := by
  subst hq; exact own_via (fun t => XT.lushr X.here hx rfl hd rfl) K
theorem own_i2l (X : Stand p l e R s m args below meth c T locs cells slots) (hx : p.tables.exec = Jvm.exec) {x : Int32} (hd : decode c.code pc = .ok (.i2l, 1)) (hq : pc + 1 = q)  (K : own_Go p e below P (T.setTop (mkF m q Ls (.long x.toInt64 :: st)))) : own_Go p e below P (T.setTop (mkF m pc Ls (.int x :: st))) := by
  subst hq; exact own_via (fun t => XT.i2l X.here hx rfl hd rfl) K
theorem own_l2i (X : Stand p l e R s m args below meth c T locs cells slots) (hx : p.tables.exec = Jvm.exec) {x : Int64} (hd : decode c.code pc = .ok (.l2i, 1)) (hq : pc + 1 = q)  (K : own_Go p e below P (T.setTop (mkF m q Ls (.int x.toInt32 :: st)))) : own_Go p e below P (T.setTop (mkF m pc Ls (.long x :: st))) := by
  subst hq; exact own_via (fun t => XT.l2i X.here hx rfl hd rfl) K
theorem own_i2c (X : Stand p l e R s m args below meth c T locs cells slots) (hx : p.tables.exec = Jvm.exec) {x : Int32} (hd : decode c.code pc = .ok (.i2c, 1)) (hq : pc + 1 = q)  (K : own_Go p e below P (T.setTop (mkF m q Ls (.int x.toUInt32.toUInt16.toUInt32.toInt32 :: st)))) : own_Go p e below P (T.setTop (mkF m pc Ls (.int x :: st))) := by
  subst hq; exact own_via (fun t => XT.i2c X.here hx rfl hd rfl) K
theorem own_i2b (X : Stand p l e R s m args below meth c T locs cells slots) (hx : p.tables.exec = Jvm.exec) {x : Int32} (hd : decode c.code pc = .ok (.i2b, 1)) (hq : pc + 1 = q)  (K : own_Go p e below P (T.setTop (mkF m q Ls (.int x.toInt8.toInt32 :: st)))) : own_Go p e below P (T.setTop (mkF m pc Ls (.int x :: st))) := by
  subst hq; exact own_via (fun t => XT.i2b X.here hx rfl hd rfl) K
theorem own_lcmp (X : Stand p l e R s m args below meth c T locs cells slots) (hx : p.tables.exec = Jvm.exec) {x y : Int64} (hd : decode c.code pc = .ok (.lcmp, 1)) (hq : pc + 1 = q)  (K : own_Go p e below P (T.setTop (mkF m q Ls (.int (XT.cmpL x y) :: st)))) : own_Go p e below P (T.setTop (mkF m pc Ls (.long y :: .long x :: st))) := by
  subst hq; exact own_via (fun t => XT.lcmp X.here hx rfl hd rfl) K
theorem own_iconst (X : Stand p l e R s m args below meth c T locs cells slots) (hx : p.tables.exec = Jvm.exec) {i : Int} (v : Int32) (hd : decode c.code pc = .ok (.iconst i, 1)) (hq : pc + 1 = q) (hv : Int32.ofInt i = v) (K : own_Go p e below P (T.setTop (mkF m q Ls (.int v :: st)))) : own_Go p e below P (T.setTop (mkF m pc Ls st)) := by
  subst hq; exact own_via (fun t => XT.iconstV (v := v) X.here hx rfl hd hv) K
theorem own_bipush (X : Stand p l e R s m args below meth c T locs cells slots) (hx : p.tables.exec = Jvm.exec) {i : Int} (v : Int32) (hd : decode c.code pc = .ok (.bipush i, 2)) (hq : pc + 2 = q) (hv : (Int8.ofInt i).toInt32 = v) (K : own_Go p e below P (T.setTop (mkF m q Ls (.int v :: st)))) : own_Go p e below P (T.setTop (mkF m pc Ls st)) := by
  subst hq; exact own_via (fun t => XT.bipushV (v := v) X.here hx rfl hd hv) K
theorem own_sipush (X : Stand p l e R s m args below meth c T locs cells slots) (hx : p.tables.exec = Jvm.exec) {i : Int} (v : Int32) (hd : decode c.code pc = .ok (.sipush i, 3)) (hq : pc + 3 = q) (hv : (Int16.ofInt i).toInt32 = v) (K : own_Go p e below P (T.setTop (mkF m q Ls (.int v :: st)))) : own_Go p e below P (T.setTop (mkF m pc Ls st)) := by
  subst hq; exact own_via (fun t => XT.sipushV (v := v) X.here hx rfl hd hv) K
theorem own_lconst (X : Stand p l e R s m args below meth c T locs cells slots) (hx : p.tables.exec = Jvm.exec) {i : Fin 2} (v : Int64) (hd : decode c.code pc = .ok (.lconst i, 1)) (hq : pc + 1 = q) (hv : Int64.ofNat i = v) (K : own_Go p e below P (T.setTop (mkF m q Ls (.long v :: st)))) : own_Go p e below P (T.setTop (mkF m pc Ls st)) := by
  subst hq; exact own_via (fun t => XT.lconstV (v := v) X.here hx rfl hd hv) K
theorem own_aconstNull (X : Stand p l e R s m args below meth c T locs cells slots) (hx : p.tables.exec = Jvm.exec)  (hd : decode c.code pc = .ok (.aconst_null, 1)) (hq : pc + 1 = q)  (K : own_Go p e below P (T.setTop (mkF m q Ls (.null :: st)))) : own_Go p e below P (T.setTop (mkF m pc Ls st)) := by
  subst hq; exact own_via (fun t => XS.aconstNull X.here hx rfl hd ) K
theorem own_iloadN (X : Stand p l e R s m args below meth c T locs cells slots) (hx : p.tables.exec = Jvm.exec) {k : Fin 4} {v : Int32} (hd : decode c.code pc = .ok (.iload_n k, 1)) (hq : pc + 1 = q) (hl : Ls[k.val]? = some (.val (.int v))) (K : own_Go p e below P (T.setTop (mkF m q Ls (.int v :: st)))) : own_Go p e below P (T.setTop (mkF m pc Ls st)) := by
  subst hq; exact own_via (fun t => XS.iloadN X.here hx rfl hd hl) K
theorem own_iload (X : Stand p l e R s m args below meth c T locs cells slots) (hx : p.tables.exec = Jvm.exec) {k : Nat} {v : Int32} (hd : decode c.code pc = .ok (.iload k, 2)) (hq : pc + 2 = q) (hl : Ls[k]? = some (.val (.int v))) (K : own_Go p e below P (T.setTop (mkF m q Ls (.int v :: st)))) : own_Go p e below P (T.setTop (mkF m pc Ls st)) := by
  subst hq; exact own_via (fun t => XS.iload X.here hx rfl hd hl) K
theorem own_lloadN (X : Stand p l e R s m args below meth c T locs cells slots) (hx : p.tables.exec = Jvm.exec) {k : Fin 4} {v : Int64} (hd : decode c.code pc = .ok (.lload_n k, 1)) (hq : pc + 1 = q) (hl : Ls[k.val]? = some (.val (.long v))) (K : own_Go p e below P (T.setTop (mkF m q Ls (.long v :: st)))) : own_Go p e below P (T.setTop (mkF m pc Ls st)) := by
  subst hq; exact own_via (fun t => XT.lloadN X.here hx rfl hd hl) K
theorem own_lload (X : Stand p l e R s m args below meth c T locs cells slots) (hx : p.tables.exec = Jvm.exec) {k : Nat} {v : Int64} (hd : decode c.code pc = .ok (.lload k, 2)) (hq : pc + 2 = q) (hl : Ls[k]? = some (.val (.long v))) (K : own_Go p e below P (T.setTop (mkF m q Ls (.long v :: st)))) : own_Go p e below P (T.setTop (mkF m pc Ls st)) := by
  subst hq; exact own_via (fun t => XT.lload X.here hx rfl hd hl) K
theorem own_aloadN (X : Stand p l e R s m args below meth c T locs cells slots) (hx : p.tables.exec = Jvm.exec) {k : Fin 4} {v : Value} (hd : decode c.code pc = .ok (.aload_n k, 1)) (hq : pc + 1 = q) (hl : Ls[k.val]? = some (.val v)) (hv : v.isRef = true) (K : own_Go p e below P (T.setTop (mkF m q Ls (v :: st)))) : own_Go p e below P (T.setTop (mkF m pc Ls st)) := by
  subst hq; exact own_via (fun t => XS.aloadN X.here hx rfl hd hl hv) K
theorem own_aload (X : Stand p l e R s m args below meth c T locs cells slots) (hx : p.tables.exec = Jvm.exec) {k : Nat} {v : Value} (hd : decode c.code pc = .ok (.aload k, 2)) (hq : pc + 2 = q) (hl : Ls[k]? = some (.val v)) (hv : v.isRef = true) (K : own_Go p e below P (T.setTop (mkF m q Ls (v :: st)))) : own_Go p e below P (T.setTop (mkF m pc Ls st)) := by
  subst hq; exact own_via (fun t => XS.aload X.here hx rfl hd hl hv) K
theorem own_istoreN (X : Stand p l e R s m args below meth c T locs cells slots) (hx : p.tables.exec = Jvm.exec) {k : Fin 4} {v : Int32} (hd : decode c.code pc = .ok (.istore_n k, 1)) (hq : pc + 1 = q) (hl : storeLocals Ls k.val (.int v) = some L') (K : own_Go p e below P (T.setTop (mkF m q L' st))) : own_Go p e below P (T.setTop (mkF m pc Ls (.int v :: st))) := by
  subst hq; exact own_via (fun t => XS.istoreN X.here hx rfl hd rfl hl) K
theorem own_istore (X : Stand p l e R s m args below meth c T locs cells slots) (hx : p.tables.exec = Jvm.exec) {k : Nat} {v : Int32} (hd : decode c.code pc = .ok (.istore k, 2)) (hq : pc + 2 = q) (hl : storeLocals Ls k (.int v) = some L') (K : own_Go p e below P (T.setTop (mkF m q L' st))) : own_Go p e below P (T.setTop (mkF m pc Ls (.int v :: st))) := by
  subst hq; exact own_via (fun t => XS.istore X.here hx rfl hd rfl hl) K
theorem own_lstoreN (X : Stand p l e R s m args below meth c T locs cells slots) (hx : p.tables.exec = Jvm.exec) {k : Fin 4} {v : Int64} (hd : decode c.code pc = .ok (.lstore_n k, 1)) (hq : pc + 1 = q) (hl : storeLocals Ls k.val (.long v) = some L') (K : own_Go p e below P (T.setTop (mkF m q L' st))) : own_Go p e below P (T.setTop (mkF m pc Ls (.long v :: st))) := by
  subst hq; exact own_via (fun t => XT.lstoreN X.here hx rfl hd rfl hl) K
theorem own_lstore (X : Stand p l e R s m args below meth c T locs cells slots) (hx : p.tables.exec = Jvm.exec) {k : Nat} {v : Int64} (hd : decode c.code pc = .ok (.lstore k, 2)) (hq : pc + 2 = q) (hl : storeLocals Ls k (.long v) = some L') (K : own_Go p e below P (T.setTop (mkF m q L' st))) : own_Go p e below P (T.setTop (mkF m pc Ls (.long v :: st))) := by
  subst hq; exact own_via (fun t => XT.lstore X.here hx rfl hd rfl hl) K
theorem own_astoreN (X : Stand p l e R s m args below meth c T locs cells slots) (hx : p.tables.exec = Jvm.exec) {k : Fin 4} {v : Value} (hd : decode c.code pc = .ok (.astore_n k, 1)) (hq : pc + 1 = q) (hv : v.isRef = true) (hl : storeLocals Ls k.val v = some L') (K : own_Go p e below P (T.setTop (mkF m q L' st))) : own_Go p e below P (T.setTop (mkF m pc Ls (v :: st))) := by
  subst hq; exact own_via (fun t => XS.astoreN X.here hx rfl hd rfl hv hl) K
theorem own_astore (X : Stand p l e R s m args below meth c T locs cells slots) (hx : p.tables.exec = Jvm.exec) {k : Nat} {v : Value} (hd : decode c.code pc = .ok (.astore k, 2)) (hq : pc + 2 = q) (hv : v.isRef = true) (hl : storeLocals Ls k v = some L') (K : own_Go p e below P (T.setTop (mkF m q L' st))) : own_Go p e below P (T.setTop (mkF m pc Ls (v :: st))) := by
  subst hq; exact own_via (fun t => XS.astore X.here hx rfl hd rfl hv hl) K
theorem own_iinc (X : Stand p l e R s m args below meth c T locs cells slots) (hx : p.tables.exec = Jvm.exec) {k : Nat} {i : Int} {x : Int32} (v : Int32) (hd : decode c.code pc = .ok (.iinc k i, 3)) (hq : pc + 3 = q) (hv : Int32.ofInt i = v) (hl : Ls[k]? = some (.val (.int x))) (hl' : storeLocals Ls k (.int (x + v)) = some L') (K : own_Go p e below P (T.setTop (mkF m q L' st))) : own_Go p e below P (T.setTop (mkF m pc Ls st)) := by
  subst hq; exact own_via (fun t => XT.iincV (v := v) X.here hx rfl hd hv hl hl') K
theorem own_dup (X : Stand p l e R s m args below meth c T locs cells slots) (hx : p.tables.exec = Jvm.exec) {v : Value} (hd : decode c.code pc = .ok (.dup, 1)) (hq : pc + 1 = q) (hc : v.category = 1) (K : own_Go p e below P (T.setTop (mkF m q Ls (v :: v :: st)))) : own_Go p e below P (T.setTop (mkF m pc Ls (v :: st))) := by
  subst hq; exact own_via (fun t => XS.dup X.here hx rfl hd rfl hc) K
theorem own_pop (X : Stand p l e R s m args below meth c T locs cells slots) (hx : p.tables.exec = Jvm.exec) {v : Value} (hd : decode c.code pc = .ok (.pop, 1)) (hq : pc + 1 = q) (hc : v.category = 1) (K : own_Go p e below P (T.setTop (mkF m q Ls st))) : own_Go p e below P (T.setTop (mkF m pc Ls (v :: st))) := by
  subst hq; exact own_via (fun t => XT.pop X.here hx rfl hd rfl hc) K
theorem own_dupX1 (X : Stand p l e R s m args below meth c T locs cells slots) (hx : p.tables.exec = Jvm.exec) {v w : Value} (hd : decode c.code pc = .ok (.dup_x1, 1)) (hq : pc + 1 = q) (hc : v.category = 1) (hc' : w.category = 1) (K : own_Go p e below P (T.setTop (mkF m q Ls (v :: w :: v :: st)))) : own_Go p e below P (T.setTop (mkF m pc Ls (v :: w :: st))) := by
  subst hq; exact own_via (fun t => XT.dupX1 X.here hx rfl hd rfl hc hc') K
theorem own_dup2 (X : Stand p l e R s m args below meth c T locs cells slots) (hx : p.tables.exec = Jvm.exec) {v w : Value} (hd : decode c.code pc = .ok (.dup2, 1)) (hq : pc + 1 = q) (hc : v.category = 1) (hc' : w.category = 1) (K : own_Go p e below P (T.setTop (mkF m q Ls (v :: w :: v :: w :: st)))) : own_Go p e below P (T.setTop (mkF m pc Ls (v :: w :: st))) := by
  subst hq; exact own_via (fun t => XT.dup2 X.here hx rfl hd rfl hc hc') K
theorem own_goto (X : Stand p l e R s m args below meth c T locs cells slots) (hx : p.tables.exec = Jvm.exec) {o : Int} (hd : decode c.code pc = .ok (.goto o, 3)) (ho : 0 ≤ (pc : Int) + o) (hp : ((pc : Int) + o).toNat = q) (K : own_Go p e below P (T.setTop (mkF m q Ls st))) : own_Go p e below P (T.setTop (mkF m pc Ls st)) := by
  exact own_via (fun t => XS.goto X.here hx rfl (pc0 := pc) (pc' := q) rfl hd ho hp) K
theorem own_ldc (X : Stand p l e R s m args below meth c T locs cells slots) (hx : p.tables.exec = Jvm.exec) {Z : State} {a0 : Array Value} (hZ : Z.Warmed39 s.vm) {own : String} {i : Nat} {v : Int32} (hown : s.vm.findClass own = some m.cls) (w : (Cond.constant own i v).before a0 Z = true) (hd : decode c.code pc = .ok (.ldc i, 2)) (hq : pc + 2 = q) (K : own_Go p e below P (T.setTop (mkF m q Ls (.int v :: st)))) : own_Go p e below P (T.setTop (mkF m pc Ls st)) := by
  subst hq; exact own_via (fun t => X.ldcI hx hown (mv hZ w) rfl hd) K
theorem own_ldcW (X : Stand p l e R s m args below meth c T locs cells slots) (hx : p.tables.exec = Jvm.exec) {Z : State} {a0 : Array Value} (hZ : Z.Warmed39 s.vm) {own : String} {i : Nat} {v : Int32} (hown : s.vm.findClass own = some m.cls) (w : (Cond.constant own i v).before a0 Z = true) (hd : decode c.code pc = .ok (.ldc_w i, 3)) (hq : pc + 3 = q) (K : own_Go p e below P (T.setTop (mkF m q Ls (.int v :: st)))) : own_Go p e below P (T.setTop (mkF m pc Ls st)) := by
  subst hq; exact own_via (fun t => X.ldcWI hx hown (mv hZ w) rfl hd) K
theorem own_ldc2 (X : Stand p l e R s m args below meth c T locs cells slots) (hx : p.tables.exec = Jvm.exec) {Z : State} {a0 : Array Value} (hZ : Z.Warmed39 s.vm) {own : String} {i : Nat} {v : Int64} (hown : s.vm.findClass own = some m.cls) (w : (Cond.constantLong own i v).before a0 Z = true) (hd : decode c.code pc = .ok (.ldc2_w i, 3)) (hq : pc + 3 = q) (K : own_Go p e below P (T.setTop (mkF m q Ls (.long v :: st)))) : own_Go p e below P (T.setTop (mkF m pc Ls st)) := by
  subst hq; exact own_via (fun t => X.ldc2J hx hown (mv hZ w) rfl hd) K
def own_pos : ClassFile.Cond → Bool | .eq => true | .lt => true | .gt => true | _ => false
def own_base {α : Type} [LT α] : ClassFile.Cond → α → α → Prop | .eq, x, y => x = y | .ne, x, y => x = y | .lt, x, y => x < y | .ge, x, y => x < y | .gt, x, y => y < x | .le, x, y => y < x
theorem own_ii {cd : ClassFile.Cond} {x y : Int32} : (own_base cd x y → if_icmp.holds cd x y = own_pos cd) ∧ (¬ own_base cd x y → if_icmp.holds cd x y = !own_pos cd) := by
  cases cd <;> simp only [own_base, own_pos, Bool.not_true, Bool.not_false]
  · exact ⟨XT.ii_eq_t, XT.ii_eq_f⟩
  · exact ⟨XT.ii_ne_f, XT.ii_ne_t⟩
  · exact ⟨XT.ii_lt_t, XT.ii_lt_f⟩
  · exact ⟨XT.ii_ge_f, XT.ii_ge_t⟩
  · exact ⟨XT.ii_gt_t, XT.ii_gt_f⟩
  · exact ⟨XT.ii_le_f, XT.ii_le_t⟩
theorem own_ll {cd : ClassFile.Cond} {x y : Int64} : (own_base cd x y → ifCond.holds cd (XT.cmpL x y) = own_pos cd) ∧ (¬ own_base cd x y → ifCond.holds cd (XT.cmpL x y) = !own_pos cd) := by
  cases cd <;> simp only [own_base, own_pos, Bool.not_true, Bool.not_false]
  · exact ⟨XT.ll_eq_t, XT.ll_eq_f⟩
  · exact ⟨XT.ll_ne_f, XT.ll_ne_t⟩
  · exact ⟨XT.ll_lt_t, XT.ll_lt_f⟩
  · exact ⟨XT.ll_ge_f, XT.ll_ge_t⟩
  · exact ⟨XT.ll_gt_t, XT.ll_gt_f⟩
  · exact ⟨XT.ll_le_f, XT.ll_le_t⟩
theorem own_icmpP (X : Stand p l e R s m args below meth c T locs cells slots) (hx : p.tables.exec = Jvm.exec) {x y : Int32} {cd : ClassFile.Cond} {o : Int} {pt : Nat} (hd : decode c.code pc = .ok (.if_icmp cd o, 3)) (ho : 0 ≤ (pc : Int) + o) (hp : ((pc : Int) + o).toNat = pt) (hq : pc + 3 = q) (hs : own_pos cd = true) (K1 : own_base cd x y → own_Go p e below P (T.setTop (mkF m pt Ls st))) (K2 : ¬ own_base cd x y → own_Go p e below P (T.setTop (mkF m q Ls st))) : own_Go p e below P (T.setTop (mkF m pc Ls (.int y :: .int x :: st))) := by
  subst hq
  by_cases h : own_base cd x y
  · exact own_via (fun t => XS.icmpYes X.here hx rfl (pc0 := pc) (pc' := pt) rfl hd rfl ((own_ii.1 h).trans hs) ho hp) (K1 h)
  · exact own_via (fun t => XS.icmpNo X.here hx rfl hd rfl ((own_ii.2 h).trans (by rw [hs]; rfl))) (K2 h)
theorem own_icmpM (X : Stand p l e R s m args below meth c T locs cells slots) (hx : p.tables.exec = Jvm.exec) {x y : Int32} {cd : ClassFile.Cond} {o : Int} {pt : Nat} (hd : decode c.code pc = .ok (.if_icmp cd o, 3)) (ho : 0 ≤ (pc : Int) + o) (hp : ((pc : Int) + o).toNat = pt) (hq : pc + 3 = q) (hs : own_pos cd = false) (K1 : ¬ own_base cd x y → own_Go p e below P (T.setTop (mkF m pt Ls st))) (K2 : own_base cd x y → own_Go p e below P (T.setTop (mkF m q Ls st))) : own_Go p e below P (T.setTop (mkF m pc Ls (.int y :: .int x :: st))) := by
  subst hq
  by_cases h : own_base cd x y
  · exact own_via (fun t => XS.icmpNo X.here hx rfl hd rfl ((own_ii.1 h).trans hs)) (K2 h)
  · exact own_via (fun t => XS.icmpYes X.here hx rfl (pc0 := pc) (pc' := pt) rfl hd rfl ((own_ii.2 h).trans (by rw [hs]; rfl)) ho hp) (K1 h)
theorem own_if0P (X : Stand p l e R s m args below meth c T locs cells slots) (hx : p.tables.exec = Jvm.exec) {x : Int32} {cd : ClassFile.Cond} {o : Int} {pt : Nat} (hd : decode c.code pc = .ok (.ifCond cd o, 3)) (ho : 0 ≤ (pc : Int) + o) (hp : ((pc : Int) + o).toNat = pt) (hq : pc + 3 = q) (hs : own_pos cd = true) (K1 : own_base cd x (0 : Int32) → own_Go p e below P (T.setTop (mkF m pt Ls st))) (K2 : ¬ own_base cd x (0 : Int32) → own_Go p e below P (T.setTop (mkF m q Ls st))) : own_Go p e below P (T.setTop (mkF m pc Ls (.int x :: st))) := by
  subst hq
  by_cases h : own_base cd x (0 : Int32)
  · exact own_via (fun t => XS.ifYes X.here hx rfl (pc0 := pc) (pc' := pt) rfl hd rfl ((if0 cd x).trans ((own_ii (y := 0).1 h).trans hs)) ho hp) (K1 h)
  · exact own_via (fun t => XS.ifNo X.here hx rfl hd rfl ((if0 cd x).trans ((own_ii (y := 0).2 h).trans (by rw [hs]; rfl)))) (K2 h)
theorem own_if0M (X : Stand p l e R s m args below meth c T locs cells slots) (hx : p.tables.exec = Jvm.exec) {x : Int32} {cd : ClassFile.Cond} {o : Int} {pt : Nat} (hd : decode c.code pc = .ok (.ifCond cd o, 3)) (ho : 0 ≤ (pc : Int) + o) (hp : ((pc : Int) + o).toNat = pt) (hq : pc + 3 = q) (hs : own_pos cd = false) (K1 : ¬ own_base cd x (0 : Int32) → own_Go p e below P (T.setTop (mkF m pt Ls st))) (K2 : own_base cd x (0 : Int32) → own_Go p e below P (T.setTop (mkF m q Ls st))) : own_Go p e below P (T.setTop (mkF m pc Ls (.int x :: st))) := by
  subst hq
  by_cases h : own_base cd x (0 : Int32)
  · exact own_via (fun t => XS.ifNo X.here hx rfl hd rfl ((if0 cd x).trans ((own_ii (y := 0).1 h).trans hs))) (K2 h)
  · exact own_via (fun t => XS.ifYes X.here hx rfl (pc0 := pc) (pc' := pt) rfl hd rfl ((if0 cd x).trans ((own_ii (y := 0).2 h).trans (by rw [hs]; rfl))) ho hp) (K1 h)
theorem own_ifLP (X : Stand p l e R s m args below meth c T locs cells slots) (hx : p.tables.exec = Jvm.exec) {x y : Int64} {cd : ClassFile.Cond} {o : Int} {pt : Nat} (hd : decode c.code pc = .ok (.ifCond cd o, 3)) (ho : 0 ≤ (pc : Int) + o) (hp : ((pc : Int) + o).toNat = pt) (hq : pc + 3 = q) (hs : own_pos cd = true) (K1 : own_base cd x y → own_Go p e below P (T.setTop (mkF m pt Ls st))) (K2 : ¬ own_base cd x y → own_Go p e below P (T.setTop (mkF m q Ls st))) : own_Go p e below P (T.setTop (mkF m pc Ls (.int (XT.cmpL x y) :: st))) := by
  subst hq
  by_cases h : own_base cd x y
  · exact own_via (fun t => XS.ifYes X.here hx rfl (pc0 := pc) (pc' := pt) rfl hd rfl ((own_ll.1 h).trans hs) ho hp) (K1 h)
  · exact own_via (fun t => XS.ifNo X.here hx rfl hd rfl ((own_ll.2 h).trans (by rw [hs]; rfl))) (K2 h)
theorem own_ifLM (X : Stand p l e R s m args below meth c T locs cells slots) (hx : p.tables.exec = Jvm.exec) {x y : Int64} {cd : ClassFile.Cond} {o : Int} {pt : Nat} (hd : decode c.code pc = .ok (.ifCond cd o, 3)) (ho : 0 ≤ (pc : Int) + o) (hp : ((pc : Int) + o).toNat = pt) (hq : pc + 3 = q) (hs : own_pos cd = false) (K1 : ¬ own_base cd x y → own_Go p e below P (T.setTop (mkF m pt Ls st))) (K2 : own_base cd x y → own_Go p e below P (T.setTop (mkF m q Ls st))) : own_Go p e below P (T.setTop (mkF m pc Ls (.int (XT.cmpL x y) :: st))) := by
  subst hq
  by_cases h : own_base cd x y
  · exact own_via (fun t => XS.ifNo X.here hx rfl hd rfl ((own_ll.1 h).trans hs)) (K2 h)
  · exact own_via (fun t => XS.ifYes X.here hx rfl (pc0 := pc) (pc' := pt) rfl hd rfl ((own_ll.2 h).trans (by rw [hs]; rfl)) ho hp) (K1 h)
theorem own_acmp (X : Stand p l e R s m args below meth c T locs cells slots) (hx : p.tables.exec = Jvm.exec) {cd : ACond} {v w : Value} {o : Int} {same : Bool} (hv : v.isRef = true) (hw : w.isRef = true) (hd : decode c.code pc = .ok (.if_acmp cd o, 3)) (hs : decide (v = w) = same) (ho : 0 ≤ (pc : Int) + o) (hp : q = if acV cd same = true then ((pc : Int) + o).toNat else pc + 3) (K : own_Go p e below P (T.setTop (mkF m q Ls st))) : own_Go p e below P (T.setTop (mkF m pc Ls (w :: v :: st))) := by
  exact own_via (fun t => acmp X hx rfl hv hw (pc0 := pc) rfl hd rfl hs ho hp) K
theorem own_nullY (X : Stand p l e R s m args below meth c T locs cells slots) (hx : p.tables.exec = Jvm.exec) {o : Int} (hd : decode c.code pc = .ok (.ifnull o, 3)) (ho : 0 ≤ (pc : Int) + o) (hp : ((pc : Int) + o).toNat = q) (K : own_Go p e below P (T.setTop (mkF m q Ls st))) : own_Go p e below P (T.setTop (mkF m pc Ls (.null :: st))) := by
  exact own_via (fun t => XS.ifnullYes X.here hx rfl (pc0 := pc) (pc' := q) rfl hd rfl ho hp) K
theorem own_nullN (X : Stand p l e R s m args below meth c T locs cells slots) (hx : p.tables.exec = Jvm.exec) {o : Int} {a : Addr} (hd : decode c.code pc = .ok (.ifnull o, 3)) (hq : pc + 3 = q) (K : own_Go p e below P (T.setTop (mkF m q Ls st))) : own_Go p e below P (T.setTop (mkF m pc Ls (.ref a :: st))) := by
  subst hq; exact own_via (fun t => XS.ifnullNo X.here hx rfl hd rfl) K
theorem own_nonnullY (X : Stand p l e R s m args below meth c T locs cells slots) (hx : p.tables.exec = Jvm.exec) {o : Int} {a : Addr} (hd : decode c.code pc = .ok (.ifnonnull o, 3)) (ho : 0 ≤ (pc : Int) + o) (hp : ((pc : Int) + o).toNat = q) (K : own_Go p e below P (T.setTop (mkF m q Ls st))) : own_Go p e below P (T.setTop (mkF m pc Ls (.ref a :: st))) := by
  exact own_via (fun t => XT.ifnonnullYes X.here hx rfl (pc0 := pc) (pc' := q) rfl hd rfl ho hp) K
theorem own_nonnullN (X : Stand p l e R s m args below meth c T locs cells slots) (hx : p.tables.exec = Jvm.exec) {o : Int} (hd : decode c.code pc = .ok (.ifnonnull o, 3)) (hq : pc + 3 = q) (K : own_Go p e below P (T.setTop (mkF m q Ls st))) : own_Go p e below P (T.setTop (mkF m pc Ls (.null :: st))) := by
  subst hq; exact own_via (fun t => XT.ifnonnullNo X.here hx rfl hd rfl) K
theorem own_retN (X : Stand p l e R s m args below meth c T locs cells slots) (hx : p.tables.exec = Jvm.exec) (hlk : meth.locks = false) {rest : List Value} {z : Int32} {t : FieldType} (ht : t = .boolean ∨ t = .byte ∨ t = .char ∨ t = .short) (hret : meth.sig.returnType = some t) (hd : decode c.code pc = .ok (.ireturn, 1)) (hqq : Q (some (.int (nar t z))) T.heap locs) (hc : cells ≤ kc) (hs : slots ≤ ks)  : own_Go p e below (own_E s kc ks Q) (T.setTop (mkF m pc Ls (.int z :: rest))) := by
  obtain ⟨fs, hr, hrun, hended, hW, hsame⟩ := X.leave (v := (some (.int (nar t z)))) (fun h => by rw [hret] at h; cases h) hlk
  exact ⟨_, _, retN X hx hret ht hd hr, hrun, hended, _, _, rfl, hqq, ⟨_, rfl⟩, hW, hsame.mono hc hs⟩
theorem own_retI (X : Stand p l e R s m args below meth c T locs cells slots) (hx : p.tables.exec = Jvm.exec) (hlk : meth.locks = false) {rest : List Value} {z : Int32} (hret : meth.sig.returnType = some .int) (hd : decode c.code pc = .ok (.ireturn, 1)) (hqq : Q (some (.int z)) T.heap locs) (hc : cells ≤ kc) (hs : slots ≤ ks)  : own_Go p e below (own_E s kc ks Q) (T.setTop (mkF m pc Ls (.int z :: rest))) := by
  obtain ⟨fs, hr, hrun, hended, hW, hsame⟩ := X.leave (v := (some (.int z))) (fun h => by rw [hret] at h; cases h) hlk
  exact ⟨_, _, retOut X hx hret rfl (Or.inl ⟨rfl, Or.inl rfl, z, rfl⟩) hd hr, hrun, hended, _, _, rfl, hqq, ⟨_, rfl⟩, hW, hsame.mono hc hs⟩
theorem own_retJ (X : Stand p l e R s m args below meth c T locs cells slots) (hx : p.tables.exec = Jvm.exec) (hlk : meth.locks = false) {rest : List Value} {z : Int64} (hret : meth.sig.returnType = some .long) (hd : decode c.code pc = .ok (.lreturn, 1)) (hqq : Q (some (.long z)) T.heap locs) (hc : cells ≤ kc) (hs : slots ≤ ks)  : own_Go p e below (own_E s kc ks Q) (T.setTop (mkF m pc Ls (.long z :: rest))) := by
  obtain ⟨fs, hr, hrun, hended, hW, hsame⟩ := X.leave (v := (some (.long z))) (fun h => by rw [hret] at h; cases h) hlk
  exact ⟨_, _, retOut X hx hret rfl (Or.inr (Or.inl ⟨rfl, rfl, z, rfl⟩)) hd hr, hrun, hended, _, _, rfl, hqq, ⟨_, rfl⟩, hW, hsame.mono hc hs⟩
theorem own_retA (X : Stand p l e R s m args below meth c T locs cells slots) (hx : p.tables.exec = Jvm.exec) (hlk : meth.locks = false) {rest : List Value} {w : Value} {t : FieldType} (hw : w.isRef = true) (ht : t.isReference = true) (hn : narrow t w = w) (hret : meth.sig.returnType = some t) (hd : decode c.code pc = .ok (.areturn, 1)) (hqq : Q (some w) T.heap locs) (hc : cells ≤ kc) (hs : slots ≤ ks)  : own_Go p e below (own_E s kc ks Q) (T.setTop (mkF m pc Ls (w :: rest))) := by
  obtain ⟨fs, hr, hrun, hended, hW, hsame⟩ := X.leave (v := (some w)) (fun h => by rw [hret] at h; cases h) hlk
  exact ⟨_, _, retOut X hx hret hn (Or.inr (Or.inr (Or.inr (Or.inr ⟨rfl, ht, hw⟩)))) hd hr, hrun, hended, _, _, rfl, hqq, ⟨_, rfl⟩, hW, hsame.mono hc hs⟩
theorem own_retV (X : Stand p l e R s m args below meth c T locs cells slots) (hx : p.tables.exec = Jvm.exec) (hlk : meth.locks = false) {rest : List Value} (hret : meth.sig.returnType = none) (hd : decode c.code pc = .ok (.return_, 1)) (hqq : Q none T.heap locs) (hc : cells ≤ kc) (hs : slots ≤ ks)  : own_Go p e below (own_E s kc ks Q) (T.setTop (mkF m pc Ls [])) := by
  obtain ⟨fs, hr, hrun, hended, hW, hsame⟩ := X.leave (v := none) (fun _ => rfl) hlk
  exact ⟨_, _, X.returnOut hx hret hd hr, hrun, hended, _, _, rfl, hqq, ⟨_, rfl⟩, hW, hsame.mono hc hs⟩
theorem own_callS (X : Stand p l e R s m args below meth c T locs cells slots) (hx : p.tables.exec = Jvm.exec) {Z : State} {a0 : Array Value} {h : Heap} {own : String} {index : Nat} {y : MethodName} {bytes : ByteArray} {maxL : Nat} {ret : Option FieldType} {rm : Room} {W : Nat} {argsL : List Value} {Qc : Option Value → Heap → List Loc → Prop} {ps : List FieldType} {r : Option FieldType} {st0 : List Value} (hZ : Z.Warmed39 s.vm) (hown : s.vm.findClass own = some m.cls) (w1 : (Cond.methodLink own index y).before a0 Z = true) (w2 : (Cond.static y).before a0 Z = true) (w3 : (Cond.initialized y.cls).before a0 Z = true) (w4 : (Cond.code y bytes maxL ret).before a0 Z = true) (hy : y.cls ≠ "java/lang/invoke/MethodHandle" ∧ y.cls ≠ "java/lang/invoke/VarHandle") (hM : MetFree l y (head1 [Cond.code y bytes maxL ret] rm) (fun aa U => aa = argsL.toArray ∧ Z.Warmed39 U.vm ∧ U.heap = h) (fun _ _ _ _ _ => True) (fun _ U o U' => ∃ v L, o = .returned v ∧ Qc v U'.heap L ∧ FrameEnd U o U' L rm.cells rm.slots)) (hpd : parseMethodDescriptor y.desc = some ⟨ps, r⟩) (hlen : argsL.length = ps.length) (eT : T.heap = h) (hml : Ls.size = c.maxLocals) (hst : st0 = argsL.reverse ++ st) (hW : (st.map fun v => v.category).sum ≤ W) (hf : rm.frames + 1 ≤ R.frames) (hl : W + (maxL + 11) + rm.locals ≤ R.locals) (hc : cells + rm.cells ≤ R.cells) (hs : slots + rm.slots ≤ R.slots) (hd : decode c.code pc = .ok (.invokestatic index, 3)) (hq : pc + 3 = q) (K : ∀ v T' L, Stand p l e R s m args below meth c T' (locs ++ L) (cells + rm.cells) (slots + rm.slots) → Qc v T'.heap L → own_Go p e below P (T'.setTop (mkF m q Ls (v.toList ++ st)))) : own_Go p e below P (T.setTop (mkF m pc Ls st0)) := by
  subst hq hst
  obtain ⟨v, _, ⟨T', L', k', n'⟩, -, X', ⟨Lc, hQ, l', y', z'⟩, st'⟩ := Jvm.LawKit.callS X hx hown (mvT hZ w1) (mvT hZ w2) (mvT hZ w3) (mvT hZ w4) hy (backOf (W := W) hM hZ w4 w3 hf hl) (g := mkF m pc Ls (argsL.reverse ++ st)) rfl hml (argsL := argsL) (rest := st) (lenOf hpd hlen) rfl (by show 2 * 0 + _ ≤ _; omega) hd (fun _ _ => ⟨rfl, eT, hc, hs⟩)
  dsimp only [Pt.U, Pt.locs, Pt.cells, Pt.slots] at X' l' y' z' st' hQ
  subst l' y' z'
  exact own_via (fun t => st' t) (K v T' Lc X' hQ)
theorem own_callC (X : Stand p l e R s m args below meth c T locs cells slots) (hx : p.tables.exec = Jvm.exec) {a : Addr} {Z : State} {a0 : Array Value} {h : Heap} {own : String} {index : Nat} {y : MethodName} {bytes : ByteArray} {maxL : Nat} {rm : Room} {W : Nat} {argsL : List Value} {Qc : Option Value → Heap → List Loc → Prop} {ps : List FieldType} {r : Option FieldType} {st0 : List Value} (hZ : Z.Warmed39 s.vm) (hown : s.vm.findClass own = some m.cls) (hy1 : y.name = "<init>") (w1 : (Cond.methodLink own index y).before a0 Z = true) (w2 : (Cond.instanceMethod y).before a0 Z = true) (w3 : (Cond.initialized y.cls).before a0 Z = true) (w4 : (Cond.code y bytes maxL none).before a0 Z = true) (hy : y.cls ≠ "java/lang/invoke/MethodHandle" ∧ y.cls ≠ "java/lang/invoke/VarHandle") (hM : MetFree l y (head1 [Cond.code y bytes maxL none] rm) (fun aa U => aa = (.ref a :: argsL).toArray ∧ Z.Warmed39 U.vm ∧ U.heap = h) (fun _ _ _ _ _ => True) (fun _ U o U' => ∃ v L, o = .returned v ∧ Qc v U'.heap L ∧ FrameEnd U o U' L rm.cells rm.slots)) (hpd : parseMethodDescriptor y.desc = some ⟨ps, r⟩) (hlen : argsL.length = ps.length) (eT : T.heap = h) (hml : Ls.size = c.maxLocals) (hst : st0 = argsL.reverse ++ .ref a :: st) (hW : (st.map fun v => v.category).sum ≤ W) (hf : rm.frames + 1 ≤ R.frames) (hl : W + (maxL + 11) + rm.locals ≤ R.locals) (hc : cells + rm.cells ≤ R.cells) (hs : slots + rm.slots ≤ R.slots) (hd : decode c.code pc = .ok (.invokespecial index, 3)) (hq : pc + 3 = q) (K : ∀ v T' L, Stand p l e R s m args below meth c T' (locs ++ L) (cells + rm.cells) (slots + rm.slots) → Qc v T'.heap L → own_Go p e below P (T'.setTop (mkF m q Ls (v.toList ++ st)))) : own_Go p e below P (T.setTop (mkF m pc Ls st0)) := by
  subst hq hst
  obtain ⟨v, _, ⟨T', L', k', n'⟩, -, X', ⟨Lc, hQ, l', y', z'⟩, st'⟩ := X.specialBack hx hy1 hown (mvT hZ w1) (mvT hZ w2) (mvT hZ w4) hy (backOf (W := W) hM hZ w4 w3 hf hl) (g := mkF m pc Ls (argsL.reverse ++ .ref a :: st)) rfl hml (Steps.refl _) (a := a) (argsL := argsL) (rest := st) (lenOf hpd hlen) rfl (by show 2 * 0 + _ ≤ _; omega) hd (fun _ _ => ⟨rfl, eT, hc, hs⟩)
  dsimp only [Pt.U, Pt.locs, Pt.cells, Pt.slots] at X' l' y' z' st' hQ
  subst l' y' z'
  exact own_via (fun t => st'.trans) (K v T' Lc X' hQ)
theorem own_callV (X : Stand p l e R s m args below meth c T locs cells slots) (hx : p.tables.exec = Jvm.exec) {a : Addr} {C : String} {z : MethodName} {Z : State} {a0 : Array Value} {h : Heap} {own : String} {index : Nat} {y : MethodName} {bytes : ByteArray} {maxL : Nat} {ret : Option FieldType} {rm : Room} {W : Nat} {argsL : List Value} {Qc : Option Value → Heap → List Loc → Prop} {ps : List FieldType} {r : Option FieldType} {st0 : List Value} (hZ : Z.Warmed39 s.vm) (hown : s.vm.findClass own = some m.cls) (w1 : (Cond.methodLink own index y).before a0 Z = true) (w2 : (Cond.declares y).before a0 Z = true) (w5 : (Cond.selects y.cls y y).before a0 Z = true) (w6 : (Cond.selects C y z).before a0 Z = true) (w7 : (Cond.instanceMethod z).before a0 Z = true) (w3 : (Cond.initialized z.cls).before a0 Z = true) (w4 : (Cond.code z bytes maxL ret).before a0 Z = true) (E : Exa Z h a C) (hy : y.cls ≠ "java/lang/invoke/MethodHandle" ∧ y.cls ≠ "java/lang/invoke/VarHandle") (hM : MetFree l z (head1 [Cond.code z bytes maxL ret] rm) (fun aa U => aa = (.ref a :: argsL).toArray ∧ Z.Warmed39 U.vm ∧ U.heap = h) (fun _ _ _ _ _ => True) (fun _ U o U' => ∃ v L, o = .returned v ∧ Qc v U'.heap L ∧ FrameEnd U o U' L rm.cells rm.slots)) (hpd : parseMethodDescriptor y.desc = some ⟨ps, r⟩) (hlen : argsL.length = ps.length) (eT : T.heap = h) (hml : Ls.size = c.maxLocals) (hst : st0 = argsL.reverse ++ .ref a :: st) (hW : (st.map fun v => v.category).sum ≤ W) (hf : rm.frames + 1 ≤ R.frames) (hl : W + (maxL + 11) + rm.locals ≤ R.locals) (hc : cells + rm.cells ≤ R.cells) (hs : slots + rm.slots ≤ R.slots) (hd : decode c.code pc = .ok (.invokevirtual index, 3)) (hq : pc + 3 = q) (K : ∀ v T' L, Stand p l e R s m args below meth c T' (locs ++ L) (cells + rm.cells) (slots + rm.slots) → Qc v T'.heap L → own_Go p e below P (T'.setTop (mkF m q Ls (v.toList ++ st)))) : own_Go p e below P (T.setTop (mkF m pc Ls st0)) := by
  subst hq hst
  obtain ⟨cq, kq, qa, qb, qc⟩ := isOf hZ eT E
  obtain ⟨v, _, ⟨T', L', k', n'⟩, -, X', ⟨Lc, hQ, l', y', z'⟩, st'⟩ := X.virtualBack hx (y := y) (z := z) hown (mvT hZ w1) (mvT hZ w2) (notFace_of_selects (args := #[]) (mvT hZ w5)) (mvT hZ w6) (mvT hZ w7) hy (backOf (W := W) hM hZ w4 w3 hf hl) qa qc (g := mkF m pc Ls (argsL.reverse ++ .ref a :: st)) rfl hml (Steps.refl _) (argsL := argsL) (rest := st) (lenOf hpd hlen) rfl (by show 2 * 0 + _ ≤ _; omega) hd (fun _ _ => ⟨rfl, eT, hc, hs⟩)
  dsimp only [Pt.U, Pt.locs, Pt.cells, Pt.slots] at X' l' y' z' st' hQ
  subst l' y' z'
  exact own_via (fun t => st'.trans) (K v T' Lc X' hQ)
theorem own_new (X : Stand p l e R s m args below meth c T locs cells slots) (hx : p.tables.exec = Jvm.exec) {Z : State} {a0 : Array Value} {h : Heap} (hZ : Z.Warmed39 s.vm) {own : String} {i : Nat} (hown : s.vm.findClass own = some m.cls) {C : String} {n : Nat} (w : (Cond.classLink own i C).before a0 Z = true) (wi : (Cond.instantiable C n).before a0 Z = true) (wz : (Cond.initialized C).before a0 Z = true) (eT : T.heap = h) (hd : decode c.code pc = .ok (.new i, 3)) (hc : cells + 1 ≤ R.cells) (hl : slots + n ≤ R.slots) (hq : pc + 3 = q) (K : ∀ T' h' a, Stand p l e R s m args below meth c T' locs (cells + 1) (slots + n) → T'.heap = h' → a = h.size → Ext h h' → Exa Z h' a C → (∀ {O nm d : String} {ty : FieldType}, Laid Z a0 C O nm d → parseFieldDescriptor d = some ty → Fld Z h' a O nm d (defaultValue ty)) → own_Go p e below P (T'.setTop (mkF m q Ls (.ref a :: st)))) : own_Go p e below P (T.setTop (mkF m pc Ls st)) := by
  subst hq
  obtain ⟨T', h', X', e', E', A', D', -, st'⟩ := newO X hx hZ hown w wi wz eT (g := mkF m pc Ls st) rfl hd hc hl
  exact own_via (fun t => st' t) (K T' h' _ X' e' rfl E' A' D')
theorem own_getF (X : Stand p l e R s m args below meth c T locs cells slots) (hx : p.tables.exec = Jvm.exec) {Z : State} {a0 : Array Value} {h : Heap} (hZ : Z.Warmed39 s.vm) {own : String} {i : Nat} (hown : s.vm.findClass own = some m.cls) {a : Addr} {v : Value} {R0 O n d host : String} (w : (Cond.fieldLink own i R0 n d).before a0 Z = true ∨ (Cond.fieldLinkNest own i R0 n d host).before a0 Z = true) (via : Via Z R0 O n d) (eT : T.heap = h) (F : Fld Z h a O n d v) (hd : decode c.code pc = .ok (.getfield i, 3)) (hq : pc + 3 = q) (K : ∀ T', Stand p l e R s m args below meth c T' locs cells slots → T'.heap = h → own_Go p e below P (T'.setTop (mkF m q Ls (v :: st)))) : own_Go p e below P (T.setTop (mkF m pc Ls (.ref a :: st))) := by
  subst hq
  obtain ⟨T', X', e', st'⟩ := getF X hx hZ hown w via eT F (g := mkF m pc Ls (.ref a :: st)) rfl rfl hd
  exact own_via (fun t => st' t) (K T' X' e')
theorem own_putF (X : Stand p l e R s m args below meth c T locs cells slots) (hx : p.tables.exec = Jvm.exec) {Z : State} {a0 : Array Value} {h : Heap} (hZ : Z.Warmed39 s.vm) {own : String} {i : Nat} (hown : s.vm.findClass own = some m.cls) {a : Addr} {v old : Value} {R0 O n d host C : String} {kk : Nat} {ty : FieldType} (w : (Cond.fieldLink own i R0 n d).before a0 Z = true ∨ (Cond.fieldLinkNest own i R0 n d host).before a0 Z = true) (via : Via Z R0 O n d) (eT : T.heap = h) (F : Fld Z h a O n d old) (E : Exa Z h a C) (L : (Cond.lays C O n d).before a0 Z = true ∨ ((Cond.laysFinal C O n d).before a0 Z = true ∧ own = O ∧ meth.name = "<init>")) (wi : (Cond.instantiable C kk).before a0 Z = true) (hty : parseFieldDescriptor d = some ty) (hn : narrow ty v = v) (hf : fits ty v = true) (hd : decode c.code pc = .ok (.putfield i, 3)) (hq : pc + 3 = q) (K : ∀ T' h', Stand p l e R s m args below meth c T' (locs ++ [⟨a, RoadKit.slotOf Z O n d⟩]) cells slots → T'.heap = h' → Wr h h' a (RoadKit.slotOf Z O n d) v → own_Go p e below P (T'.setTop (mkF m q Ls st))) : own_Go p e below P (T.setTop (mkF m pc Ls (v :: .ref a :: st))) := by
  subst hq
  obtain ⟨T', h', X', e', W', st'⟩ := putF X hx hZ hown w via eT F E L wi hty hn hf (g := mkF m pc Ls (v :: .ref a :: st)) rfl rfl hd
  exact own_via (fun t => st' t) (K T' h' X' e' W')
theorem own_initO (X : Stand p l e R s m args below meth c T locs cells slots) (hx : p.tables.exec = Jvm.exec) {Z : State} {a0 : Array Value} {h : Heap} (hZ : Z.Warmed39 s.vm) {own : String} {i : Nat} (hown : s.vm.findClass own = some m.cls) {a : Addr} {W : Nat} (w1 : (Cond.methodLink own i Lib.objectInit).before a0 Z = true) (w2 : (Cond.instanceMethod Lib.objectInit).before a0 Z = true) (w3 : (Cond.code Lib.objectInit ⟨#[0xb1]⟩ 1 none).before a0 Z = true) (eT : T.heap = h) (hml : Ls.size = c.maxLocals) (hf : 1 ≤ R.frames) (hW : (st.map fun v => v.category).sum ≤ W) (hl : W + 12 ≤ R.locals) (hd : decode c.code pc = .ok (.invokespecial i, 3)) (hq : pc + 3 = q) (K : ∀ T', Stand p l e R s m args below meth c T' locs cells slots → T'.heap = h → own_Go p e below P (T'.setTop (mkF m q Ls st))) : own_Go p e below P (T.setTop (mkF m pc Ls (.ref a :: st))) := by
  subst hq
  obtain ⟨T', X', e', st'⟩ := initO X hx hZ hown w1 w2 w3 eT (g := mkF m pc Ls (.ref a :: st)) rfl hml rfl hd hf (W := W) (by show 2 * 0 + _ ≤ _; omega) hl
  exact own_via (fun t => st' t) (K T' X' e')
theorem own_getS (X : Stand p l e R s m args below meth c T locs cells slots) (hx : p.tables.exec = Jvm.exec) {Z : State} {a0 : Array Value} {h : Heap} (hZ : Z.Warmed39 s.vm) {own : String} {i : Nat} (hown : s.vm.findClass own = some m.cls) {v : Value} {R0 O n d : String} (w : (Cond.fieldLink own i R0 n d).before a0 Z = true) (via : Via Z R0 O n d) (eT : T.heap = h) (F : Sta Z h O n d v) (hd : decode c.code pc = .ok (.getstatic i, 3)) (hq : pc + 3 = q) (K : ∀ T', Stand p l e R s m args below meth c T' locs cells slots → T'.heap = h → own_Go p e below P (T'.setTop (mkF m q Ls (v :: st)))) : own_Go p e below P (T.setTop (mkF m pc Ls st)) := by
  subst hq
  obtain ⟨T', X', e', st'⟩ := getS X hx hZ (host := "") hown w via eT F (g := mkF m pc Ls st) rfl hd
  exact own_via (fun t => st' t) (K T' X' e')
def own_V (h : Heap) (v : Option Value) (h' : Heap) (L : List Loc) : Prop := v = none ∧ h' = h ∧ L = []
def own_Like (X : Stand p l e R s m args below meth c T locs cells slots) (T' : State) : Prop := Stand p l e R s m args below meth c T' locs cells slots ∧ T'.heap = T.heap
def own_A (Z : State) (h : Heap) (a : Addr) (ty : FieldType) (vs : List Value) : Prop := ∃ c : Cell, Arr Z h a c ty ∧ c.slots.toList = vs
theorem own_A.lt {Z : State} {h : Heap} {a : Addr} {ty : FieldType} {vs : List Value} (F : own_A Z h a ty vs) : a < h.size := by obtain ⟨c, A, -⟩ := F; exact A.lt
theorem own_A.ext {Z : State} {h h' : Heap} {a : Addr} {ty : FieldType} {vs : List Value} (F : own_A Z h a ty vs) (E : Ext h h') : own_A Z h' a ty vs := by obtain ⟨c, A, r⟩ := F; exact ⟨c, A.ext E, r⟩
theorem own_A.other {Z : State} {h h' : Heap} {a b : Addr} {ty : FieldType} {vs : List Value} {sl : Nat} {v : Value} (F : own_A Z h b ty vs) (W : Wr h h' a sl v) (q : b ≠ a) : own_A Z h' b ty vs := by obtain ⟨c, A, r⟩ := F; exact ⟨c, A.other W q, r⟩
theorem own_A.keep {Z : State} {h h' : Heap} {a : Addr} {ty : FieldType} {vs : List Value} {ws : List Addr} (F : own_A Z h a ty vs) (K : Keep h h' ws) (q : a ∉ ws) : own_A Z h' a ty vs := by obtain ⟨c, A, r⟩ := F; exact ⟨c, ⟨K.2.1 a c A.1 q, A.2⟩, r⟩
theorem own_A.set {Z : State} {h h' : Heap} {a : Addr} {ty : FieldType} {vs : List Value} {i : Nat} {v : Value} (F : own_A Z h a ty vs) (W : Wr h h' a i v) : own_A Z h' a ty (vs.set i v) := by
  obtain ⟨c, A, rfl⟩ := F; exact ⟨_, A.same W, by simp [Cell.setSlot]⟩
theorem own_in {c : Cell} {j : Int32} {i : Nat} (hn : ¬ j < 0) (hj : j.toNatClampNeg = i) (hi : i < c.slots.toList.length) : ¬ (j < 0 ∨ c.slots.size ≤ j.toNatClampNeg) := by
  rintro (h | h)
  · exact hn h
  · rw [hj] at h; rw [Array.length_toList] at hi; exact absurd hi (Nat.not_lt.mpr h)
theorem own_iaload (X : Stand p l e R s m args below meth c T locs cells slots) (hx : p.tables.exec = Jvm.exec) {Z : State} {h : Heap} (hZ : Z.Warmed39 s.vm) {a : Addr} {j : Int32} {i : Nat} {vs : List Value} (eT : T.heap = h) {v : Value} (F : own_A Z h a .int vs) (hn : ¬ j < 0) (hj : j.toNatClampNeg = i) (hv : vs[i]? = some v) (hd : decode c.code pc = .ok (.iaload, 1)) (hq : pc + 1 = q) (K : own_Go p e below P (T.setTop (mkF m q Ls (v :: st)))) : own_Go p e below P (T.setTop (mkF m pc Ls (.int j :: .ref a :: st))) := by
  subst hq
  obtain ⟨cl, A, rfl⟩ := F
  have hv' : cl.slots[j.toNatClampNeg]? = some v := by rw [hj, ← Array.getElem?_toList]; exact hv
  have hin := own_in (c := cl) hn hj (List.getElem?_eq_some_iff.mp hv).1
  exact own_via (fun t => X.iaload hx (by rw [eT]; exact A.1) (State.isArrayOf_alike hZ.alike A.2.1) A.2.2 hin hv' (g := mkF m pc Ls (.int j :: .ref a :: st)) rfl rfl hd t) K
theorem own_laload (X : Stand p l e R s m args below meth c T locs cells slots) (hx : p.tables.exec = Jvm.exec) {Z : State} {h : Heap} (hZ : Z.Warmed39 s.vm) {a : Addr} {j : Int32} {i : Nat} {vs : List Value} (eT : T.heap = h) {v : Value} (F : own_A Z h a .long vs) (hn : ¬ j < 0) (hj : j.toNatClampNeg = i) (hv : vs[i]? = some v) (hd : decode c.code pc = .ok (.laload, 1)) (hq : pc + 1 = q) (K : own_Go p e below P (T.setTop (mkF m q Ls (v :: st)))) : own_Go p e below P (T.setTop (mkF m pc Ls (.int j :: .ref a :: st))) := by
  subst hq
  obtain ⟨cl, A, rfl⟩ := F
  have hv' : cl.slots[j.toNatClampNeg]? = some v := by rw [hj, ← Array.getElem?_toList]; exact hv
  have hin := own_in (c := cl) hn hj (List.getElem?_eq_some_iff.mp hv).1
  exact own_via (fun t => X.laload hx (by rw [eT]; exact A.1) (State.isArrayOf_alike hZ.alike A.2.1) A.2.2 hin hv' (g := mkF m pc Ls (.int j :: .ref a :: st)) rfl rfl hd t) K
theorem own_caload (X : Stand p l e R s m args below meth c T locs cells slots) (hx : p.tables.exec = Jvm.exec) {Z : State} {h : Heap} (hZ : Z.Warmed39 s.vm) {a : Addr} {j : Int32} {i : Nat} {vs : List Value} (eT : T.heap = h) {v : Value} (F : own_A Z h a .char vs) (hn : ¬ j < 0) (hj : j.toNatClampNeg = i) (hv : vs[i]? = some v) (hd : decode c.code pc = .ok (.caload, 1)) (hq : pc + 1 = q) (K : own_Go p e below P (T.setTop (mkF m q Ls (v :: st)))) : own_Go p e below P (T.setTop (mkF m pc Ls (.int j :: .ref a :: st))) := by
  subst hq
  obtain ⟨cl, A, rfl⟩ := F
  have hv' : cl.slots[j.toNatClampNeg]? = some v := by rw [hj, ← Array.getElem?_toList]; exact hv
  have hin := own_in (c := cl) hn hj (List.getElem?_eq_some_iff.mp hv).1
  exact own_via (fun t => X.caload hx (by rw [eT]; exact A.1) (State.isArrayOf_alike hZ.alike A.2.1) A.2.2 hin hv' (g := mkF m pc Ls (.int j :: .ref a :: st)) rfl rfl hd t) K
theorem own_baload (X : Stand p l e R s m args below meth c T locs cells slots) (hx : p.tables.exec = Jvm.exec) {Z : State} {h : Heap} (hZ : Z.Warmed39 s.vm) {a : Addr} {j : Int32} {i : Nat} {vs : List Value} (eT : T.heap = h) {v : Value} (F : own_A Z h a .byte vs) (hn : ¬ j < 0) (hj : j.toNatClampNeg = i) (hv : vs[i]? = some v) (hd : decode c.code pc = .ok (.baload, 1)) (hq : pc + 1 = q) (K : own_Go p e below P (T.setTop (mkF m q Ls (v :: st)))) : own_Go p e below P (T.setTop (mkF m pc Ls (.int j :: .ref a :: st))) := by
  subst hq
  obtain ⟨cl, A, rfl⟩ := F
  have hv' : cl.slots[j.toNatClampNeg]? = some v := by rw [hj, ← Array.getElem?_toList]; exact hv
  have hin := own_in (c := cl) hn hj (List.getElem?_eq_some_iff.mp hv).1
  exact own_via (fun t => X.baloadBytes hx (by rw [eT]; exact A.1) (State.isArrayOf_alike hZ.alike A.2.1) A.2.2 hin hv' (g := mkF m pc Ls (.int j :: .ref a :: st)) rfl rfl hd t) K
theorem own_zaload (X : Stand p l e R s m args below meth c T locs cells slots) (hx : p.tables.exec = Jvm.exec) {Z : State} {h : Heap} (hZ : Z.Warmed39 s.vm) {a : Addr} {j : Int32} {i : Nat} {vs : List Value} (eT : T.heap = h) {v : Value} (F : own_A Z h a .boolean vs) (hn : ¬ j < 0) (hj : j.toNatClampNeg = i) (hv : vs[i]? = some v) (hd : decode c.code pc = .ok (.baload, 1)) (hq : pc + 1 = q) (K : own_Go p e below P (T.setTop (mkF m q Ls (v :: st)))) : own_Go p e below P (T.setTop (mkF m pc Ls (.int j :: .ref a :: st))) := by
  subst hq
  obtain ⟨cl, A, rfl⟩ := F
  have hv' : cl.slots[j.toNatClampNeg]? = some v := by rw [hj, ← Array.getElem?_toList]; exact hv
  have hin := own_in (c := cl) hn hj (List.getElem?_eq_some_iff.mp hv).1
  exact own_via (fun t => X.baloadBooleans hx (by rw [eT]; exact A.1) (State.isArrayOf_alike hZ.alike A.2.1) A.2.2 hin hv' (g := mkF m pc Ls (.int j :: .ref a :: st)) rfl rfl hd t) K
theorem own_alen (X : Stand p l e R s m args below meth c T locs cells slots) (hx : p.tables.exec = Jvm.exec) {Z : State} {h : Heap} (hZ : Z.Warmed39 s.vm) {a : Addr} {vs : List Value} {ty : FieldType} {n : Int32} (eT : T.heap = h) (F : own_A Z h a ty vs) (hn : vs.length.toInt32 = n) (hd : decode c.code pc = .ok (.arraylength, 1)) (hq : pc + 1 = q) (K : own_Go p e below P (T.setTop (mkF m q Ls (.int n :: st)))) : own_Go p e below P (T.setTop (mkF m pc Ls (.ref a :: st))) := by
  subst hq
  obtain ⟨cl, A, rfl⟩ := F
  rw [Array.length_toList] at hn
  subst hn
  exact own_via (fun t => X.arraylength hx (by rw [eT]; exact A.1) (State.isArrayOf_alike hZ.alike A.2.1) (g := mkF m pc Ls (.ref a :: st)) rfl rfl hd t) K
theorem own_iastore (X : Stand p l e R s m args below meth c T locs cells slots) (hx : p.tables.exec = Jvm.exec) {Z : State} {h : Heap} (hZ : Z.Warmed39 s.vm) {a : Addr} {j : Int32} {i : Nat} {vs : List Value} (eT : T.heap = h) {x : Int32} (F : own_A Z h a .int vs) (hn : ¬ j < 0) (hj : j.toNatClampNeg = i) (hi : i < vs.length) (hd : decode c.code pc = .ok (.iastore, 1)) (hq : pc + 1 = q) (K : ∀ T' h', Stand p l e R s m args below meth c T' (locs ++ [⟨a, i⟩]) cells slots → T'.heap = h' → Wr h h' a i (.int x) → own_A Z h' a .int (vs.set i (.int x)) → own_Go p e below P (T'.setTop (mkF m q Ls st))) : own_Go p e below P (T.setTop (mkF m pc Ls (.int x :: .int j :: .ref a :: st))) := by
  subst hq hj
  have F' := F
  obtain ⟨cl, A, rfl⟩ := F
  have hin := own_in (c := cl) hn rfl hi
  obtain ⟨T', h', X', e', W', st'⟩ := stI X hx hZ eT A hin (g := mkF m pc Ls (.int x :: .int j :: .ref a :: st)) rfl rfl hd
  exact own_via (fun t => st' t) (K T' h' X' e' W' (F'.set W'))
theorem own_lastore (X : Stand p l e R s m args below meth c T locs cells slots) (hx : p.tables.exec = Jvm.exec) {Z : State} {h : Heap} (hZ : Z.Warmed39 s.vm) {a : Addr} {j : Int32} {i : Nat} {vs : List Value} (eT : T.heap = h) {x : Int64} (F : own_A Z h a .long vs) (hn : ¬ j < 0) (hj : j.toNatClampNeg = i) (hi : i < vs.length) (hd : decode c.code pc = .ok (.lastore, 1)) (hq : pc + 1 = q) (K : ∀ T' h', Stand p l e R s m args below meth c T' (locs ++ [⟨a, i⟩]) cells slots → T'.heap = h' → Wr h h' a i (.long x) → own_A Z h' a .long (vs.set i (.long x)) → own_Go p e below P (T'.setTop (mkF m q Ls st))) : own_Go p e below P (T.setTop (mkF m pc Ls (.long x :: .int j :: .ref a :: st))) := by
  subst hq hj
  have F' := F
  obtain ⟨cl, A, rfl⟩ := F
  have hin := own_in (c := cl) hn rfl hi
  obtain ⟨T', h', X', e', W', st'⟩ := stJ X hx hZ eT A hin (g := mkF m pc Ls (.long x :: .int j :: .ref a :: st)) rfl rfl hd
  exact own_via (fun t => st' t) (K T' h' X' e' W' (F'.set W'))
theorem own_castore (X : Stand p l e R s m args below meth c T locs cells slots) (hx : p.tables.exec = Jvm.exec) {Z : State} {h : Heap} (hZ : Z.Warmed39 s.vm) {a : Addr} {j : Int32} {i : Nat} {vs : List Value} (eT : T.heap = h) {x : Int32} (F : own_A Z h a .char vs) (hn : ¬ j < 0) (hj : j.toNatClampNeg = i) (hi : i < vs.length) (hd : decode c.code pc = .ok (.castore, 1)) (hq : pc + 1 = q) (K : ∀ T' h', Stand p l e R s m args below meth c T' (locs ++ [⟨a, i⟩]) cells slots → T'.heap = h' → Wr h h' a i (.int (nar .char x)) → own_A Z h' a .char (vs.set i (.int (nar .char x))) → own_Go p e below P (T'.setTop (mkF m q Ls st))) : own_Go p e below P (T.setTop (mkF m pc Ls (.int x :: .int j :: .ref a :: st))) := by
  subst hq hj
  have F' := F
  obtain ⟨cl, A, rfl⟩ := F
  have hin := own_in (c := cl) hn rfl hi
  obtain ⟨T', h', X', e', W', st'⟩ := stC X hx hZ eT A hin (g := mkF m pc Ls (.int x :: .int j :: .ref a :: st)) rfl rfl hd
  exact own_via (fun t => st' t) (K T' h' X' e' W' (F'.set W'))
theorem own_bastore (X : Stand p l e R s m args below meth c T locs cells slots) (hx : p.tables.exec = Jvm.exec) {Z : State} {h : Heap} (hZ : Z.Warmed39 s.vm) {a : Addr} {j : Int32} {i : Nat} {vs : List Value} (eT : T.heap = h) {x : Int32} (F : own_A Z h a .byte vs) (hn : ¬ j < 0) (hj : j.toNatClampNeg = i) (hi : i < vs.length) (hd : decode c.code pc = .ok (.bastore, 1)) (hq : pc + 1 = q) (K : ∀ T' h', Stand p l e R s m args below meth c T' (locs ++ [⟨a, i⟩]) cells slots → T'.heap = h' → Wr h h' a i (.int x.toInt8.toInt32) → own_A Z h' a .byte (vs.set i (.int x.toInt8.toInt32)) → own_Go p e below P (T'.setTop (mkF m q Ls st))) : own_Go p e below P (T.setTop (mkF m pc Ls (.int x :: .int j :: .ref a :: st))) := by
  subst hq hj
  have F' := F
  obtain ⟨cl, A, rfl⟩ := F
  have hin := own_in (c := cl) hn rfl hi
  obtain ⟨T', h', X', e', W', st'⟩ := stB X hx hZ eT A hin (g := mkF m pc Ls (.int x :: .int j :: .ref a :: st)) rfl rfl hd
  exact own_via (fun t => st' t) (K T' h' X' e' W' (F'.set W'))
theorem own_zastore (X : Stand p l e R s m args below meth c T locs cells slots) (hx : p.tables.exec = Jvm.exec) {Z : State} {h : Heap} (hZ : Z.Warmed39 s.vm) {a : Addr} {j : Int32} {i : Nat} {vs : List Value} (eT : T.heap = h) {x : Int32} (F : own_A Z h a .boolean vs) (hn : ¬ j < 0) (hj : j.toNatClampNeg = i) (hi : i < vs.length) (hd : decode c.code pc = .ok (.bastore, 1)) (hq : pc + 1 = q) (K : ∀ T' h', Stand p l e R s m args below meth c T' (locs ++ [⟨a, i⟩]) cells slots → T'.heap = h' → Wr h h' a i (.int (nar .boolean x)) → own_A Z h' a .boolean (vs.set i (.int (nar .boolean x))) → own_Go p e below P (T'.setTop (mkF m q Ls st))) : own_Go p e below P (T.setTop (mkF m pc Ls (.int x :: .int j :: .ref a :: st))) := by
  subst hq hj
  have F' := F
  obtain ⟨cl, A, rfl⟩ := F
  have hin := own_in (c := cl) hn rfl hi
  obtain ⟨T', h', X', e', W', st'⟩ := stZ X hx hZ eT A hin (g := mkF m pc Ls (.int x :: .int j :: .ref a :: st)) rfl rfl hd
  exact own_via (fun t => st' t) (K T' h' X' e' W' (F'.set W'))
theorem own_newA (X : Stand p l e R s m args below meth c T locs cells slots) (hx : p.tables.exec = Jvm.exec) {Z : State} {a0 : Array Value} {h : Heap} (hZ : Z.Warmed39 s.vm) {aty : ArrayType} {ty : FieldType} {n : Int32} {k cap : Nat} (hty : newarray.typeOf aty = ty) (w : (Cond.arrayClass ty).before a0 Z = true) (eT : T.heap = h) (hn : ¬ n < 0) (hk : n.toNatClampNeg = k) (hcap : k ≤ cap) (hb8 : cap * 8 ≤ 536870912) (hc : cells + 1 ≤ R.cells) (hl : slots + cap ≤ R.slots) (hd : decode c.code pc = .ok (.newarray aty, 2)) (hq : pc + 2 = q) (K : ∀ T' h' a, Stand p l e R s m args below meth c T' locs (cells + 1) (slots + cap) → T'.heap = h' → a = h.size → Ext h h' → own_A Z h' a ty (List.replicate k (defaultValue ty)) → own_Go p e below P (T'.setTop (mkF m q Ls (.ref a :: st)))) : own_Go p e below P (T.setTop (mkF m pc Ls (.int n :: st))) := by
  subst hq hty hk
  obtain ⟨T', h', cA, X', e', E', A', st'⟩ := newP X hx hZ w eT (g := mkF m pc Ls (.int n :: st)) rfl hd rfl hn hcap hb8 hc hl
  exact own_via (fun t => st' t) (K T' h' _ X' e' rfl E' ⟨_, A', by simp [newA]⟩)
theorem own_lswHit (X : Stand p l e R s m args below meth c T locs cells slots) (hx : p.tables.exec = Jvm.exec) {k : Int32} {dflt : Int} {prs : Array (Int × Int)} {len : Nat} {v : Int32} {b off : Int} (hk : k = v) (hd : decode c.code pc = .ok (.lookupswitch dflt prs, len)) (hs : (prs.toList.zip (prs.toList.drop 1)).all (fun (a, next) => a.1 < next.1) = true) (hf : prs.find? (·.1 == v.toInt) = some (b, off)) (ho : 0 ≤ (pc : Int) + off) (hp : ((pc : Int) + off).toNat = q) (K : own_Go p e below P (T.setTop (mkF m q Ls st))) : own_Go p e below P (T.setTop (mkF m pc Ls (.int k :: st))) := by
  subst hk hp; exact own_via (fun t => X.lookupswitchHit hx (g := mkF m pc Ls (.int k :: st)) rfl rfl hd hs hf ho t) K
theorem own_lswMiss (X : Stand p l e R s m args below meth c T locs cells slots) (hx : p.tables.exec = Jvm.exec) {k : Int32} {dflt : Int} {prs : Array (Int × Int)} {len : Nat} (hm : prs.find? (·.1 == k.toInt) = none) (hd : decode c.code pc = .ok (.lookupswitch dflt prs, len)) (hs : (prs.toList.zip (prs.toList.drop 1)).all (fun (a, next) => a.1 < next.1) = true) (ho : 0 ≤ (pc : Int) + dflt) (hp : ((pc : Int) + dflt).toNat = q) (K : own_Go p e below P (T.setTop (mkF m q Ls st))) : own_Go p e below P (T.setTop (mkF m pc Ls (.int k :: st))) := by
  subst hp; exact own_via (fun t => X.lookupswitchMiss hx (g := mkF m pc Ls (.int k :: st)) rfl rfl hd hs hm ho t) K
theorem own_instY (X : Stand p l e R s m args below meth c T locs cells slots) (hx : p.tables.exec = Jvm.exec) {Z : State} {a0 : Array Value} {h : Heap} (hZ : Z.Warmed39 s.vm) {own : String} {i : Nat} (hown : s.vm.findClass own = some m.cls) {a : Addr} {K0 : String} (w : (Cond.classLink own i K0).before a0 Z = true) (eT : T.heap = h) (F : Ins Z h a K0 true) (hd : decode c.code pc = .ok (.instanceof i, 3)) (hq : pc + 3 = q) (K : ∀ T', Stand p l e R s m args below meth c T' locs cells slots → T'.heap = h → own_Go p e below P (T'.setTop (mkF m q Ls (.int 1 :: st)))) : own_Go p e below P (T.setTop (mkF m pc Ls (.ref a :: st))) := by
  subst hq
  obtain ⟨T', X', e', st'⟩ := instY X hx hZ hown w eT F (g := mkF m pc Ls (.ref a :: st)) rfl rfl hd
  exact own_via (fun t => st' t) (K T' X' e')
theorem own_instN (X : Stand p l e R s m args below meth c T locs cells slots) (hx : p.tables.exec = Jvm.exec) {Z : State} {a0 : Array Value} {h : Heap} (hZ : Z.Warmed39 s.vm) {own : String} {i : Nat} (hown : s.vm.findClass own = some m.cls) {a : Addr} {K0 C : String} (w : (Cond.classLink own i K0).before a0 Z = true) (eT : T.heap = h) (E : Exa Z h a C) (F : ∃ c t, Z.vm.findClass C = some c ∧ Z.vm.findClass K0 = some t ∧ Z.vm.assignable c t = false) (hd : decode c.code pc = .ok (.instanceof i, 3)) (hq : pc + 3 = q) (K : ∀ T', Stand p l e R s m args below meth c T' locs cells slots → T'.heap = h → own_Go p e below P (T'.setTop (mkF m q Ls (.int 0 :: st)))) : own_Go p e below P (T.setTop (mkF m pc Ls (.ref a :: st))) := by
  subst hq
  obtain ⟨T', X', e', st'⟩ := instNo X hx hZ hown w eT E F (g := mkF m pc Ls (.ref a :: st)) rfl rfl hd
  exact own_via (fun t => st' t) (K T' X' e')
theorem own_cast (X : Stand p l e R s m args below meth c T locs cells slots) (hx : p.tables.exec = Jvm.exec) {Z : State} {a0 : Array Value} {h : Heap} (hZ : Z.Warmed39 s.vm) {own : String} {i : Nat} (hown : s.vm.findClass own = some m.cls) {a : Addr} {K0 : String} (w : (Cond.classLink own i K0).before a0 Z = true) (eT : T.heap = h) (F : Ins Z h a K0 true) (hd : decode c.code pc = .ok (.checkcast i, 3)) (hq : pc + 3 = q) (K : ∀ T', Stand p l e R s m args below meth c T' locs cells slots → T'.heap = h → own_Go p e below P (T'.setTop (mkF m q Ls (.ref a :: st)))) : own_Go p e below P (T.setTop (mkF m pc Ls (.ref a :: st))) := by
  subst hq
  obtain ⟨T', X', e', st'⟩ := castY X hx hZ hown w eT F (g := mkF m pc Ls (.ref a :: st)) rfl rfl hd
  exact own_via (fun t => st' t) (K T' X' e')
theorem own_inst0 (X : Stand p l e R s m args below meth c T locs cells slots) (hx : p.tables.exec = Jvm.exec) {i : Nat} (hd : decode c.code pc = .ok (.instanceof i, 3)) (hq : pc + 3 = q) (K : own_Go p e below P (T.setTop (mkF m q Ls (.int 0 :: st)))) : own_Go p e below P (T.setTop (mkF m pc Ls (.null :: st))) := by
  subst hq; exact own_via (fun t => X.instanceofNull hx (g := mkF m pc Ls (.null :: st)) rfl (rest := st) rfl hd t) K
theorem own_staKeep {Z : State} {h h' : Heap} {ws : List Addr} {C n d : String} {v : Value} (F : Sta Z h C n d v) (K : Keep h h' ws) (q : ∀ a ∈ ws, ∀ c : Cell, h[a]? = some c → c.vm.isStatics = false) : Sta Z h' C n d v := by
  obtain ⟨cf, i, k, f, st, cell, h1, h2, h3, h4, h5, h6, h7⟩ := F
  exact ⟨cf, i, k, f, st, cell, h1, h2, h3, h4, K.2.1 st cell h5 (fun hm => by rw [q st hm cell h5] at h6; cases h6), h6, h7⟩
theorem own_exaPlain {Z : State} {h : Heap} {a : Addr} {C : String} (E : Exa Z h a C) : ∀ c : Cell, h[a]? = some c → c.vm.isStatics = false := fun c hc => by
  obtain ⟨cell, k, h1, -, -, h4, -⟩ := E
  cases h1.symm.trans hc; exact h4
theorem own_A.plain {Z : State} {h : Heap} {a : Addr} {ty : FieldType} {vs : List Value} (F : own_A Z h a ty vs) : ∀ c : Cell, h[a]? = some c → c.vm.isStatics = false := fun c hc => by
  obtain ⟨cl, A, -⟩ := F
  cases A.1.symm.trans hc; exact A.plain
theorem own_callCB (X : Stand p l e R s m args below meth c T locs cells slots) (hx : p.tables.exec = Jvm.exec) {a : Addr} {Z : State} {a0 : Array Value} {h : Heap} {own : String} {index : Nat} {y : MethodName} {bytes : ByteArray} {maxL : Nat} {k1 k2 : Nat} {W : Nat} {argsL : List Value} {Qc : Option Value → Heap → List Loc → Prop} {ps : List FieldType} {r : Option FieldType} {st0 : List Value} (hZ : Z.Warmed39 s.vm) (hown : s.vm.findClass own = some m.cls) (hy1 : y.name = "<init>") (w1 : (Cond.methodLink own index y).before a0 Z = true) (w2 : (Cond.instanceMethod y).before a0 Z = true) (w4 : (Cond.code y bytes maxL none).before a0 Z = true) (hy : y.cls ≠ "java/lang/invoke/MethodHandle" ∧ y.cls ≠ "java/lang/invoke/VarHandle") (hK : Back l R p e below s args y 3 W (fun P aa => aa = (.ref a :: argsL).toArray ∧ P.U.heap = h ∧ P.cells + k1 ≤ R.cells ∧ P.slots + k2 ≤ R.slots) (fun P _ v B => ∃ L, Qc v B.U.heap L ∧ B.locs = P.locs ++ L ∧ B.cells = P.cells + k1 ∧ B.slots = P.slots + k2)) (hpd : parseMethodDescriptor y.desc = some ⟨ps, r⟩) (hlen : argsL.length = ps.length) (eT : T.heap = h) (hml : Ls.size = c.maxLocals) (hst : st0 = argsL.reverse ++ .ref a :: st) (hW : (st.map fun v => v.category).sum ≤ W) (hc : cells + k1 ≤ R.cells) (hs : slots + k2 ≤ R.slots) (hd : decode c.code pc = .ok (.invokespecial index, 3)) (hq : pc + 3 = q) (K : ∀ v T' L, Stand p l e R s m args below meth c T' (locs ++ L) (cells + k1) (slots + k2) → Qc v T'.heap L → own_Go p e below P (T'.setTop (mkF m q Ls (v.toList ++ st)))) : own_Go p e below P (T.setTop (mkF m pc Ls st0)) := by
  subst hq hst
  obtain ⟨v, _, ⟨T', L', k', n'⟩, -, X', ⟨Lc, hQ, l', y', z'⟩, st'⟩ := X.specialBack hx hy1 hown (mvT hZ w1) (mvT hZ w2) (mvT hZ w4) hy hK (g := mkF m pc Ls (argsL.reverse ++ .ref a :: st)) rfl hml (Steps.refl _) (a := a) (argsL := argsL) (rest := st) (lenOf hpd hlen) rfl (by show 2 * 0 + _ ≤ _; omega) hd (fun _ _ => ⟨rfl, eT, hc, hs⟩)
  dsimp only [Pt.U, Pt.locs, Pt.cells, Pt.slots] at X' l' y' z' st' hQ
  subst l' y' z'
  exact own_via (fun t => st'.trans) (K v T' Lc X' hQ)
theorem own_A.arv {Z : State} {h : Heap} {a : Addr} {ty : FieldType} {vs : List Value} {N : Int32} {d : Value} (F : own_A Z h a ty vs) (hN : N.toNatClampNeg = vs.length) (hn : ¬ N < 0) (hf : ∀ v ∈ vs, fits ty v = true) : ∃ k, Arv Z h a k ty N vs d := by
  obtain ⟨c, A, rfl⟩ := F
  rw [Array.length_toList] at hN
  have key : ∀ i, i < c.slots.size → c.slots.toList.getD i d = c.slots[i]! ∧ c.slots[i]? = some (c.slots.toList.getD i d) ∧ c.slots.toList.getD i d ∈ c.slots.toList := fun i hi => by
    have h1 : c.slots.toList[i]? = some c.slots[i] := by rw [Array.getElem?_toList]; exact Array.getElem?_eq_getElem hi
    have h2 : c.slots.toList.getD i d = c.slots[i] := by rw [List.getD_eq_getElem?_getD, h1]; rfl
    refine ⟨by rw [h2, getElem!_pos c.slots i hi], by rw [h2]; exact Array.getElem?_eq_getElem hi, ?_⟩
    rw [h2]; exact Array.getElem_mem_toList hi
  exact ⟨c.cls, c, A, rfl, hN.symm, hn, fun i hi => (key i hi).2.1, fun i hi => hf _ (key i hi).2.2⟩
theorem own_A.of_arv {Z : State} {h : Heap} {a : Addr} {k : ClassId} {ty : FieldType} {vs : List Value} {N : Int32} {d : Value} (F : Arv Z h a k ty N vs d) (hN : N.toNatClampNeg = vs.length) : own_A Z h a ty vs := by
  obtain ⟨c, A, -, S, -, H, -⟩ := F
  refine ⟨c, A, List.ext_getElem? fun i => ?_⟩
  rw [Array.getElem?_toList]
  by_cases hi : i < c.slots.size
  · have hj : i < vs.length := by rw [← hN, ← S]; exact hi
    rw [H i hi, List.getD_eq_getElem?_getD, List.getElem?_eq_getElem hj]; rfl
  · have hj : ¬ i < vs.length := by rw [← hN, ← S]; exact hi
    rw [Array.getElem?_eq_none (Nat.le_of_not_lt hi), List.getElem?_eq_none (Nat.le_of_not_lt hj)]
theorem own_callSP (X : Stand p l e R s m args below meth c T locs cells slots) (hx : p.tables.exec = Jvm.exec) {Z : State} {a0 : Array Value} {h : Heap} {own : String} {index : Nat} {y : MethodName} {bytes : ByteArray} {maxL : Nat} {ret : Option FieldType} {W : Nat} {argsL : List Value} {fr lo : Nat} {w : Value} {ps : List FieldType} {r : Option FieldType} {st0 : List Value} (hZ : Z.Warmed39 s.vm) (hown : s.vm.findClass own = some m.cls) (w1 : (Cond.methodLink own index y).before a0 Z = true) (w2 : (Cond.static y).before a0 Z = true) (w3 : (Cond.initialized y.cls).before a0 Z = true) (w4 : (Cond.code y bytes maxL ret).before a0 Z = true) (hy : y.cls ≠ "java/lang/invoke/MethodHandle" ∧ y.cls ≠ "java/lang/invoke/VarHandle") (hM : MetFree l y (head1 [Cond.code y bytes maxL ret] ({ frames := fr, cells := 0, slots := 0, locals := lo } : Room)) (fun aa U => aa = argsL.toArray ∧ Z.Warmed39 U.vm ∧ U.heap = h) (fun _ _ _ _ _ => True) (fun _ U o U' => ∃ v L, o = .returned v ∧ own_P w h v U'.heap L ∧ FrameEnd U o U' L 0 0)) (hpd : parseMethodDescriptor y.desc = some ⟨ps, r⟩) (hlen : argsL.length = ps.length) (eT : T.heap = h) (hml : Ls.size = c.maxLocals) (hst : st0 = argsL.reverse ++ st) (hW : (st.map fun v => v.category).sum ≤ W) (hf : fr + 1 ≤ R.frames) (hl : W + (maxL + 11) + lo ≤ R.locals) (hc : cells ≤ R.cells) (hs : slots ≤ R.slots) (hd : decode c.code pc = .ok (.invokestatic index, 3)) (hq : pc + 3 = q) (K : ∀ T', Stand p l e R s m args below meth c T' locs cells slots → T'.heap = h → own_Go p e below P (T'.setTop (mkF m q Ls (w :: st)))) : own_Go p e below P (T.setTop (mkF m pc Ls st0)) := by
  refine own_callS X hx hZ hown w1 w2 w3 w4 hy hM hpd hlen eT hml hst hW hf hl hc hs hd hq fun v T' L X' hQ => ?_
  obtain ⟨rfl, eh, rfl⟩ := hQ
  rw [List.append_nil] at X'
  exact K T' X' eh
theorem own_callVP (X : Stand p l e R s m args below meth c T locs cells slots) (hx : p.tables.exec = Jvm.exec) {a : Addr} {C : String} {z : MethodName} {Z : State} {a0 : Array Value} {h : Heap} {own : String} {index : Nat} {y : MethodName} {bytes : ByteArray} {maxL : Nat} {ret : Option FieldType} {W : Nat} {argsL : List Value} {fr lo : Nat} {w : Value} {ps : List FieldType} {r : Option FieldType} {st0 : List Value} (hZ : Z.Warmed39 s.vm) (hown : s.vm.findClass own = some m.cls) (w1 : (Cond.methodLink own index y).before a0 Z = true) (w2 : (Cond.declares y).before a0 Z = true) (w5 : (Cond.selects y.cls y y).before a0 Z = true) (w6 : (Cond.selects C y z).before a0 Z = true) (w7 : (Cond.instanceMethod z).before a0 Z = true) (w3 : (Cond.initialized z.cls).before a0 Z = true) (w4 : (Cond.code z bytes maxL ret).before a0 Z = true) (E : Exa Z h a C) (hy : y.cls ≠ "java/lang/invoke/MethodHandle" ∧ y.cls ≠ "java/lang/invoke/VarHandle") (hM : MetFree l z (head1 [Cond.code z bytes maxL ret] ({ frames := fr, cells := 0, slots := 0, locals := lo } : Room)) (fun aa U => aa = (.ref a :: argsL).toArray ∧ Z.Warmed39 U.vm ∧ U.heap = h) (fun _ _ _ _ _ => True) (fun _ U o U' => ∃ v L, o = .returned v ∧ own_P w h v U'.heap L ∧ FrameEnd U o U' L 0 0)) (hpd : parseMethodDescriptor y.desc = some ⟨ps, r⟩) (hlen : argsL.length = ps.length) (eT : T.heap = h) (hml : Ls.size = c.maxLocals) (hst : st0 = argsL.reverse ++ .ref a :: st) (hW : (st.map fun v => v.category).sum ≤ W) (hf : fr + 1 ≤ R.frames) (hl : W + (maxL + 11) + lo ≤ R.locals) (hc : cells ≤ R.cells) (hs : slots ≤ R.slots) (hd : decode c.code pc = .ok (.invokevirtual index, 3)) (hq : pc + 3 = q) (K : ∀ T', Stand p l e R s m args below meth c T' locs cells slots → T'.heap = h → own_Go p e below P (T'.setTop (mkF m q Ls (w :: st)))) : own_Go p e below P (T.setTop (mkF m pc Ls st0)) := by
  refine own_callV X hx hZ hown w1 w2 w5 w6 w7 w3 w4 E hy hM hpd hlen eT hml hst hW hf hl hc hs hd hq fun v T' L X' hQ => ?_
  obtain ⟨rfl, eh, rfl⟩ := hQ
  rw [List.append_nil] at X'
  exact K T' X' eh
theorem own_callCV (X : Stand p l e R s m args below meth c T locs cells slots) (hx : p.tables.exec = Jvm.exec) {a : Addr} {Z : State} {a0 : Array Value} {h : Heap} {own : String} {index : Nat} {y : MethodName} {bytes : ByteArray} {maxL : Nat} {W : Nat} {argsL : List Value} {fr lo : Nat} {ps : List FieldType} {r : Option FieldType} {st0 : List Value} (hZ : Z.Warmed39 s.vm) (hown : s.vm.findClass own = some m.cls) (hy1 : y.name = "<init>") (w1 : (Cond.methodLink own index y).before a0 Z = true) (w2 : (Cond.instanceMethod y).before a0 Z = true) (w3 : (Cond.initialized y.cls).before a0 Z = true) (w4 : (Cond.code y bytes maxL none).before a0 Z = true) (hy : y.cls ≠ "java/lang/invoke/MethodHandle" ∧ y.cls ≠ "java/lang/invoke/VarHandle") (hM : MetFree l y (head1 [Cond.code y bytes maxL none] ({ frames := fr, cells := 0, slots := 0, locals := lo } : Room)) (fun aa U => aa = (.ref a :: argsL).toArray ∧ Z.Warmed39 U.vm ∧ U.heap = h) (fun _ _ _ _ _ => True) (fun _ U o U' => ∃ v L, o = .returned v ∧ own_V h v U'.heap L ∧ FrameEnd U o U' L 0 0)) (hpd : parseMethodDescriptor y.desc = some ⟨ps, r⟩) (hlen : argsL.length = ps.length) (eT : T.heap = h) (hml : Ls.size = c.maxLocals) (hst : st0 = argsL.reverse ++ .ref a :: st) (hW : (st.map fun v => v.category).sum ≤ W) (hf : fr + 1 ≤ R.frames) (hl : W + (maxL + 11) + lo ≤ R.locals) (hc : cells ≤ R.cells) (hs : slots ≤ R.slots) (hd : decode c.code pc = .ok (.invokespecial index, 3)) (hq : pc + 3 = q) (K : ∀ T', Stand p l e R s m args below meth c T' locs cells slots → T'.heap = h → own_Go p e below P (T'.setTop (mkF m q Ls st))) : own_Go p e below P (T.setTop (mkF m pc Ls st0)) := by
  refine own_callC X hx hZ hown hy1 w1 w2 w3 w4 hy hM hpd hlen eT hml hst hW hf hl hc hs hd hq fun v T' L X' hQ => ?_
  obtain ⟨rfl, eh, rfl⟩ := hQ
  rw [List.append_nil] at X'
  exact K T' X' eh
theorem own_callSV (X : Stand p l e R s m args below meth c T locs cells slots) (hx : p.tables.exec = Jvm.exec) {Z : State} {a0 : Array Value} {h : Heap} {own : String} {index : Nat} {y : MethodName} {bytes : ByteArray} {maxL : Nat} {ret : Option FieldType} {W : Nat} {argsL : List Value} {fr lo : Nat} {ps : List FieldType} {r : Option FieldType} {st0 : List Value} (hZ : Z.Warmed39 s.vm) (hown : s.vm.findClass own = some m.cls) (w1 : (Cond.methodLink own index y).before a0 Z = true) (w2 : (Cond.static y).before a0 Z = true) (w3 : (Cond.initialized y.cls).before a0 Z = true) (w4 : (Cond.code y bytes maxL ret).before a0 Z = true) (hy : y.cls ≠ "java/lang/invoke/MethodHandle" ∧ y.cls ≠ "java/lang/invoke/VarHandle") (hM : MetFree l y (head1 [Cond.code y bytes maxL ret] ({ frames := fr, cells := 0, slots := 0, locals := lo } : Room)) (fun aa U => aa = argsL.toArray ∧ Z.Warmed39 U.vm ∧ U.heap = h) (fun _ _ _ _ _ => True) (fun _ U o U' => ∃ v L, o = .returned v ∧ own_V h v U'.heap L ∧ FrameEnd U o U' L 0 0)) (hpd : parseMethodDescriptor y.desc = some ⟨ps, r⟩) (hlen : argsL.length = ps.length) (eT : T.heap = h) (hml : Ls.size = c.maxLocals) (hst : st0 = argsL.reverse ++ st) (hW : (st.map fun v => v.category).sum ≤ W) (hf : fr + 1 ≤ R.frames) (hl : W + (maxL + 11) + lo ≤ R.locals) (hc : cells ≤ R.cells) (hs : slots ≤ R.slots) (hd : decode c.code pc = .ok (.invokestatic index, 3)) (hq : pc + 3 = q) (K : ∀ T', Stand p l e R s m args below meth c T' locs cells slots → T'.heap = h → own_Go p e below P (T'.setTop (mkF m q Ls st))) : own_Go p e below P (T.setTop (mkF m pc Ls st0)) := by
  refine own_callS X hx hZ hown w1 w2 w3 w4 hy hM hpd hlen eT hml hst hW hf hl hc hs hd hq fun v T' L X' hQ => ?_
  obtain ⟨rfl, eh, rfl⟩ := hQ
  rw [List.append_nil] at X'
  exact K T' X' eh
theorem own_callVV (X : Stand p l e R s m args below meth c T locs cells slots) (hx : p.tables.exec = Jvm.exec) {a : Addr} {C : String} {z : MethodName} {Z : State} {a0 : Array Value} {h : Heap} {own : String} {index : Nat} {y : MethodName} {bytes : ByteArray} {maxL : Nat} {ret : Option FieldType} {W : Nat} {argsL : List Value} {fr lo : Nat} {ps : List FieldType} {r : Option FieldType} {st0 : List Value} (hZ : Z.Warmed39 s.vm) (hown : s.vm.findClass own = some m.cls) (w1 : (Cond.methodLink own index y).before a0 Z = true) (w2 : (Cond.declares y).before a0 Z = true) (w5 : (Cond.selects y.cls y y).before a0 Z = true) (w6 : (Cond.selects C y z).before a0 Z = true) (w7 : (Cond.instanceMethod z).before a0 Z = true) (w3 : (Cond.initialized z.cls).before a0 Z = true) (w4 : (Cond.code z bytes maxL ret).before a0 Z = true) (E : Exa Z h a C) (hy : y.cls ≠ "java/lang/invoke/MethodHandle" ∧ y.cls ≠ "java/lang/invoke/VarHandle") (hM : MetFree l z (head1 [Cond.code z bytes maxL ret] ({ frames := fr, cells := 0, slots := 0, locals := lo } : Room)) (fun aa U => aa = (.ref a :: argsL).toArray ∧ Z.Warmed39 U.vm ∧ U.heap = h) (fun _ _ _ _ _ => True) (fun _ U o U' => ∃ v L, o = .returned v ∧ own_V h v U'.heap L ∧ FrameEnd U o U' L 0 0)) (hpd : parseMethodDescriptor y.desc = some ⟨ps, r⟩) (hlen : argsL.length = ps.length) (eT : T.heap = h) (hml : Ls.size = c.maxLocals) (hst : st0 = argsL.reverse ++ .ref a :: st) (hW : (st.map fun v => v.category).sum ≤ W) (hf : fr + 1 ≤ R.frames) (hl : W + (maxL + 11) + lo ≤ R.locals) (hc : cells ≤ R.cells) (hs : slots ≤ R.slots) (hd : decode c.code pc = .ok (.invokevirtual index, 3)) (hq : pc + 3 = q) (K : ∀ T', Stand p l e R s m args below meth c T' locs cells slots → T'.heap = h → own_Go p e below P (T'.setTop (mkF m q Ls st))) : own_Go p e below P (T.setTop (mkF m pc Ls st0)) := by
  refine own_callV X hx hZ hown w1 w2 w5 w6 w7 w3 w4 E hy hM hpd hlen eT hml hst hW hf hl hc hs hd hq fun v T' L X' hQ => ?_
  obtain ⟨rfl, eh, rfl⟩ := hQ
  rw [List.append_nil] at X'
  exact K T' X' eh
end OwnKit
section OwnKitW
variable {p : Program} {l : Launch} {e : Env} {R : Room} {s : State} {m : MethodId} {args : Array Value} {below : List Frame} {meth : Method} {c : Code} {T : State} {locs : List Loc} {cells slots kc ks : Nat} {Q : Option Value → Heap → List Loc → Prop} {P : Outcome → State → Prop} {pc q : Nat} {Ls L' : Array Slot} {st : List Value}
def own_W (s : State) (kc ks : Nat) (Q : Option Value → Heap → List Loc → Prop) (o : Outcome) (t : State) : Prop := ∃ v L, o = .returned v ∧ Q v t.heap L ∧ ReturnedEndW s o t L kc ks
theorem own_EW {o : Outcome} {t : State} (h : own_E s kc ks Q o t) : own_W s kc ks Q o t := by
  obtain ⟨v, L, h1, h2, h3⟩ := h; exact ⟨v, L, h1, h2, wide h3⟩
theorem own_EW' {vm1 : Vm} {k1 : Nat} (hS : s.Since vm1 k1) {o : Outcome} {t : State} (h : own_E (s.setVm vm1) kc ks (fun v h L => Q v h L ∧ k1 ≤ h.size) o t) : own_W s kc ks Q o t := by
  obtain ⟨v, L, h1, ⟨h2, hk⟩, h3, h4, h5⟩ := h
  have S := State.Since.trans hS (h4.since t.heap.size) hk
  exact ⟨v, L, h1, h2, h3, S.1, S.2, h5.setVm s.vm⟩
theorem own_ldcS (X : Stand p l e R s m args below meth c T locs cells slots) (hx : p.tables.exec = Jvm.exec) {Z : State} {a0 : Array Value} {h : Heap} (hZ : Z.Warmed39 s.vm) {own : String} {i : Nat} (hown : s.vm.findClass own = some m.cls) {text : String} {n : Nat} (w : (Cond.stringLink own i text).before a0 Z = true) (wS : ∀ a ∈ Bundle.stringAtoms, a.before a0 Z = true) (eT : T.heap = h) (hn : 4 * text.toList.length ≤ n) (hbig : n ≤ 536870912) (hc : cells + 2 ≤ R.cells) (hl : slots + (n + 4) ≤ R.slots) (hd : decode c.code pc = .ok (.ldc i, 2)) (hq : pc + 2 = q) (K : ∀ a T' h' s' k1, Stand p l e R s' m args below meth c T' locs (cells + 2) (slots + (n + 4)) → T'.heap = h' → Ext h h' → k1 ≤ h'.size → Z.Warmed39 s'.vm → s'.vm.findClass own = some m.cls → (∀ o t, own_E s' kc ks (fun v h L => Q v h L ∧ k1 ≤ h.size) o t → own_W s kc ks Q o t) → own_Go p e below (own_W s kc ks Q) (T'.setTop (mkF m q Ls (.ref a :: st)))) : own_Go p e below (own_W s kc ks Q) (T.setTop (mkF m pc Ls st)) := by
  subst hq
  obtain ⟨a, T', h', k1, X', e', E', S', kb, W', o', st'⟩ := ldcS (s := s) (vm0 := s.vm) X hx hZ hown w wS eT ((State.WarmedH.refl s).since 0) (Nat.zero_le _) (g := mkF m pc Ls st) rfl hd hn hbig hc hl
  exact own_via (fun t => st' t) (K a T' h' _ k1 X' e' E' kb W' o' (fun o t h => own_EW' S' h))
theorem own_ldcV {Z : State} {a0 : Array Value} {h : Heap} {vm0 : Vm} {k0 : Nat} {Ts : List String} (X : Stand p l e R (s.setVm vm0) m args below meth c T locs cells slots) (hx : p.tables.exec = Jvm.exec) (hZ : Z.Warmed39 (s.setVm vm0).vm) {own : String} {i : Nat} (hown : (s.setVm vm0).vm.findClass own = some m.cls) {text : String} {n : Nat} (w : (Cond.stringLink own i text).before a0 Z = true) (wS : ∀ a ∈ Bundle.stringAtoms, a.before a0 Z = true) (eT : T.heap = h) (hS : s.Since vm0 k0) (hk : k0 ≤ h.size) (N : Fr s.heap.size locs) (hkeep : ∀ (b : Addr) (cl : Cell), Z.heap[b]? = some cl → s.heap[b]? = some cl) (I : IB Z vm0 Ts) (hnot : text ∉ Ts) (hh : Jvm.Lit.constHeld Z own i) (hcw : Jvm.Lit.compactW.before a0 Z = true) {vs : List Value} {z : Int32} (ht : (∀ c ∈ text.toList, c.toNat < 256) ∧ text.toList.map (fun c => Value.int (Jvm.Lit.byteI c.toNat.toUInt16)) = vs) (hz : ¬ z < 0) (hl : z.toNatClampNeg = vs.length) (hn : 4 * text.toList.length ≤ n) (hbig : n ≤ 536870912) (hc : cells + 2 ≤ R.cells) (hl' : slots + (n + 4) ≤ R.slots) (hd : decode c.code pc = .ok (.ldc i, 2)) (hq : pc + 2 = q) (K : ∀ a T' h' k1 b, Stand p l e R (s.setVm T'.vm) m args below meth c T' locs (cells + 2) (slots + (n + 4)) → T'.heap = h' → Ext h h' → s.Since T'.vm k1 → k1 ≤ h'.size → Z.Warmed39 (s.setVm T'.vm).vm → (s.setVm T'.vm).vm.findClass own = some m.cls → Exa Z h' a "java/lang/String" → Fld Z h' a "java/lang/String" "coder" "B" (.int 0) → Fld Z h' a "java/lang/String" "value" "[B" (.ref b) → own_A Z h' b .byte vs → IB Z T'.vm (text :: Ts) → own_Go p e below P (T'.setTop (mkF m q Ls (.ref a :: st)))) : own_Go p e below P (T.setTop (mkF m pc Ls st)) := by
  subst hq
  obtain ⟨a, T', h', k1, b, kk, X', e', E', S', kb, W', o', g1, g2, g3, g4, -, -, I', -, -, st'⟩ := ldcSVd (s := s) (vm0 := vm0) X hx hZ hown w wS eT hS hk N hkeep I hnot hh hcw ht hz hl (g := mkF m pc Ls st) rfl hd hn hbig hc hl'
  exact own_via (fun t => st' t) (K a T' h' k1 b X' e' E' S' kb W' o' g1 g2 g3 (own_A.of_arv g4 hl) I')
theorem own_IB {Z : State} {vm0 vm1 : Vm} (I : IB Z vm0 []) (h : vm1.interned = vm0.interned) : IB Z vm1 [] := by
  obtain ⟨more, e1, e2⟩ := I; exact ⟨more, h.trans e1, e2⟩
theorem own_backS {Z : State} {a0 : Array Value} {h : Heap} {y : MethodName} {bytes : ByteArray} {maxL : Nat} {ret : Option FieldType} {rm : Room} {len W : Nat} {as' : Array Value} {Qc : Option Value → Heap → List Loc → Prop} (hM : MetFree l y (head1 [Cond.code y bytes maxL ret] rm) (fun aa U => aa = as' ∧ (Z.Warmed39 U.vm ∧ IB Z U.vm []) ∧ U.heap = h) (fun _ _ _ _ _ => True) (fun _ U o U' => ∃ v L, o = .returned v ∧ Qc v U'.heap L ∧ ReturnedEndW U o U' L rm.cells rm.slots)) (hZ : Z.Warmed39 s.vm) (hI : IB Z s.vm []) (wc : (Cond.code y bytes maxL ret).before a0 Z = true) (wz : (Cond.initialized y.cls).before a0 Z = true) (hf : rm.frames + 1 ≤ R.frames) (hl : W + (maxL + 11) + rm.locals ≤ R.locals) : BackS l R p e below s args y len W (fun A a => a = as' ∧ A.U.heap = h ∧ A.cells + rm.cells ≤ R.cells ∧ A.slots + rm.slots ≤ R.slots) (fun A _ v B => ∃ L, Qc v B.U.heap L ∧ B.locs = A.locs ++ L ∧ B.cells = A.cells + rm.cells ∧ B.slots = A.slots + rm.slots) :=
  BackS.of_freeW (bytes := bytes) (maxL := maxL) (ret := ret) (E := fun _ _ o t L k n => k = rm.cells ∧ n = rm.slots ∧ ∃ v, o = .returned v ∧ Qc v t.heap L) hM hf hl
    (fun m meth c A a Y hp => have hU : Z.Warmed39 A.U.vm := wtrans hZ Y.warmed
      ⟨by show (Cond.and _ .tt).before a A.U = true; rw [Cond.before_and, mv hU wc]; rfl, mv hU wc, mv hU wz, hp.2.2.1, hp.2.2.2⟩)
    (fun m meth c A a g mk Y hp => ⟨hp.1, ⟨wtrans hZ Y.warmed, own_IB hI Y.warmed.interned_eq⟩, hp.2.1⟩) (fun _ _ _ _ _ _ _ _ _ => trivial)
    (fun _ _ _ _ ⟨v, L, h1, h2, h3⟩ => ⟨L, _, _, h3, rfl, rfl, v, h1, h2⟩)
    (fun m meth c A a g mk v t L k n Y hp _ _ ⟨e1, e2, v', e3, e4⟩ => by cases e3; subst e1 e2; exact ⟨L, e4, rfl, rfl, rfl⟩)
theorem own_callSS (X : Stand p l e R s m args below meth c T locs cells slots) (hx : p.tables.exec = Jvm.exec) {Z : State} {a0 : Array Value} {h : Heap} {own : String} {index : Nat} {y : MethodName} {bytes : ByteArray} {maxL : Nat} {ret : Option FieldType} {rm : Room} {W : Nat} {argsL : List Value} {Qc : Option Value → Heap → List Loc → Prop} {ps : List FieldType} {r : Option FieldType} {st0 : List Value} (hZ : Z.Warmed39 s.vm) (hown : s.vm.findClass own = some m.cls) (hI : IB Z s.vm []) (w1 : (Cond.methodLink own index y).before a0 Z = true) (w2 : (Cond.static y).before a0 Z = true) (w3 : (Cond.initialized y.cls).before a0 Z = true) (w4 : (Cond.code y bytes maxL ret).before a0 Z = true) (hy : y.cls ≠ "java/lang/invoke/MethodHandle" ∧ y.cls ≠ "java/lang/invoke/VarHandle") (hM : MetFree l y (head1 [Cond.code y bytes maxL ret] rm) (fun aa U => aa = argsL.toArray ∧ (Z.Warmed39 U.vm ∧ IB Z U.vm []) ∧ U.heap = h) (fun _ _ _ _ _ => True) (fun _ U o U' => ∃ v L, o = .returned v ∧ Qc v U'.heap L ∧ ReturnedEndW U o U' L rm.cells rm.slots)) (hpd : parseMethodDescriptor y.desc = some ⟨ps, r⟩) (hlen : argsL.length = ps.length) (eT : T.heap = h) (hml : Ls.size = c.maxLocals) (hst : st0 = argsL.reverse ++ st) (hW : (st.map fun v => v.category).sum ≤ W) (hf : rm.frames + 1 ≤ R.frames) (hl : W + (maxL + 11) + rm.locals ≤ R.locals) (hc : cells + rm.cells ≤ R.cells) (hs : slots + rm.slots ≤ R.slots) (hd : decode c.code pc = .ok (.invokestatic index, 3)) (hq : pc + 3 = q) (K : ∀ v T' L, Stand p l e R (s.setVm T'.vm) m args below meth c T' (locs ++ L) (cells + rm.cells) (slots + rm.slots) → s.Since T'.vm T'.heap.size → Z.Warmed39 (s.setVm T'.vm).vm → (s.setVm T'.vm).vm.findClass own = some m.cls → Qc v T'.heap L → own_Go p e below P (T'.setTop (mkF m q Ls (v.toList ++ st)))) : own_Go p e below P (T.setTop (mkF m pc Ls st0)) := by
  subst hq hst
  obtain ⟨v, _, ⟨T', L', k', n'⟩, -, X', S', -, ⟨Lc, hQ, l', y', z'⟩, st'⟩ := callSS X hx hown (mvT hZ w1) (mvT hZ w2) (mvT hZ w3) (mvT hZ w4) hy (own_backS (W := W) hM hZ hI w4 w3 hf hl) (g := mkF m pc Ls (argsL.reverse ++ st)) rfl hml (argsL := argsL) (rest := st) (lenOf hpd hlen) rfl (by show 2 * 0 + _ ≤ _; omega) hd (fun _ _ => ⟨rfl, eT, hc, hs⟩)
  dsimp only [Pt.U, Pt.locs, Pt.cells, Pt.slots] at X' l' y' z' st' hQ S'
  subst l' y' z'
  exact own_via (fun t => st'.trans) (K v T' Lc X' S' (State.Warmed39.trans (t := s) hZ S'.1) (by rw [show (s.setVm T'.vm).vm = T'.vm from rfl, S'.1.alike.findClass]; exact hown) hQ)
end OwnKitW
theorem own_wSm : ∀ d ∈ Bundle.stringAtoms, d ∈ tables_1 := by decide +kernel
theorem own_ws : ∀ d ∈ StrChars.Road.words, d ∈ tables_1 := by decide +kernel
theorem own_ch (x : Int32) : ¬ nar .char ((x &&& 255).toUInt32.toUInt16.toUInt32.toInt32) < 0 ∧ ¬ (255 : Int32) < nar .char ((x &&& 255).toUInt32.toUInt16.toUInt32.toInt32) := by
  have e : nar .char ((x &&& 255).toUInt32.toUInt16.toUInt32.toInt32) = x &&& 255 := by
    rw [i2c_mask]; show (x &&& 255).toUInt32.toUInt16.toUInt32.toInt32 = _; exact i2c_mask x
  have h := c_mask x 255 8 (by decide) (by decide)
  rw [e]; simp only [Int32.lt_iff_toInt_lt, h, Int32.reduceToInt]; omega
theorem own_pn0 : plainName "java/lang/String" = true := by first | (simp [plainName, overriddenIn]; done) | decide +kernel
theorem own_ef12 (m : MethodId) (a1 : Addr) : entryFrame m #[.ref a1] 1 = mkF m 0 #[.val (.ref a1)] [] := by first | (simp [entryFrame, mkF, argsToLocals, Value.category]; done) | rfl
theorem own_d12_0 : decode jdk_42_method_152_code 0 = .ok (.getstatic 38, 3) := by decide +kernel
theorem own_d12_3 : decode jdk_42_method_152_code 3 = .ok (.ifCond .eq 10, 3) := by decide +kernel
theorem own_d12_6 : decode jdk_42_method_152_code 6 = .ok (.aload_n 0, 1) := by decide +kernel
theorem own_d12_7 : decode jdk_42_method_152_code 7 = .ok (.getfield 15, 3) := by decide +kernel
theorem own_d12_10 : decode jdk_42_method_152_code 10 = .ok (.goto 4, 3) := by decide +kernel
theorem own_d12_14 : decode jdk_42_method_152_code 14 = .ok (.ireturn, 1) := by decide +kernel
def own_f12 (cs : Int32) : Int32 := (0 : Int32)
set_option maxRecDepth 65536 in
set_option maxHeartbeats 40000000 in
theorem rm12 (l : Launch) (Z : State) (a0 : Array Value) (hw : ∀ d ∈ tables_1, d.before a0 Z = true) (ws : List Jvm.Cond) (a1 : Addr) (cs : Int32) (h0 : Heap) (S0p : Sta Z h0 "java/lang/String" "COMPACT_STRINGS" "Z" (.int cs)) (F1p : Fld Z h0 a1 "java/lang/String" "coder" "B" (.int (0 : Int32))) (P0 : ¬ cs = 0) :
    MetFree l (⟨"java/lang/String", "coder", "()B"⟩ : MethodName) (head1 (Jvm.Cond.code (⟨"java/lang/String", "coder", "()B"⟩ : MethodName) jdk_42_method_152_code 1 (some .byte) :: ws) ({ frames := 0, cells := 0, slots := 0, locals := 0 } : Room)) (fun a U => a = #[.ref a1] ∧ Z.Warmed39 U.vm ∧ U.heap = h0) (fun _ _ _ _ _ => True) (fun _ U o U' => ∃ v L, o = .returned v ∧ own_P (.int (own_f12 cs)) h0 v U'.heap L ∧ FrameEnd U o U' L ({ frames := 0, cells := 0, slots := 0, locals := 0 } : Room).cells ({ frames := 0, cells := 0, slots := 0, locals := 0 } : Room).slots) := by
  refine MetFree.of_bodySF (plainFor_of_name own_pn0) hisR ?_
  intro p e s m args below meth c s₁ Bd hml0 hP hK
  obtain ⟨rfl, hZ, hh⟩ := hP
  have hx := Bd.exec
  have hby := Bd.bytes
  have hml : c.maxLocals = 1 := hml0
  have hown : s.vm.findClass "java/lang/String" = some m.cls := findClass_of_methodNamed Bd.named
  have hnm := (name_of_methodNamed Bd.named Bd.method).1
  have hlk : meth.locks = false := BodyLoose.notSynchronized Bd
  have X0 : Stand p l e ({ frames := 0, cells := 0, slots := 0, locals := 0 } : Room) s m #[.ref a1] below meth c s₁ [] 0 0 := Stand.of_body Bd
  have e0 : s₁.heap = h0 := by rw [← hh, Bd.state]; rfl
  show own_Go p e below (own_E s 0 0 (own_P (.int (own_f12 cs)) h0)) (s₁.setTop (entryFrame m #[.ref a1] 1))
  rw [own_ef12]
  refine own_getS X0 hx hZ hown (hw _ (List.mem_of_getElem? (i := 14) rfl)) Via.refl e0 S0p (hb hby own_d12_0) (q := 3) rfl (fun T1 X2 e3 => ?_)
  refine own_if0P X2 hx (hb hby own_d12_3) (cd := .eq) (x := cs) (pt := 13) (q := 6) (by decide) (by decide) rfl rfl (fun h => False.elim ((P0 : ¬ (cs = (0 : Int32))) h)) (fun _ => ?_)
  refine own_aloadN X2 hx (hb hby own_d12_6) (q := 7) rfl rfl rfl ?_
  refine own_getF X2 hx hZ hown (host := "") (Or.inl (hw _ (List.mem_of_getElem? (i := 26) rfl))) Via.refl e3 F1p (hb hby own_d12_7) (q := 10) rfl (fun T4 X5 e6 => ?_)
  refine own_goto X5 hx (hb hby own_d12_10) (q := 14) (by decide) (by decide) ?_
  refine own_retN X5 hx hlk (t := .byte) (by simp) Bd.returns (hb hby own_d12_14) ?_ (by decide) (by decide)
  have r : own_f12 cs = (0 : Int32) := by rw [own_f12]
  exact ⟨by rw [r] <;> rfl, e6, rfl⟩
theorem own_pd0 : parseMethodDescriptor "()B" = some ⟨[], some .byte⟩ := by decide +kernel
theorem own_ef11 (m : MethodId) (a1 : Addr) : entryFrame m #[.ref a1] 1 = mkF m 0 #[.val (.ref a1)] [] := by first | (simp [entryFrame, mkF, argsToLocals, Value.category]; done) | rfl
theorem own_d11_0 : decode jdk_42_method_54_code 0 = .ok (.aload_n 0, 1) := by decide +kernel
theorem own_d11_1 : decode jdk_42_method_54_code 1 = .ok (.getfield 9, 3) := by decide +kernel
theorem own_d11_4 : decode jdk_42_method_54_code 4 = .ok (.arraylength, 1) := by decide +kernel
theorem own_d11_5 : decode jdk_42_method_54_code 5 = .ok (.aload_n 0, 1) := by decide +kernel
theorem own_d11_6 : decode jdk_42_method_54_code 6 = .ok (.invokevirtual 335, 3) := by decide +kernel
theorem own_d11_9 : decode jdk_42_method_54_code 9 = .ok (.ishr, 1) := by decide +kernel
theorem own_d11_10 : decode jdk_42_method_54_code 10 = .ok (.ireturn, 1) := by decide +kernel
def own_f11_1 (cs : Int32) (b1 : Addr) : Int32 := (1 : Int32)
set_option maxRecDepth 65536 in
set_option maxHeartbeats 40000000 in
theorem rm11_1 (l : Launch) (Z : State) (a0 : Array Value) (hw : ∀ d ∈ tables_1, d.before a0 Z = true) (ws : List Jvm.Cond) (a1 : Addr) (cs : Int32) (b1 : Addr) (h0 : Heap) (S0p : Sta Z h0 "java/lang/String" "COMPACT_STRINGS" "Z" (.int cs)) (E1p : Exa Z h0 a1 "java/lang/String") (F2p : Fld Z h0 a1 "java/lang/String" "value" "[B" (.ref b1)) (F3p : Fld Z h0 a1 "java/lang/String" "coder" "B" (.int (0 : Int32))) (V4p : own_A Z h0 b1 .byte [.int (47 : Int32)]) (P0 : ¬ cs = 0) :
    MetFree l (⟨"java/lang/String", "length", "()I"⟩ : MethodName) (head1 (Jvm.Cond.code (⟨"java/lang/String", "length", "()I"⟩ : MethodName) jdk_42_method_54_code 1 (some .int) :: ws) ({ frames := 1, cells := 0, slots := 0, locals := 13 } : Room)) (fun a U => a = #[.ref a1] ∧ Z.Warmed39 U.vm ∧ U.heap = h0) (fun _ _ _ _ _ => True) (fun _ U o U' => ∃ v L, o = .returned v ∧ own_P (.int (own_f11_1 cs b1)) h0 v U'.heap L ∧ FrameEnd U o U' L ({ frames := 1, cells := 0, slots := 0, locals := 13 } : Room).cells ({ frames := 1, cells := 0, slots := 0, locals := 13 } : Room).slots) := by
  refine MetFree.of_bodySF (plainFor_of_name own_pn0) hisR ?_
  intro p e s m args below meth c s₁ Bd hml0 hP hK
  obtain ⟨rfl, hZ, hh⟩ := hP
  have hx := Bd.exec
  have hby := Bd.bytes
  have hml : c.maxLocals = 1 := hml0
  have hown : s.vm.findClass "java/lang/String" = some m.cls := findClass_of_methodNamed Bd.named
  have hnm := (name_of_methodNamed Bd.named Bd.method).1
  have hlk : meth.locks = false := BodyLoose.notSynchronized Bd
  have X0 : Stand p l e ({ frames := 1, cells := 0, slots := 0, locals := 13 } : Room) s m #[.ref a1] below meth c s₁ [] 0 0 := Stand.of_body Bd
  have e0 : s₁.heap = h0 := by rw [← hh, Bd.state]; rfl
  show own_Go p e below (own_E s 0 0 (own_P (.int (own_f11_1 cs b1)) h0)) (s₁.setTop (entryFrame m #[.ref a1] 1))
  rw [own_ef11]
  refine own_aloadN X0 hx (hb hby own_d11_0) (q := 1) rfl rfl rfl ?_
  refine own_getF X0 hx hZ hown (host := "") (Or.inl (hw _ (List.mem_of_getElem? (i := 28) rfl))) Via.refl e0 F2p (hb hby own_d11_1) (q := 4) rfl (fun T7 X8 e9 => ?_)
  refine own_alen X8 hx hZ (n := (1 : Int32)) e9 V4p rfl (hb hby own_d11_4) (q := 5) rfl ?_
  refine own_aloadN X8 hx (hb hby own_d11_5) (q := 6) rfl rfl rfl ?_
  refine own_callVP X8 hx hZ hown (hw _ (List.mem_of_getElem? (i := 57) rfl)) (hw _ (List.mem_of_getElem? (i := 58) rfl)) (hw _ (List.mem_of_getElem? (i := 60) rfl)) (hw _ (List.mem_of_getElem? (i := 60) rfl)) (hw _ (List.mem_of_getElem? (i := 59) rfl)) (hw _ (List.mem_of_getElem? (i := 2) rfl)) (hw _ (List.mem_of_getElem? (i := 61) rfl)) E1p (by decide) (rm12 l Z a0 hw [] a1 cs h0 S0p F3p P0) own_pd0 rfl e9 (by rw [hml]; rfl) (argsL := []) (st := [.int (1 : Int32)]) rfl (W := 1) (Nat.le_of_eq rfl) (by decide) (by decide) (by decide) (by decide) (hb hby own_d11_6) (q := 9) rfl (fun T10 X11 e12 => ?_)
  rw [show (own_f12 cs : Int32) = (0 : Int32) from rfl]
  refine own_ishr X11 hx (hb hby own_d11_9) (q := 10) rfl ?_
  rw [show ((1 : Int32) >>> ((0 : Int32) &&& 31) : Int32) = (1 : Int32) from by decide]
  refine own_retI X11 hx hlk Bd.returns (hb hby own_d11_10) ?_ (by decide) (by decide)
  have r : own_f11_1 cs b1 = (1 : Int32) := by rw [own_f11_1]
  exact ⟨by rw [r] <;> rfl, e12, rfl⟩

def own_f11_2 (cs : Int32) (b1 : Addr) (u1 : Int32) : Int32 := (2 : Int32)
set_option maxRecDepth 65536 in
set_option maxHeartbeats 40000000 in
theorem rm11_2 (l : Launch) (Z : State) (a0 : Array Value) (hw : ∀ d ∈ tables_1, d.before a0 Z = true) (ws : List Jvm.Cond) (a1 : Addr) (cs : Int32) (b1 : Addr) (u1 : Int32) (h0 : Heap) (S0p : Sta Z h0 "java/lang/String" "COMPACT_STRINGS" "Z" (.int cs)) (E1p : Exa Z h0 a1 "java/lang/String") (F2p : Fld Z h0 a1 "java/lang/String" "value" "[B" (.ref b1)) (F3p : Fld Z h0 a1 "java/lang/String" "coder" "B" (.int (0 : Int32))) (V4p : own_A Z h0 b1 .byte [.int (47 : Int32), .int u1]) (P0 : ¬ cs = 0) :
    MetFree l (⟨"java/lang/String", "length", "()I"⟩ : MethodName) (head1 (Jvm.Cond.code (⟨"java/lang/String", "length", "()I"⟩ : MethodName) jdk_42_method_54_code 1 (some .int) :: ws) ({ frames := 1, cells := 0, slots := 0, locals := 13 } : Room)) (fun a U => a = #[.ref a1] ∧ Z.Warmed39 U.vm ∧ U.heap = h0) (fun _ _ _ _ _ => True) (fun _ U o U' => ∃ v L, o = .returned v ∧ own_P (.int (own_f11_2 cs b1 u1)) h0 v U'.heap L ∧ FrameEnd U o U' L ({ frames := 1, cells := 0, slots := 0, locals := 13 } : Room).cells ({ frames := 1, cells := 0, slots := 0, locals := 13 } : Room).slots) := by
  refine MetFree.of_bodySF (plainFor_of_name own_pn0) hisR ?_
  intro p e s m args below meth c s₁ Bd hml0 hP hK
  obtain ⟨rfl, hZ, hh⟩ := hP
  have hx := Bd.exec
  have hby := Bd.bytes
  have hml : c.maxLocals = 1 := hml0
  have hown : s.vm.findClass "java/lang/String" = some m.cls := findClass_of_methodNamed Bd.named
  have hnm := (name_of_methodNamed Bd.named Bd.method).1
  have hlk : meth.locks = false := BodyLoose.notSynchronized Bd
  have X0 : Stand p l e ({ frames := 1, cells := 0, slots := 0, locals := 13 } : Room) s m #[.ref a1] below meth c s₁ [] 0 0 := Stand.of_body Bd
  have e0 : s₁.heap = h0 := by rw [← hh, Bd.state]; rfl
  show own_Go p e below (own_E s 0 0 (own_P (.int (own_f11_2 cs b1 u1)) h0)) (s₁.setTop (entryFrame m #[.ref a1] 1))
  rw [own_ef11]
  refine own_aloadN X0 hx (hb hby own_d11_0) (q := 1) rfl rfl rfl ?_
  refine own_getF X0 hx hZ hown (host := "") (Or.inl (hw _ (List.mem_of_getElem? (i := 28) rfl))) Via.refl e0 F2p (hb hby own_d11_1) (q := 4) rfl (fun T13 X14 e15 => ?_)
  refine own_alen X14 hx hZ (n := (2 : Int32)) e15 V4p rfl (hb hby own_d11_4) (q := 5) rfl ?_
  refine own_aloadN X14 hx (hb hby own_d11_5) (q := 6) rfl rfl rfl ?_
  refine own_callVP X14 hx hZ hown (hw _ (List.mem_of_getElem? (i := 57) rfl)) (hw _ (List.mem_of_getElem? (i := 58) rfl)) (hw _ (List.mem_of_getElem? (i := 60) rfl)) (hw _ (List.mem_of_getElem? (i := 60) rfl)) (hw _ (List.mem_of_getElem? (i := 59) rfl)) (hw _ (List.mem_of_getElem? (i := 2) rfl)) (hw _ (List.mem_of_getElem? (i := 61) rfl)) E1p (by decide) (rm12 l Z a0 hw [] a1 cs h0 S0p F3p P0) own_pd0 rfl e15 (by rw [hml]; rfl) (argsL := []) (st := [.int (2 : Int32)]) rfl (W := 1) (Nat.le_of_eq rfl) (by decide) (by decide) (by decide) (by decide) (hb hby own_d11_6) (q := 9) rfl (fun T16 X17 e18 => ?_)
  rw [show (own_f12 cs : Int32) = (0 : Int32) from rfl]
  refine own_ishr X17 hx (hb hby own_d11_9) (q := 10) rfl ?_
  rw [show ((2 : Int32) >>> ((0 : Int32) &&& 31) : Int32) = (2 : Int32) from by decide]
  refine own_retI X17 hx hlk Bd.returns (hb hby own_d11_10) ?_ (by decide) (by decide)
  have r : own_f11_2 cs b1 u1 = (2 : Int32) := by rw [own_f11_2]
  exact ⟨by rw [r] <;> rfl, e18, rfl⟩

def own_f11_3 (cs : Int32) (b1 : Addr) (u1 : Int32) (u2 : Int32) : Int32 := (3 : Int32)
set_option maxRecDepth 65536 in
set_option maxHeartbeats 40000000 in
theorem rm11_3 (l : Launch) (Z : State) (a0 : Array Value) (hw : ∀ d ∈ tables_1, d.before a0 Z = true) (ws : List Jvm.Cond) (a1 : Addr) (cs : Int32) (b1 : Addr) (u1 : Int32) (u2 : Int32) (h0 : Heap) (S0p : Sta Z h0 "java/lang/String" "COMPACT_STRINGS" "Z" (.int cs)) (E1p : Exa Z h0 a1 "java/lang/String") (F2p : Fld Z h0 a1 "java/lang/String" "value" "[B" (.ref b1)) (F3p : Fld Z h0 a1 "java/lang/String" "coder" "B" (.int (0 : Int32))) (V4p : own_A Z h0 b1 .byte [.int (47 : Int32), .int u1, .int u2]) (P0 : ¬ cs = 0) :
    MetFree l (⟨"java/lang/String", "length", "()I"⟩ : MethodName) (head1 (Jvm.Cond.code (⟨"java/lang/String", "length", "()I"⟩ : MethodName) jdk_42_method_54_code 1 (some .int) :: ws) ({ frames := 1, cells := 0, slots := 0, locals := 13 } : Room)) (fun a U => a = #[.ref a1] ∧ Z.Warmed39 U.vm ∧ U.heap = h0) (fun _ _ _ _ _ => True) (fun _ U o U' => ∃ v L, o = .returned v ∧ own_P (.int (own_f11_3 cs b1 u1 u2)) h0 v U'.heap L ∧ FrameEnd U o U' L ({ frames := 1, cells := 0, slots := 0, locals := 13 } : Room).cells ({ frames := 1, cells := 0, slots := 0, locals := 13 } : Room).slots) := by
  refine MetFree.of_bodySF (plainFor_of_name own_pn0) hisR ?_
  intro p e s m args below meth c s₁ Bd hml0 hP hK
  obtain ⟨rfl, hZ, hh⟩ := hP
  have hx := Bd.exec
  have hby := Bd.bytes
  have hml : c.maxLocals = 1 := hml0
  have hown : s.vm.findClass "java/lang/String" = some m.cls := findClass_of_methodNamed Bd.named
  have hnm := (name_of_methodNamed Bd.named Bd.method).1
  have hlk : meth.locks = false := BodyLoose.notSynchronized Bd
  have X0 : Stand p l e ({ frames := 1, cells := 0, slots := 0, locals := 13 } : Room) s m #[.ref a1] below meth c s₁ [] 0 0 := Stand.of_body Bd
  have e0 : s₁.heap = h0 := by rw [← hh, Bd.state]; rfl
  show own_Go p e below (own_E s 0 0 (own_P (.int (own_f11_3 cs b1 u1 u2)) h0)) (s₁.setTop (entryFrame m #[.ref a1] 1))
  rw [own_ef11]
  refine own_aloadN X0 hx (hb hby own_d11_0) (q := 1) rfl rfl rfl ?_
  refine own_getF X0 hx hZ hown (host := "") (Or.inl (hw _ (List.mem_of_getElem? (i := 28) rfl))) Via.refl e0 F2p (hb hby own_d11_1) (q := 4) rfl (fun T19 X20 e21 => ?_)
  refine own_alen X20 hx hZ (n := (3 : Int32)) e21 V4p rfl (hb hby own_d11_4) (q := 5) rfl ?_
  refine own_aloadN X20 hx (hb hby own_d11_5) (q := 6) rfl rfl rfl ?_
  refine own_callVP X20 hx hZ hown (hw _ (List.mem_of_getElem? (i := 57) rfl)) (hw _ (List.mem_of_getElem? (i := 58) rfl)) (hw _ (List.mem_of_getElem? (i := 60) rfl)) (hw _ (List.mem_of_getElem? (i := 60) rfl)) (hw _ (List.mem_of_getElem? (i := 59) rfl)) (hw _ (List.mem_of_getElem? (i := 2) rfl)) (hw _ (List.mem_of_getElem? (i := 61) rfl)) E1p (by decide) (rm12 l Z a0 hw [] a1 cs h0 S0p F3p P0) own_pd0 rfl e21 (by rw [hml]; rfl) (argsL := []) (st := [.int (3 : Int32)]) rfl (W := 1) (Nat.le_of_eq rfl) (by decide) (by decide) (by decide) (by decide) (hb hby own_d11_6) (q := 9) rfl (fun T22 X23 e24 => ?_)
  rw [show (own_f12 cs : Int32) = (0 : Int32) from rfl]
  refine own_ishr X23 hx (hb hby own_d11_9) (q := 10) rfl ?_
  rw [show ((3 : Int32) >>> ((0 : Int32) &&& 31) : Int32) = (3 : Int32) from by decide]
  refine own_retI X23 hx hlk Bd.returns (hb hby own_d11_10) ?_ (by decide) (by decide)
  have r : own_f11_3 cs b1 u1 u2 = (3 : Int32) := by rw [own_f11_3]
  exact ⟨by rw [r] <;> rfl, e24, rfl⟩

def own_f11_4 (cs : Int32) (b1 : Addr) (u1 : Int32) (u2 : Int32) (u3 : Int32) : Int32 := (4 : Int32)
set_option maxRecDepth 65536 in
set_option maxHeartbeats 40000000 in
theorem rm11_4 (l : Launch) (Z : State) (a0 : Array Value) (hw : ∀ d ∈ tables_1, d.before a0 Z = true) (ws : List Jvm.Cond) (a1 : Addr) (cs : Int32) (b1 : Addr) (u1 : Int32) (u2 : Int32) (u3 : Int32) (h0 : Heap) (S0p : Sta Z h0 "java/lang/String" "COMPACT_STRINGS" "Z" (.int cs)) (E1p : Exa Z h0 a1 "java/lang/String") (F2p : Fld Z h0 a1 "java/lang/String" "value" "[B" (.ref b1)) (F3p : Fld Z h0 a1 "java/lang/String" "coder" "B" (.int (0 : Int32))) (V4p : own_A Z h0 b1 .byte [.int (47 : Int32), .int u1, .int u2, .int u3]) (P0 : ¬ cs = 0) :
    MetFree l (⟨"java/lang/String", "length", "()I"⟩ : MethodName) (head1 (Jvm.Cond.code (⟨"java/lang/String", "length", "()I"⟩ : MethodName) jdk_42_method_54_code 1 (some .int) :: ws) ({ frames := 1, cells := 0, slots := 0, locals := 13 } : Room)) (fun a U => a = #[.ref a1] ∧ Z.Warmed39 U.vm ∧ U.heap = h0) (fun _ _ _ _ _ => True) (fun _ U o U' => ∃ v L, o = .returned v ∧ own_P (.int (own_f11_4 cs b1 u1 u2 u3)) h0 v U'.heap L ∧ FrameEnd U o U' L ({ frames := 1, cells := 0, slots := 0, locals := 13 } : Room).cells ({ frames := 1, cells := 0, slots := 0, locals := 13 } : Room).slots) := by
  refine MetFree.of_bodySF (plainFor_of_name own_pn0) hisR ?_
  intro p e s m args below meth c s₁ Bd hml0 hP hK
  obtain ⟨rfl, hZ, hh⟩ := hP
  have hx := Bd.exec
  have hby := Bd.bytes
  have hml : c.maxLocals = 1 := hml0
  have hown : s.vm.findClass "java/lang/String" = some m.cls := findClass_of_methodNamed Bd.named
  have hnm := (name_of_methodNamed Bd.named Bd.method).1
  have hlk : meth.locks = false := BodyLoose.notSynchronized Bd
  have X0 : Stand p l e ({ frames := 1, cells := 0, slots := 0, locals := 13 } : Room) s m #[.ref a1] below meth c s₁ [] 0 0 := Stand.of_body Bd
  have e0 : s₁.heap = h0 := by rw [← hh, Bd.state]; rfl
  show own_Go p e below (own_E s 0 0 (own_P (.int (own_f11_4 cs b1 u1 u2 u3)) h0)) (s₁.setTop (entryFrame m #[.ref a1] 1))
  rw [own_ef11]
  refine own_aloadN X0 hx (hb hby own_d11_0) (q := 1) rfl rfl rfl ?_
  refine own_getF X0 hx hZ hown (host := "") (Or.inl (hw _ (List.mem_of_getElem? (i := 28) rfl))) Via.refl e0 F2p (hb hby own_d11_1) (q := 4) rfl (fun T25 X26 e27 => ?_)
  refine own_alen X26 hx hZ (n := (4 : Int32)) e27 V4p rfl (hb hby own_d11_4) (q := 5) rfl ?_
  refine own_aloadN X26 hx (hb hby own_d11_5) (q := 6) rfl rfl rfl ?_
  refine own_callVP X26 hx hZ hown (hw _ (List.mem_of_getElem? (i := 57) rfl)) (hw _ (List.mem_of_getElem? (i := 58) rfl)) (hw _ (List.mem_of_getElem? (i := 60) rfl)) (hw _ (List.mem_of_getElem? (i := 60) rfl)) (hw _ (List.mem_of_getElem? (i := 59) rfl)) (hw _ (List.mem_of_getElem? (i := 2) rfl)) (hw _ (List.mem_of_getElem? (i := 61) rfl)) E1p (by decide) (rm12 l Z a0 hw [] a1 cs h0 S0p F3p P0) own_pd0 rfl e27 (by rw [hml]; rfl) (argsL := []) (st := [.int (4 : Int32)]) rfl (W := 1) (Nat.le_of_eq rfl) (by decide) (by decide) (by decide) (by decide) (hb hby own_d11_6) (q := 9) rfl (fun T28 X29 e30 => ?_)
  rw [show (own_f12 cs : Int32) = (0 : Int32) from rfl]
  refine own_ishr X29 hx (hb hby own_d11_9) (q := 10) rfl ?_
  rw [show ((4 : Int32) >>> ((0 : Int32) &&& 31) : Int32) = (4 : Int32) from by decide]
  refine own_retI X29 hx hlk Bd.returns (hb hby own_d11_10) ?_ (by decide) (by decide)
  have r : own_f11_4 cs b1 u1 u2 u3 = (4 : Int32) := by rw [own_f11_4]
  exact ⟨by rw [r] <;> rfl, e30, rfl⟩
theorem own_pn3 : plainName "jdk/internal/util/ArraysSupport" = true := by first | (simp [plainName, overriddenIn]; done) | decide +kernel
theorem own_ef13_k0_k0_k1 (m : MethodId) (a1 : Addr) (a3 : Addr) : entryFrame m #[.ref a1, .int (0 : Int32), .ref a3, .int (0 : Int32), .int (1 : Int32)] 8 = mkF m 0 #[.val (.ref a1), .val (.int (0 : Int32)), .val (.ref a3), .val (.int (0 : Int32)), .val (.int (1 : Int32)), .unset, .unset, .unset] [] := by first | (simp [entryFrame, mkF, argsToLocals, Value.category]; done) | rfl
theorem own_d13_0 : decode jdk_48_method_14_code 0 = .ok (.iconst 0, 1) := by decide +kernel
theorem own_d13_1 : decode jdk_48_method_14_code 1 = .ok (.istore 5, 2) := by decide +kernel
theorem own_d13_3 : decode jdk_48_method_14_code 3 = .ok (.iload 4, 2) := by decide +kernel
theorem own_d13_5 : decode jdk_48_method_14_code 5 = .ok (.bipush 7, 2) := by decide +kernel
theorem own_d13_7 : decode jdk_48_method_14_code 7 = .ok (.if_icmp .le 63, 3) := by decide +kernel
theorem own_d13_70 : decode jdk_48_method_14_code 70 = .ok (.iload 5, 2) := by decide +kernel
theorem own_d13_72 : decode jdk_48_method_14_code 72 = .ok (.iload 4, 2) := by decide +kernel
theorem own_d13_74 : decode jdk_48_method_14_code 74 = .ok (.if_icmp .ge 27, 3) := by decide +kernel
theorem own_d13_77 : decode jdk_48_method_14_code 77 = .ok (.aload_n 0, 1) := by decide +kernel
theorem own_d13_78 : decode jdk_48_method_14_code 78 = .ok (.iload_n 1, 1) := by decide +kernel
theorem own_d13_79 : decode jdk_48_method_14_code 79 = .ok (.iload 5, 2) := by decide +kernel
theorem own_d13_81 : decode jdk_48_method_14_code 81 = .ok (.iadd, 1) := by decide +kernel
theorem own_d13_82 : decode jdk_48_method_14_code 82 = .ok (.baload, 1) := by decide +kernel
theorem own_d13_83 : decode jdk_48_method_14_code 83 = .ok (.aload_n 2, 1) := by decide +kernel
theorem own_d13_84 : decode jdk_48_method_14_code 84 = .ok (.iload_n 3, 1) := by decide +kernel
theorem own_d13_85 : decode jdk_48_method_14_code 85 = .ok (.iload 5, 2) := by decide +kernel
theorem own_d13_87 : decode jdk_48_method_14_code 87 = .ok (.iadd, 1) := by decide +kernel
theorem own_d13_88 : decode jdk_48_method_14_code 88 = .ok (.baload, 1) := by decide +kernel
theorem own_d13_89 : decode jdk_48_method_14_code 89 = .ok (.if_icmp .eq 6, 3) := by decide +kernel
theorem own_d13_95 : decode jdk_48_method_14_code 95 = .ok (.iinc 5 1, 3) := by decide +kernel
theorem own_d13_98 : decode jdk_48_method_14_code 98 = .ok (.goto (-28), 3) := by decide +kernel
theorem own_d13_101 : decode jdk_48_method_14_code 101 = .ok (.iconst (-1), 1) := by decide +kernel
theorem own_d13_102 : decode jdk_48_method_14_code 102 = .ok (.ireturn, 1) := by decide +kernel
def own_f13_1  : Int32 := (-1 : Int32)
set_option maxRecDepth 65536 in
set_option maxHeartbeats 40000000 in
theorem rm13_1 (l : Launch) (Z : State) (a0 : Array Value) (hw : ∀ d ∈ tables_1, d.before a0 Z = true) (ws : List Jvm.Cond) (a1 : Addr) (a3 : Addr) (h0 : Heap) (V0p : own_A Z h0 a1 .byte [.int (47 : Int32)]) (V1p : own_A Z h0 a3 .byte [.int (47 : Int32)]) :
    MetFree l (⟨"jdk/internal/util/ArraysSupport", "mismatch", "([BI[BII)I"⟩ : MethodName) (head1 (Jvm.Cond.code (⟨"jdk/internal/util/ArraysSupport", "mismatch", "([BI[BII)I"⟩ : MethodName) jdk_48_method_14_code 8 (some .int) :: ws) ({ frames := 0, cells := 0, slots := 0, locals := 0 } : Room)) (fun a U => a = #[.ref a1, .int (0 : Int32), .ref a3, .int (0 : Int32), .int (1 : Int32)] ∧ Z.Warmed39 U.vm ∧ U.heap = h0) (fun _ _ _ _ _ => True) (fun _ U o U' => ∃ v L, o = .returned v ∧ own_P (.int (own_f13_1 )) h0 v U'.heap L ∧ FrameEnd U o U' L ({ frames := 0, cells := 0, slots := 0, locals := 0 } : Room).cells ({ frames := 0, cells := 0, slots := 0, locals := 0 } : Room).slots) := by
  refine MetFree.of_bodySF (plainFor_of_name own_pn3) hisR ?_
  intro p e s m args below meth c s₁ Bd hml0 hP hK
  obtain ⟨rfl, hZ, hh⟩ := hP
  have hx := Bd.exec
  have hby := Bd.bytes
  have hml : c.maxLocals = 8 := hml0
  have hown : s.vm.findClass "jdk/internal/util/ArraysSupport" = some m.cls := findClass_of_methodNamed Bd.named
  have hnm := (name_of_methodNamed Bd.named Bd.method).1
  have hlk : meth.locks = false := BodyLoose.notSynchronized Bd
  have X0 : Stand p l e ({ frames := 0, cells := 0, slots := 0, locals := 0 } : Room) s m #[.ref a1, .int (0 : Int32), .ref a3, .int (0 : Int32), .int (1 : Int32)] below meth c s₁ [] 0 0 := Stand.of_body Bd
  have e0 : s₁.heap = h0 := by rw [← hh, Bd.state]; rfl
  show own_Go p e below (own_E s 0 0 (own_P (.int (own_f13_1 )) h0)) (s₁.setTop (entryFrame m #[.ref a1, .int (0 : Int32), .ref a3, .int (0 : Int32), .int (1 : Int32)] 8))
  rw [own_ef13_k0_k0_k1]
  refine own_iconst X0 hx (v := (0 : Int32)) (hb hby own_d13_0) (q := 1) rfl rfl ?_
  refine own_istore (L' := #[.val (.ref a1), .val (.int (0 : Int32)), .val (.ref a3), .val (.int (0 : Int32)), .val (.int (1 : Int32)), .val (.int (0 : Int32)), .unset, .unset]) X0 hx (hb hby own_d13_1) (q := 3) rfl rfl ?_
  refine own_iload X0 hx (hb hby own_d13_3) (q := 5) rfl rfl ?_
  refine own_bipush X0 hx (v := (7 : Int32)) (hb hby own_d13_5) (q := 7) rfl rfl ?_
  refine own_icmpM X0 hx (hb hby own_d13_7) (cd := .le) (x := (1 : Int32)) (y := (7 : Int32)) (pt := 70) (q := 10) (by decide) (by decide) rfl rfl (fun _ => ?_) (fun h => False.elim (((by decide) : ¬ ((7 : Int32) < (1 : Int32))) h))
  refine own_iload X0 hx (hb hby own_d13_70) (q := 72) rfl rfl ?_
  refine own_iload X0 hx (hb hby own_d13_72) (q := 74) rfl rfl ?_
  refine own_icmpM X0 hx (hb hby own_d13_74) (cd := .ge) (x := (0 : Int32)) (y := (1 : Int32)) (pt := 101) (q := 77) (by decide) (by decide) rfl rfl (fun h => False.elim (h ((by decide) : (0 : Int32) < (1 : Int32)))) (fun _ => ?_)
  refine own_aloadN X0 hx (hb hby own_d13_77) (q := 78) rfl rfl rfl ?_
  refine own_iloadN X0 hx (hb hby own_d13_78) (q := 79) rfl rfl ?_
  refine own_iload X0 hx (hb hby own_d13_79) (q := 81) rfl rfl ?_
  refine own_iadd X0 hx (hb hby own_d13_81) (q := 82) rfl ?_
  rw [show ((0 : Int32) + (0 : Int32) : Int32) = (0 : Int32) from by decide]
  refine own_baload X0 hx hZ (i := 0) (v := .int (47 : Int32)) e0 V0p (by decide) (by decide) rfl (hb hby own_d13_82) (q := 83) rfl ?_
  refine own_aloadN X0 hx (hb hby own_d13_83) (q := 84) rfl rfl rfl ?_
  refine own_iloadN X0 hx (hb hby own_d13_84) (q := 85) rfl rfl ?_
  refine own_iload X0 hx (hb hby own_d13_85) (q := 87) rfl rfl ?_
  refine own_iadd X0 hx (hb hby own_d13_87) (q := 88) rfl ?_
  rw [show ((0 : Int32) + (0 : Int32) : Int32) = (0 : Int32) from by decide]
  refine own_baload X0 hx hZ (i := 0) (v := .int (47 : Int32)) e0 V1p (by decide) (by decide) rfl (hb hby own_d13_88) (q := 89) rfl ?_
  refine own_icmpP X0 hx (hb hby own_d13_89) (cd := .eq) (x := (47 : Int32)) (y := (47 : Int32)) (pt := 95) (q := 92) (by decide) (by decide) rfl rfl (fun _ => ?_) (fun h => False.elim (h ((by decide) : (47 : Int32) = (47 : Int32))))
  refine own_iinc (L' := #[.val (.ref a1), .val (.int (0 : Int32)), .val (.ref a3), .val (.int (0 : Int32)), .val (.int (1 : Int32)), .val (.int ((0 : Int32) + (1 : Int32))), .unset, .unset]) X0 hx (v := (1 : Int32)) (hb hby own_d13_95) (q := 98) rfl rfl rfl rfl ?_
  rw [show ((0 : Int32) + (1 : Int32) : Int32) = (1 : Int32) from by decide]
  refine own_goto X0 hx (hb hby own_d13_98) (q := 70) (by decide) (by decide) ?_
  refine own_iload X0 hx (hb hby own_d13_70) (q := 72) rfl rfl ?_
  refine own_iload X0 hx (hb hby own_d13_72) (q := 74) rfl rfl ?_
  refine own_icmpM X0 hx (hb hby own_d13_74) (cd := .ge) (x := (1 : Int32)) (y := (1 : Int32)) (pt := 101) (q := 77) (by decide) (by decide) rfl rfl (fun _ => ?_) (fun h => False.elim (((by decide) : ¬ ((1 : Int32) < (1 : Int32))) h))
  refine own_iconst X0 hx (v := (-1 : Int32)) (hb hby own_d13_101) (q := 102) rfl rfl ?_
  refine own_retI X0 hx hlk Bd.returns (hb hby own_d13_102) ?_ (by decide) (by decide)
  have r : own_f13_1  = (-1 : Int32) := by rw [own_f13_1]
  exact ⟨by rw [r] <;> rfl, e0, rfl⟩

def own_f13_2 (u1 : Int32) : Int32 := (-1 : Int32)
set_option maxRecDepth 65536 in
set_option maxHeartbeats 40000000 in
theorem rm13_2 (l : Launch) (Z : State) (a0 : Array Value) (hw : ∀ d ∈ tables_1, d.before a0 Z = true) (ws : List Jvm.Cond) (a1 : Addr) (a3 : Addr) (u1 : Int32) (h0 : Heap) (V0p : own_A Z h0 a1 .byte [.int (47 : Int32), .int u1]) (V1p : own_A Z h0 a3 .byte [.int (47 : Int32)]) :
    MetFree l (⟨"jdk/internal/util/ArraysSupport", "mismatch", "([BI[BII)I"⟩ : MethodName) (head1 (Jvm.Cond.code (⟨"jdk/internal/util/ArraysSupport", "mismatch", "([BI[BII)I"⟩ : MethodName) jdk_48_method_14_code 8 (some .int) :: ws) ({ frames := 0, cells := 0, slots := 0, locals := 0 } : Room)) (fun a U => a = #[.ref a1, .int (0 : Int32), .ref a3, .int (0 : Int32), .int (1 : Int32)] ∧ Z.Warmed39 U.vm ∧ U.heap = h0) (fun _ _ _ _ _ => True) (fun _ U o U' => ∃ v L, o = .returned v ∧ own_P (.int (own_f13_2 u1)) h0 v U'.heap L ∧ FrameEnd U o U' L ({ frames := 0, cells := 0, slots := 0, locals := 0 } : Room).cells ({ frames := 0, cells := 0, slots := 0, locals := 0 } : Room).slots) := by
  refine MetFree.of_bodySF (plainFor_of_name own_pn3) hisR ?_
  intro p e s m args below meth c s₁ Bd hml0 hP hK
  obtain ⟨rfl, hZ, hh⟩ := hP
  have hx := Bd.exec
  have hby := Bd.bytes
  have hml : c.maxLocals = 8 := hml0
  have hown : s.vm.findClass "jdk/internal/util/ArraysSupport" = some m.cls := findClass_of_methodNamed Bd.named
  have hnm := (name_of_methodNamed Bd.named Bd.method).1
  have hlk : meth.locks = false := BodyLoose.notSynchronized Bd
  have X0 : Stand p l e ({ frames := 0, cells := 0, slots := 0, locals := 0 } : Room) s m #[.ref a1, .int (0 : Int32), .ref a3, .int (0 : Int32), .int (1 : Int32)] below meth c s₁ [] 0 0 := Stand.of_body Bd
  have e0 : s₁.heap = h0 := by rw [← hh, Bd.state]; rfl
  show own_Go p e below (own_E s 0 0 (own_P (.int (own_f13_2 u1)) h0)) (s₁.setTop (entryFrame m #[.ref a1, .int (0 : Int32), .ref a3, .int (0 : Int32), .int (1 : Int32)] 8))
  rw [own_ef13_k0_k0_k1]
  refine own_iconst X0 hx (v := (0 : Int32)) (hb hby own_d13_0) (q := 1) rfl rfl ?_
  refine own_istore (L' := #[.val (.ref a1), .val (.int (0 : Int32)), .val (.ref a3), .val (.int (0 : Int32)), .val (.int (1 : Int32)), .val (.int (0 : Int32)), .unset, .unset]) X0 hx (hb hby own_d13_1) (q := 3) rfl rfl ?_
  refine own_iload X0 hx (hb hby own_d13_3) (q := 5) rfl rfl ?_
  refine own_bipush X0 hx (v := (7 : Int32)) (hb hby own_d13_5) (q := 7) rfl rfl ?_
  refine own_icmpM X0 hx (hb hby own_d13_7) (cd := .le) (x := (1 : Int32)) (y := (7 : Int32)) (pt := 70) (q := 10) (by decide) (by decide) rfl rfl (fun _ => ?_) (fun h => False.elim (((by decide) : ¬ ((7 : Int32) < (1 : Int32))) h))
  refine own_iload X0 hx (hb hby own_d13_70) (q := 72) rfl rfl ?_
  refine own_iload X0 hx (hb hby own_d13_72) (q := 74) rfl rfl ?_
  refine own_icmpM X0 hx (hb hby own_d13_74) (cd := .ge) (x := (0 : Int32)) (y := (1 : Int32)) (pt := 101) (q := 77) (by decide) (by decide) rfl rfl (fun h => False.elim (h ((by decide) : (0 : Int32) < (1 : Int32)))) (fun _ => ?_)
  refine own_aloadN X0 hx (hb hby own_d13_77) (q := 78) rfl rfl rfl ?_
  refine own_iloadN X0 hx (hb hby own_d13_78) (q := 79) rfl rfl ?_
  refine own_iload X0 hx (hb hby own_d13_79) (q := 81) rfl rfl ?_
  refine own_iadd X0 hx (hb hby own_d13_81) (q := 82) rfl ?_
  rw [show ((0 : Int32) + (0 : Int32) : Int32) = (0 : Int32) from by decide]
  refine own_baload X0 hx hZ (i := 0) (v := .int (47 : Int32)) e0 V0p (by decide) (by decide) rfl (hb hby own_d13_82) (q := 83) rfl ?_
  refine own_aloadN X0 hx (hb hby own_d13_83) (q := 84) rfl rfl rfl ?_
  refine own_iloadN X0 hx (hb hby own_d13_84) (q := 85) rfl rfl ?_
  refine own_iload X0 hx (hb hby own_d13_85) (q := 87) rfl rfl ?_
  refine own_iadd X0 hx (hb hby own_d13_87) (q := 88) rfl ?_
  rw [show ((0 : Int32) + (0 : Int32) : Int32) = (0 : Int32) from by decide]
  refine own_baload X0 hx hZ (i := 0) (v := .int (47 : Int32)) e0 V1p (by decide) (by decide) rfl (hb hby own_d13_88) (q := 89) rfl ?_
  refine own_icmpP X0 hx (hb hby own_d13_89) (cd := .eq) (x := (47 : Int32)) (y := (47 : Int32)) (pt := 95) (q := 92) (by decide) (by decide) rfl rfl (fun _ => ?_) (fun h => False.elim (h ((by decide) : (47 : Int32) = (47 : Int32))))
  refine own_iinc (L' := #[.val (.ref a1), .val (.int (0 : Int32)), .val (.ref a3), .val (.int (0 : Int32)), .val (.int (1 : Int32)), .val (.int ((0 : Int32) + (1 : Int32))), .unset, .unset]) X0 hx (v := (1 : Int32)) (hb hby own_d13_95) (q := 98) rfl rfl rfl rfl ?_
  rw [show ((0 : Int32) + (1 : Int32) : Int32) = (1 : Int32) from by decide]
  refine own_goto X0 hx (hb hby own_d13_98) (q := 70) (by decide) (by decide) ?_
  refine own_iload X0 hx (hb hby own_d13_70) (q := 72) rfl rfl ?_
  refine own_iload X0 hx (hb hby own_d13_72) (q := 74) rfl rfl ?_
  refine own_icmpM X0 hx (hb hby own_d13_74) (cd := .ge) (x := (1 : Int32)) (y := (1 : Int32)) (pt := 101) (q := 77) (by decide) (by decide) rfl rfl (fun _ => ?_) (fun h => False.elim (((by decide) : ¬ ((1 : Int32) < (1 : Int32))) h))
  refine own_iconst X0 hx (v := (-1 : Int32)) (hb hby own_d13_101) (q := 102) rfl rfl ?_
  refine own_retI X0 hx hlk Bd.returns (hb hby own_d13_102) ?_ (by decide) (by decide)
  have r : own_f13_2 u1 = (-1 : Int32) := by rw [own_f13_2]
  exact ⟨by rw [r] <;> rfl, e0, rfl⟩

def own_f13_3 (u1 : Int32) (u2 : Int32) : Int32 := (-1 : Int32)
set_option maxRecDepth 65536 in
set_option maxHeartbeats 40000000 in
theorem rm13_3 (l : Launch) (Z : State) (a0 : Array Value) (hw : ∀ d ∈ tables_1, d.before a0 Z = true) (ws : List Jvm.Cond) (a1 : Addr) (a3 : Addr) (u1 : Int32) (u2 : Int32) (h0 : Heap) (V0p : own_A Z h0 a1 .byte [.int (47 : Int32), .int u1, .int u2]) (V1p : own_A Z h0 a3 .byte [.int (47 : Int32)]) :
    MetFree l (⟨"jdk/internal/util/ArraysSupport", "mismatch", "([BI[BII)I"⟩ : MethodName) (head1 (Jvm.Cond.code (⟨"jdk/internal/util/ArraysSupport", "mismatch", "([BI[BII)I"⟩ : MethodName) jdk_48_method_14_code 8 (some .int) :: ws) ({ frames := 0, cells := 0, slots := 0, locals := 0 } : Room)) (fun a U => a = #[.ref a1, .int (0 : Int32), .ref a3, .int (0 : Int32), .int (1 : Int32)] ∧ Z.Warmed39 U.vm ∧ U.heap = h0) (fun _ _ _ _ _ => True) (fun _ U o U' => ∃ v L, o = .returned v ∧ own_P (.int (own_f13_3 u1 u2)) h0 v U'.heap L ∧ FrameEnd U o U' L ({ frames := 0, cells := 0, slots := 0, locals := 0 } : Room).cells ({ frames := 0, cells := 0, slots := 0, locals := 0 } : Room).slots) := by
  refine MetFree.of_bodySF (plainFor_of_name own_pn3) hisR ?_
  intro p e s m args below meth c s₁ Bd hml0 hP hK
  obtain ⟨rfl, hZ, hh⟩ := hP
  have hx := Bd.exec
  have hby := Bd.bytes
  have hml : c.maxLocals = 8 := hml0
  have hown : s.vm.findClass "jdk/internal/util/ArraysSupport" = some m.cls := findClass_of_methodNamed Bd.named
  have hnm := (name_of_methodNamed Bd.named Bd.method).1
  have hlk : meth.locks = false := BodyLoose.notSynchronized Bd
  have X0 : Stand p l e ({ frames := 0, cells := 0, slots := 0, locals := 0 } : Room) s m #[.ref a1, .int (0 : Int32), .ref a3, .int (0 : Int32), .int (1 : Int32)] below meth c s₁ [] 0 0 := Stand.of_body Bd
  have e0 : s₁.heap = h0 := by rw [← hh, Bd.state]; rfl
  show own_Go p e below (own_E s 0 0 (own_P (.int (own_f13_3 u1 u2)) h0)) (s₁.setTop (entryFrame m #[.ref a1, .int (0 : Int32), .ref a3, .int (0 : Int32), .int (1 : Int32)] 8))
  rw [own_ef13_k0_k0_k1]
  refine own_iconst X0 hx (v := (0 : Int32)) (hb hby own_d13_0) (q := 1) rfl rfl ?_
  refine own_istore (L' := #[.val (.ref a1), .val (.int (0 : Int32)), .val (.ref a3), .val (.int (0 : Int32)), .val (.int (1 : Int32)), .val (.int (0 : Int32)), .unset, .unset]) X0 hx (hb hby own_d13_1) (q := 3) rfl rfl ?_
  refine own_iload X0 hx (hb hby own_d13_3) (q := 5) rfl rfl ?_
  refine own_bipush X0 hx (v := (7 : Int32)) (hb hby own_d13_5) (q := 7) rfl rfl ?_
  refine own_icmpM X0 hx (hb hby own_d13_7) (cd := .le) (x := (1 : Int32)) (y := (7 : Int32)) (pt := 70) (q := 10) (by decide) (by decide) rfl rfl (fun _ => ?_) (fun h => False.elim (((by decide) : ¬ ((7 : Int32) < (1 : Int32))) h))
  refine own_iload X0 hx (hb hby own_d13_70) (q := 72) rfl rfl ?_
  refine own_iload X0 hx (hb hby own_d13_72) (q := 74) rfl rfl ?_
  refine own_icmpM X0 hx (hb hby own_d13_74) (cd := .ge) (x := (0 : Int32)) (y := (1 : Int32)) (pt := 101) (q := 77) (by decide) (by decide) rfl rfl (fun h => False.elim (h ((by decide) : (0 : Int32) < (1 : Int32)))) (fun _ => ?_)
  refine own_aloadN X0 hx (hb hby own_d13_77) (q := 78) rfl rfl rfl ?_
  refine own_iloadN X0 hx (hb hby own_d13_78) (q := 79) rfl rfl ?_
  refine own_iload X0 hx (hb hby own_d13_79) (q := 81) rfl rfl ?_
  refine own_iadd X0 hx (hb hby own_d13_81) (q := 82) rfl ?_
  rw [show ((0 : Int32) + (0 : Int32) : Int32) = (0 : Int32) from by decide]
  refine own_baload X0 hx hZ (i := 0) (v := .int (47 : Int32)) e0 V0p (by decide) (by decide) rfl (hb hby own_d13_82) (q := 83) rfl ?_
  refine own_aloadN X0 hx (hb hby own_d13_83) (q := 84) rfl rfl rfl ?_
  refine own_iloadN X0 hx (hb hby own_d13_84) (q := 85) rfl rfl ?_
  refine own_iload X0 hx (hb hby own_d13_85) (q := 87) rfl rfl ?_
  refine own_iadd X0 hx (hb hby own_d13_87) (q := 88) rfl ?_
  rw [show ((0 : Int32) + (0 : Int32) : Int32) = (0 : Int32) from by decide]
  refine own_baload X0 hx hZ (i := 0) (v := .int (47 : Int32)) e0 V1p (by decide) (by decide) rfl (hb hby own_d13_88) (q := 89) rfl ?_
  refine own_icmpP X0 hx (hb hby own_d13_89) (cd := .eq) (x := (47 : Int32)) (y := (47 : Int32)) (pt := 95) (q := 92) (by decide) (by decide) rfl rfl (fun _ => ?_) (fun h => False.elim (h ((by decide) : (47 : Int32) = (47 : Int32))))
  refine own_iinc (L' := #[.val (.ref a1), .val (.int (0 : Int32)), .val (.ref a3), .val (.int (0 : Int32)), .val (.int (1 : Int32)), .val (.int ((0 : Int32) + (1 : Int32))), .unset, .unset]) X0 hx (v := (1 : Int32)) (hb hby own_d13_95) (q := 98) rfl rfl rfl rfl ?_
  rw [show ((0 : Int32) + (1 : Int32) : Int32) = (1 : Int32) from by decide]
  refine own_goto X0 hx (hb hby own_d13_98) (q := 70) (by decide) (by decide) ?_
  refine own_iload X0 hx (hb hby own_d13_70) (q := 72) rfl rfl ?_
  refine own_iload X0 hx (hb hby own_d13_72) (q := 74) rfl rfl ?_
  refine own_icmpM X0 hx (hb hby own_d13_74) (cd := .ge) (x := (1 : Int32)) (y := (1 : Int32)) (pt := 101) (q := 77) (by decide) (by decide) rfl rfl (fun _ => ?_) (fun h => False.elim (((by decide) : ¬ ((1 : Int32) < (1 : Int32))) h))
  refine own_iconst X0 hx (v := (-1 : Int32)) (hb hby own_d13_101) (q := 102) rfl rfl ?_
  refine own_retI X0 hx hlk Bd.returns (hb hby own_d13_102) ?_ (by decide) (by decide)
  have r : own_f13_3 u1 u2 = (-1 : Int32) := by rw [own_f13_3]
  exact ⟨by rw [r] <;> rfl, e0, rfl⟩

def own_f13_4 (u1 : Int32) (u2 : Int32) (u3 : Int32) : Int32 := (-1 : Int32)
set_option maxRecDepth 65536 in
set_option maxHeartbeats 40000000 in
theorem rm13_4 (l : Launch) (Z : State) (a0 : Array Value) (hw : ∀ d ∈ tables_1, d.before a0 Z = true) (ws : List Jvm.Cond) (a1 : Addr) (a3 : Addr) (u1 : Int32) (u2 : Int32) (u3 : Int32) (h0 : Heap) (V0p : own_A Z h0 a1 .byte [.int (47 : Int32), .int u1, .int u2, .int u3]) (V1p : own_A Z h0 a3 .byte [.int (47 : Int32)]) :
    MetFree l (⟨"jdk/internal/util/ArraysSupport", "mismatch", "([BI[BII)I"⟩ : MethodName) (head1 (Jvm.Cond.code (⟨"jdk/internal/util/ArraysSupport", "mismatch", "([BI[BII)I"⟩ : MethodName) jdk_48_method_14_code 8 (some .int) :: ws) ({ frames := 0, cells := 0, slots := 0, locals := 0 } : Room)) (fun a U => a = #[.ref a1, .int (0 : Int32), .ref a3, .int (0 : Int32), .int (1 : Int32)] ∧ Z.Warmed39 U.vm ∧ U.heap = h0) (fun _ _ _ _ _ => True) (fun _ U o U' => ∃ v L, o = .returned v ∧ own_P (.int (own_f13_4 u1 u2 u3)) h0 v U'.heap L ∧ FrameEnd U o U' L ({ frames := 0, cells := 0, slots := 0, locals := 0 } : Room).cells ({ frames := 0, cells := 0, slots := 0, locals := 0 } : Room).slots) := by
  refine MetFree.of_bodySF (plainFor_of_name own_pn3) hisR ?_
  intro p e s m args below meth c s₁ Bd hml0 hP hK
  obtain ⟨rfl, hZ, hh⟩ := hP
  have hx := Bd.exec
  have hby := Bd.bytes
  have hml : c.maxLocals = 8 := hml0
  have hown : s.vm.findClass "jdk/internal/util/ArraysSupport" = some m.cls := findClass_of_methodNamed Bd.named
  have hnm := (name_of_methodNamed Bd.named Bd.method).1
  have hlk : meth.locks = false := BodyLoose.notSynchronized Bd
  have X0 : Stand p l e ({ frames := 0, cells := 0, slots := 0, locals := 0 } : Room) s m #[.ref a1, .int (0 : Int32), .ref a3, .int (0 : Int32), .int (1 : Int32)] below meth c s₁ [] 0 0 := Stand.of_body Bd
  have e0 : s₁.heap = h0 := by rw [← hh, Bd.state]; rfl
  show own_Go p e below (own_E s 0 0 (own_P (.int (own_f13_4 u1 u2 u3)) h0)) (s₁.setTop (entryFrame m #[.ref a1, .int (0 : Int32), .ref a3, .int (0 : Int32), .int (1 : Int32)] 8))
  rw [own_ef13_k0_k0_k1]
  refine own_iconst X0 hx (v := (0 : Int32)) (hb hby own_d13_0) (q := 1) rfl rfl ?_
  refine own_istore (L' := #[.val (.ref a1), .val (.int (0 : Int32)), .val (.ref a3), .val (.int (0 : Int32)), .val (.int (1 : Int32)), .val (.int (0 : Int32)), .unset, .unset]) X0 hx (hb hby own_d13_1) (q := 3) rfl rfl ?_
  refine own_iload X0 hx (hb hby own_d13_3) (q := 5) rfl rfl ?_
  refine own_bipush X0 hx (v := (7 : Int32)) (hb hby own_d13_5) (q := 7) rfl rfl ?_
  refine own_icmpM X0 hx (hb hby own_d13_7) (cd := .le) (x := (1 : Int32)) (y := (7 : Int32)) (pt := 70) (q := 10) (by decide) (by decide) rfl rfl (fun _ => ?_) (fun h => False.elim (((by decide) : ¬ ((7 : Int32) < (1 : Int32))) h))
  refine own_iload X0 hx (hb hby own_d13_70) (q := 72) rfl rfl ?_
  refine own_iload X0 hx (hb hby own_d13_72) (q := 74) rfl rfl ?_
  refine own_icmpM X0 hx (hb hby own_d13_74) (cd := .ge) (x := (0 : Int32)) (y := (1 : Int32)) (pt := 101) (q := 77) (by decide) (by decide) rfl rfl (fun h => False.elim (h ((by decide) : (0 : Int32) < (1 : Int32)))) (fun _ => ?_)
  refine own_aloadN X0 hx (hb hby own_d13_77) (q := 78) rfl rfl rfl ?_
  refine own_iloadN X0 hx (hb hby own_d13_78) (q := 79) rfl rfl ?_
  refine own_iload X0 hx (hb hby own_d13_79) (q := 81) rfl rfl ?_
  refine own_iadd X0 hx (hb hby own_d13_81) (q := 82) rfl ?_
  rw [show ((0 : Int32) + (0 : Int32) : Int32) = (0 : Int32) from by decide]
  refine own_baload X0 hx hZ (i := 0) (v := .int (47 : Int32)) e0 V0p (by decide) (by decide) rfl (hb hby own_d13_82) (q := 83) rfl ?_
  refine own_aloadN X0 hx (hb hby own_d13_83) (q := 84) rfl rfl rfl ?_
  refine own_iloadN X0 hx (hb hby own_d13_84) (q := 85) rfl rfl ?_
  refine own_iload X0 hx (hb hby own_d13_85) (q := 87) rfl rfl ?_
  refine own_iadd X0 hx (hb hby own_d13_87) (q := 88) rfl ?_
  rw [show ((0 : Int32) + (0 : Int32) : Int32) = (0 : Int32) from by decide]
  refine own_baload X0 hx hZ (i := 0) (v := .int (47 : Int32)) e0 V1p (by decide) (by decide) rfl (hb hby own_d13_88) (q := 89) rfl ?_
  refine own_icmpP X0 hx (hb hby own_d13_89) (cd := .eq) (x := (47 : Int32)) (y := (47 : Int32)) (pt := 95) (q := 92) (by decide) (by decide) rfl rfl (fun _ => ?_) (fun h => False.elim (h ((by decide) : (47 : Int32) = (47 : Int32))))
  refine own_iinc (L' := #[.val (.ref a1), .val (.int (0 : Int32)), .val (.ref a3), .val (.int (0 : Int32)), .val (.int (1 : Int32)), .val (.int ((0 : Int32) + (1 : Int32))), .unset, .unset]) X0 hx (v := (1 : Int32)) (hb hby own_d13_95) (q := 98) rfl rfl rfl rfl ?_
  rw [show ((0 : Int32) + (1 : Int32) : Int32) = (1 : Int32) from by decide]
  refine own_goto X0 hx (hb hby own_d13_98) (q := 70) (by decide) (by decide) ?_
  refine own_iload X0 hx (hb hby own_d13_70) (q := 72) rfl rfl ?_
  refine own_iload X0 hx (hb hby own_d13_72) (q := 74) rfl rfl ?_
  refine own_icmpM X0 hx (hb hby own_d13_74) (cd := .ge) (x := (1 : Int32)) (y := (1 : Int32)) (pt := 101) (q := 77) (by decide) (by decide) rfl rfl (fun _ => ?_) (fun h => False.elim (((by decide) : ¬ ((1 : Int32) < (1 : Int32))) h))
  refine own_iconst X0 hx (v := (-1 : Int32)) (hb hby own_d13_101) (q := 102) rfl rfl ?_
  refine own_retI X0 hx hlk Bd.returns (hb hby own_d13_102) ?_ (by decide) (by decide)
  have r : own_f13_4 u1 u2 u3 = (-1 : Int32) := by rw [own_f13_4]
  exact ⟨by rw [r] <;> rfl, e0, rfl⟩
theorem own_pd1 : parseMethodDescriptor "()I" = some ⟨[], some .int⟩ := by decide +kernel
theorem own_pd2 : parseMethodDescriptor "([BI[BII)I" = some ⟨[(.array .byte), .int, (.array .byte), .int, .int], some .int⟩ := by decide +kernel
theorem own_ef10_k0 (m : MethodId) (a1 : Addr) (a2 : Addr) : entryFrame m #[.ref a1, .ref a2, .int (0 : Int32)] 8 = mkF m 0 #[.val (.ref a1), .val (.ref a2), .val (.int (0 : Int32)), .unset, .unset, .unset, .unset, .unset] [] := by first | (simp [entryFrame, mkF, argsToLocals, Value.category]; done) | rfl
theorem own_d10_0 : decode jdk_42_method_75_code 0 = .ok (.iload_n 2, 1) := by decide +kernel
theorem own_d10_1 : decode jdk_42_method_75_code 1 = .ok (.ifCond .lt 16, 3) := by decide +kernel
theorem own_d10_4 : decode jdk_42_method_75_code 4 = .ok (.iload_n 2, 1) := by decide +kernel
theorem own_d10_5 : decode jdk_42_method_75_code 5 = .ok (.aload_n 0, 1) := by decide +kernel
theorem own_d10_6 : decode jdk_42_method_75_code 6 = .ok (.invokevirtual 505, 3) := by decide +kernel
theorem own_d10_9 : decode jdk_42_method_75_code 9 = .ok (.aload_n 1, 1) := by decide +kernel
theorem own_d10_10 : decode jdk_42_method_75_code 10 = .ok (.invokevirtual 505, 3) := by decide +kernel
theorem own_d10_13 : decode jdk_42_method_75_code 13 = .ok (.isub, 1) := by decide +kernel
theorem own_d10_14 : decode jdk_42_method_75_code 14 = .ok (.if_icmp .le 5, 3) := by decide +kernel
theorem own_d10_19 : decode jdk_42_method_75_code 19 = .ok (.aload_n 0, 1) := by decide +kernel
theorem own_d10_20 : decode jdk_42_method_75_code 20 = .ok (.getfield 9, 3) := by decide +kernel
theorem own_d10_23 : decode jdk_42_method_75_code 23 = .ok (.astore_n 3, 1) := by decide +kernel
theorem own_d10_24 : decode jdk_42_method_75_code 24 = .ok (.aload_n 1, 1) := by decide +kernel
theorem own_d10_25 : decode jdk_42_method_75_code 25 = .ok (.getfield 9, 3) := by decide +kernel
theorem own_d10_28 : decode jdk_42_method_75_code 28 = .ok (.astore 4, 2) := by decide +kernel
theorem own_d10_30 : decode jdk_42_method_75_code 30 = .ok (.iconst 0, 1) := by decide +kernel
theorem own_d10_31 : decode jdk_42_method_75_code 31 = .ok (.istore 5, 2) := by decide +kernel
theorem own_d10_33 : decode jdk_42_method_75_code 33 = .ok (.aload 4, 2) := by decide +kernel
theorem own_d10_35 : decode jdk_42_method_75_code 35 = .ok (.arraylength, 1) := by decide +kernel
theorem own_d10_36 : decode jdk_42_method_75_code 36 = .ok (.istore 6, 2) := by decide +kernel
theorem own_d10_38 : decode jdk_42_method_75_code 38 = .ok (.aload_n 0, 1) := by decide +kernel
theorem own_d10_39 : decode jdk_42_method_75_code 39 = .ok (.invokevirtual 335, 3) := by decide +kernel
theorem own_d10_42 : decode jdk_42_method_75_code 42 = .ok (.istore 7, 2) := by decide +kernel
theorem own_d10_44 : decode jdk_42_method_75_code 44 = .ok (.iload 7, 2) := by decide +kernel
theorem own_d10_46 : decode jdk_42_method_75_code 46 = .ok (.aload_n 1, 1) := by decide +kernel
theorem own_d10_47 : decode jdk_42_method_75_code 47 = .ok (.invokevirtual 335, 3) := by decide +kernel
theorem own_d10_50 : decode jdk_42_method_75_code 50 = .ok (.if_icmp .ne 32, 3) := by decide +kernel
theorem own_d10_53 : decode jdk_42_method_75_code 53 = .ok (.iload 7, 2) := by decide +kernel
theorem own_d10_55 : decode jdk_42_method_75_code 55 = .ok (.iconst 1, 1) := by decide +kernel
theorem own_d10_56 : decode jdk_42_method_75_code 56 = .ok (.if_icmp .ne 7, 3) := by decide +kernel
theorem own_d10_63 : decode jdk_42_method_75_code 63 = .ok (.aload_n 3, 1) := by decide +kernel
theorem own_d10_64 : decode jdk_42_method_75_code 64 = .ok (.iload_n 2, 1) := by decide +kernel
theorem own_d10_65 : decode jdk_42_method_75_code 65 = .ok (.aload 4, 2) := by decide +kernel
theorem own_d10_67 : decode jdk_42_method_75_code 67 = .ok (.iconst 0, 1) := by decide +kernel
theorem own_d10_68 : decode jdk_42_method_75_code 68 = .ok (.iload 6, 2) := by decide +kernel
theorem own_d10_70 : decode jdk_42_method_75_code 70 = .ok (.invokestatic 607, 3) := by decide +kernel
theorem own_d10_73 : decode jdk_42_method_75_code 73 = .ok (.ifCond .ge 7, 3) := by decide +kernel
theorem own_d10_76 : decode jdk_42_method_75_code 76 = .ok (.iconst 1, 1) := by decide +kernel
theorem own_d10_77 : decode jdk_42_method_75_code 77 = .ok (.goto 4, 3) := by decide +kernel
theorem own_d10_81 : decode jdk_42_method_75_code 81 = .ok (.ireturn, 1) := by decide +kernel
def own_f10_1 (cs : Int32) (b1 : Addr) (b2 : Addr) : Int32 := (1 : Int32)
set_option maxRecDepth 65536 in
set_option maxHeartbeats 40000000 in
theorem rm10_1 (l : Launch) (Z : State) (a0 : Array Value) (hw : ∀ d ∈ tables_1, d.before a0 Z = true) (ws : List Jvm.Cond) (a1 : Addr) (a2 : Addr) (cs : Int32) (b1 : Addr) (b2 : Addr) (h0 : Heap) (S0p : Sta Z h0 "java/lang/String" "COMPACT_STRINGS" "Z" (.int cs)) (E1p : Exa Z h0 a1 "java/lang/String") (F2p : Fld Z h0 a1 "java/lang/String" "value" "[B" (.ref b1)) (F3p : Fld Z h0 a1 "java/lang/String" "coder" "B" (.int (0 : Int32))) (V4p : own_A Z h0 b1 .byte [.int (47 : Int32)]) (E5p : Exa Z h0 a2 "java/lang/String") (F6p : Fld Z h0 a2 "java/lang/String" "value" "[B" (.ref b2)) (F7p : Fld Z h0 a2 "java/lang/String" "coder" "B" (.int (0 : Int32))) (V8p : own_A Z h0 b2 .byte [.int (47 : Int32)]) (P0 : ¬ cs = 0) :
    MetFree l (⟨"java/lang/String", "startsWith", "(Ljava/lang/String;I)Z"⟩ : MethodName) (head1 (Jvm.Cond.code (⟨"java/lang/String", "startsWith", "(Ljava/lang/String;I)Z"⟩ : MethodName) jdk_42_method_75_code 8 (some .boolean) :: ws) ({ frames := 2, cells := 0, slots := 0, locals := 27 } : Room)) (fun a U => a = #[.ref a1, .ref a2, .int (0 : Int32)] ∧ Z.Warmed39 U.vm ∧ U.heap = h0) (fun _ _ _ _ _ => True) (fun _ U o U' => ∃ v L, o = .returned v ∧ own_P (.int (own_f10_1 cs b1 b2)) h0 v U'.heap L ∧ FrameEnd U o U' L ({ frames := 2, cells := 0, slots := 0, locals := 27 } : Room).cells ({ frames := 2, cells := 0, slots := 0, locals := 27 } : Room).slots) := by
  refine MetFree.of_bodySF (plainFor_of_name own_pn0) hisR ?_
  intro p e s m args below meth c s₁ Bd hml0 hP hK
  obtain ⟨rfl, hZ, hh⟩ := hP
  have hx := Bd.exec
  have hby := Bd.bytes
  have hml : c.maxLocals = 8 := hml0
  have hown : s.vm.findClass "java/lang/String" = some m.cls := findClass_of_methodNamed Bd.named
  have hnm := (name_of_methodNamed Bd.named Bd.method).1
  have hlk : meth.locks = false := BodyLoose.notSynchronized Bd
  have X0 : Stand p l e ({ frames := 2, cells := 0, slots := 0, locals := 27 } : Room) s m #[.ref a1, .ref a2, .int (0 : Int32)] below meth c s₁ [] 0 0 := Stand.of_body Bd
  have e0 : s₁.heap = h0 := by rw [← hh, Bd.state]; rfl
  show own_Go p e below (own_E s 0 0 (own_P (.int (own_f10_1 cs b1 b2)) h0)) (s₁.setTop (entryFrame m #[.ref a1, .ref a2, .int (0 : Int32)] 8))
  rw [own_ef10_k0]
  refine own_iloadN X0 hx (hb hby own_d10_0) (q := 1) rfl rfl ?_
  refine own_if0P X0 hx (hb hby own_d10_1) (cd := .lt) (x := (0 : Int32)) (pt := 17) (q := 4) (by decide) (by decide) rfl rfl (fun h => False.elim (((by decide) : ¬ ((0 : Int32) < (0 : Int32))) h)) (fun _ => ?_)
  refine own_iloadN X0 hx (hb hby own_d10_4) (q := 5) rfl rfl ?_
  refine own_aloadN X0 hx (hb hby own_d10_5) (q := 6) rfl rfl rfl ?_
  refine own_callVP X0 hx hZ hown (hw _ (List.mem_of_getElem? (i := 52) rfl)) (hw _ (List.mem_of_getElem? (i := 53) rfl)) (hw _ (List.mem_of_getElem? (i := 55) rfl)) (hw _ (List.mem_of_getElem? (i := 55) rfl)) (hw _ (List.mem_of_getElem? (i := 54) rfl)) (hw _ (List.mem_of_getElem? (i := 2) rfl)) (hw _ (List.mem_of_getElem? (i := 56) rfl)) E1p (by decide) (rm11_1 l Z a0 hw [] a1 cs b1 h0 S0p E1p F2p F3p V4p P0) own_pd1 rfl e0 (by rw [hml]; rfl) (argsL := []) (st := [.int (0 : Int32)]) rfl (W := 1) (Nat.le_of_eq rfl) (by decide) (by decide) (by decide) (by decide) (hb hby own_d10_6) (q := 9) rfl (fun T31 X32 e33 => ?_)
  rw [show (own_f11_1 cs b1 : Int32) = (1 : Int32) from rfl]
  refine own_aloadN X32 hx (hb hby own_d10_9) (q := 10) rfl rfl rfl ?_
  refine own_callVP X32 hx hZ hown (hw _ (List.mem_of_getElem? (i := 52) rfl)) (hw _ (List.mem_of_getElem? (i := 53) rfl)) (hw _ (List.mem_of_getElem? (i := 55) rfl)) (hw _ (List.mem_of_getElem? (i := 55) rfl)) (hw _ (List.mem_of_getElem? (i := 54) rfl)) (hw _ (List.mem_of_getElem? (i := 2) rfl)) (hw _ (List.mem_of_getElem? (i := 56) rfl)) E5p (by decide) (rm11_1 l Z a0 hw [] a2 cs b2 h0 S0p E5p F6p F7p V8p P0) own_pd1 rfl e33 (by rw [hml]; rfl) (argsL := []) (st := [.int (1 : Int32), .int (0 : Int32)]) rfl (W := 2) (Nat.le_of_eq rfl) (by decide) (by decide) (by decide) (by decide) (hb hby own_d10_10) (q := 13) rfl (fun T34 X35 e36 => ?_)
  rw [show (own_f11_1 cs b2 : Int32) = (1 : Int32) from rfl]
  refine own_isub X35 hx (hb hby own_d10_13) (q := 14) rfl ?_
  rw [show ((1 : Int32) - (1 : Int32) : Int32) = (0 : Int32) from by decide]
  refine own_icmpM X35 hx (hb hby own_d10_14) (cd := .le) (x := (0 : Int32)) (y := (0 : Int32)) (pt := 19) (q := 17) (by decide) (by decide) rfl rfl (fun _ => ?_) (fun h => False.elim (((by decide) : ¬ ((0 : Int32) < (0 : Int32))) h))
  refine own_aloadN X35 hx (hb hby own_d10_19) (q := 20) rfl rfl rfl ?_
  refine own_getF X35 hx hZ hown (host := "") (Or.inl (hw _ (List.mem_of_getElem? (i := 28) rfl))) Via.refl e36 F2p (hb hby own_d10_20) (q := 23) rfl (fun T37 X38 e39 => ?_)
  refine own_astoreN (L' := #[.val (.ref a1), .val (.ref a2), .val (.int (0 : Int32)), .val (.ref b1), .unset, .unset, .unset, .unset]) X38 hx (hb hby own_d10_23) (q := 24) rfl rfl rfl ?_
  refine own_aloadN X38 hx (hb hby own_d10_24) (q := 25) rfl rfl rfl ?_
  refine own_getF X38 hx hZ hown (host := "") (Or.inl (hw _ (List.mem_of_getElem? (i := 28) rfl))) Via.refl e39 F6p (hb hby own_d10_25) (q := 28) rfl (fun T40 X41 e42 => ?_)
  refine own_astore (L' := #[.val (.ref a1), .val (.ref a2), .val (.int (0 : Int32)), .val (.ref b1), .val (.ref b2), .unset, .unset, .unset]) X41 hx (hb hby own_d10_28) (q := 30) rfl rfl rfl ?_
  refine own_iconst X41 hx (v := (0 : Int32)) (hb hby own_d10_30) (q := 31) rfl rfl ?_
  refine own_istore (L' := #[.val (.ref a1), .val (.ref a2), .val (.int (0 : Int32)), .val (.ref b1), .val (.ref b2), .val (.int (0 : Int32)), .unset, .unset]) X41 hx (hb hby own_d10_31) (q := 33) rfl rfl ?_
  refine own_aload X41 hx (hb hby own_d10_33) (q := 35) rfl rfl rfl ?_
  refine own_alen X41 hx hZ (n := (1 : Int32)) e42 V8p rfl (hb hby own_d10_35) (q := 36) rfl ?_
  refine own_istore (L' := #[.val (.ref a1), .val (.ref a2), .val (.int (0 : Int32)), .val (.ref b1), .val (.ref b2), .val (.int (0 : Int32)), .val (.int (1 : Int32)), .unset]) X41 hx (hb hby own_d10_36) (q := 38) rfl rfl ?_
  refine own_aloadN X41 hx (hb hby own_d10_38) (q := 39) rfl rfl rfl ?_
  refine own_callVP X41 hx hZ hown (hw _ (List.mem_of_getElem? (i := 57) rfl)) (hw _ (List.mem_of_getElem? (i := 58) rfl)) (hw _ (List.mem_of_getElem? (i := 60) rfl)) (hw _ (List.mem_of_getElem? (i := 60) rfl)) (hw _ (List.mem_of_getElem? (i := 59) rfl)) (hw _ (List.mem_of_getElem? (i := 2) rfl)) (hw _ (List.mem_of_getElem? (i := 61) rfl)) E1p (by decide) (rm12 l Z a0 hw [] a1 cs h0 S0p F3p P0) own_pd0 rfl e42 (by rw [hml]; rfl) (argsL := []) (st := []) rfl (W := 0) (Nat.le_of_eq rfl) (by decide) (by decide) (by decide) (by decide) (hb hby own_d10_39) (q := 42) rfl (fun T43 X44 e45 => ?_)
  rw [show (own_f12 cs : Int32) = (0 : Int32) from rfl]
  refine own_istore (L' := #[.val (.ref a1), .val (.ref a2), .val (.int (0 : Int32)), .val (.ref b1), .val (.ref b2), .val (.int (0 : Int32)), .val (.int (1 : Int32)), .val (.int (0 : Int32))]) X44 hx (hb hby own_d10_42) (q := 44) rfl rfl ?_
  refine own_iload X44 hx (hb hby own_d10_44) (q := 46) rfl rfl ?_
  refine own_aloadN X44 hx (hb hby own_d10_46) (q := 47) rfl rfl rfl ?_
  refine own_callVP X44 hx hZ hown (hw _ (List.mem_of_getElem? (i := 57) rfl)) (hw _ (List.mem_of_getElem? (i := 58) rfl)) (hw _ (List.mem_of_getElem? (i := 60) rfl)) (hw _ (List.mem_of_getElem? (i := 60) rfl)) (hw _ (List.mem_of_getElem? (i := 59) rfl)) (hw _ (List.mem_of_getElem? (i := 2) rfl)) (hw _ (List.mem_of_getElem? (i := 61) rfl)) E5p (by decide) (rm12 l Z a0 hw [] a2 cs h0 S0p F7p P0) own_pd0 rfl e45 (by rw [hml]; rfl) (argsL := []) (st := [.int (0 : Int32)]) rfl (W := 1) (Nat.le_of_eq rfl) (by decide) (by decide) (by decide) (by decide) (hb hby own_d10_47) (q := 50) rfl (fun T46 X47 e48 => ?_)
  rw [show (own_f12 cs : Int32) = (0 : Int32) from rfl]
  refine own_icmpM X47 hx (hb hby own_d10_50) (cd := .ne) (x := (0 : Int32)) (y := (0 : Int32)) (pt := 82) (q := 53) (by decide) (by decide) rfl rfl (fun h => False.elim (h ((by decide) : (0 : Int32) = (0 : Int32)))) (fun _ => ?_)
  refine own_iload X47 hx (hb hby own_d10_53) (q := 55) rfl rfl ?_
  refine own_iconst X47 hx (v := (1 : Int32)) (hb hby own_d10_55) (q := 56) rfl rfl ?_
  refine own_icmpM X47 hx (hb hby own_d10_56) (cd := .ne) (x := (0 : Int32)) (y := (1 : Int32)) (pt := 63) (q := 59) (by decide) (by decide) rfl rfl (fun _ => ?_) (fun h => False.elim (((by decide) : ¬ ((0 : Int32) = (1 : Int32))) h))
  refine own_aloadN X47 hx (hb hby own_d10_63) (q := 64) rfl rfl rfl ?_
  refine own_iloadN X47 hx (hb hby own_d10_64) (q := 65) rfl rfl ?_
  refine own_aload X47 hx (hb hby own_d10_65) (q := 67) rfl rfl rfl ?_
  refine own_iconst X47 hx (v := (0 : Int32)) (hb hby own_d10_67) (q := 68) rfl rfl ?_
  refine own_iload X47 hx (hb hby own_d10_68) (q := 70) rfl rfl ?_
  refine own_callSP X47 hx hZ hown (hw _ (List.mem_of_getElem? (i := 62) rfl)) (hw _ (List.mem_of_getElem? (i := 63) rfl)) (hw _ (List.mem_of_getElem? (i := 64) rfl)) (hw _ (List.mem_of_getElem? (i := 65) rfl)) (by decide) (rm13_1 l Z a0 hw [] b1 b2 h0 V4p V8p) own_pd2 rfl e48 (by rw [hml]; rfl) (argsL := [.ref b1, .int (0 : Int32), .ref b2, .int (0 : Int32), .int (1 : Int32)]) (st := []) rfl (W := 0) (Nat.le_of_eq rfl) (by decide) (by decide) (by decide) (by decide) (hb hby own_d10_70) (q := 73) rfl (fun T49 X50 e51 => ?_)
  rw [show (own_f13_1  : Int32) = (-1 : Int32) from rfl]
  refine own_if0M X50 hx (hb hby own_d10_73) (cd := .ge) (x := (-1 : Int32)) (pt := 80) (q := 76) (by decide) (by decide) rfl rfl (fun h => False.elim (h ((by decide) : (-1 : Int32) < (0 : Int32)))) (fun _ => ?_)
  refine own_iconst X50 hx (v := (1 : Int32)) (hb hby own_d10_76) (q := 77) rfl rfl ?_
  refine own_goto X50 hx (hb hby own_d10_77) (q := 81) (by decide) (by decide) ?_
  refine own_retN X50 hx hlk (t := .boolean) (by simp) Bd.returns (hb hby own_d10_81) ?_ (by decide) (by decide)
  have r : own_f10_1 cs b1 b2 = (1 : Int32) := by rw [own_f10_1]
  exact ⟨by rw [r] <;> rfl, e51, rfl⟩

def own_f10_2 (cs : Int32) (b1 : Addr) (b2 : Addr) (u1 : Int32) : Int32 := (1 : Int32)
set_option maxRecDepth 65536 in
set_option maxHeartbeats 40000000 in
theorem rm10_2 (l : Launch) (Z : State) (a0 : Array Value) (hw : ∀ d ∈ tables_1, d.before a0 Z = true) (ws : List Jvm.Cond) (a1 : Addr) (a2 : Addr) (cs : Int32) (b1 : Addr) (b2 : Addr) (u1 : Int32) (h0 : Heap) (S0p : Sta Z h0 "java/lang/String" "COMPACT_STRINGS" "Z" (.int cs)) (E1p : Exa Z h0 a1 "java/lang/String") (F2p : Fld Z h0 a1 "java/lang/String" "value" "[B" (.ref b1)) (F3p : Fld Z h0 a1 "java/lang/String" "coder" "B" (.int (0 : Int32))) (V4p : own_A Z h0 b1 .byte [.int (47 : Int32), .int u1]) (E5p : Exa Z h0 a2 "java/lang/String") (F6p : Fld Z h0 a2 "java/lang/String" "value" "[B" (.ref b2)) (F7p : Fld Z h0 a2 "java/lang/String" "coder" "B" (.int (0 : Int32))) (V8p : own_A Z h0 b2 .byte [.int (47 : Int32)]) (P0 : ¬ cs = 0) :
    MetFree l (⟨"java/lang/String", "startsWith", "(Ljava/lang/String;I)Z"⟩ : MethodName) (head1 (Jvm.Cond.code (⟨"java/lang/String", "startsWith", "(Ljava/lang/String;I)Z"⟩ : MethodName) jdk_42_method_75_code 8 (some .boolean) :: ws) ({ frames := 2, cells := 0, slots := 0, locals := 27 } : Room)) (fun a U => a = #[.ref a1, .ref a2, .int (0 : Int32)] ∧ Z.Warmed39 U.vm ∧ U.heap = h0) (fun _ _ _ _ _ => True) (fun _ U o U' => ∃ v L, o = .returned v ∧ own_P (.int (own_f10_2 cs b1 b2 u1)) h0 v U'.heap L ∧ FrameEnd U o U' L ({ frames := 2, cells := 0, slots := 0, locals := 27 } : Room).cells ({ frames := 2, cells := 0, slots := 0, locals := 27 } : Room).slots) := by
  refine MetFree.of_bodySF (plainFor_of_name own_pn0) hisR ?_
  intro p e s m args below meth c s₁ Bd hml0 hP hK
  obtain ⟨rfl, hZ, hh⟩ := hP
  have hx := Bd.exec
  have hby := Bd.bytes
  have hml : c.maxLocals = 8 := hml0
  have hown : s.vm.findClass "java/lang/String" = some m.cls := findClass_of_methodNamed Bd.named
  have hnm := (name_of_methodNamed Bd.named Bd.method).1
  have hlk : meth.locks = false := BodyLoose.notSynchronized Bd
  have X0 : Stand p l e ({ frames := 2, cells := 0, slots := 0, locals := 27 } : Room) s m #[.ref a1, .ref a2, .int (0 : Int32)] below meth c s₁ [] 0 0 := Stand.of_body Bd
  have e0 : s₁.heap = h0 := by rw [← hh, Bd.state]; rfl
  show own_Go p e below (own_E s 0 0 (own_P (.int (own_f10_2 cs b1 b2 u1)) h0)) (s₁.setTop (entryFrame m #[.ref a1, .ref a2, .int (0 : Int32)] 8))
  rw [own_ef10_k0]
  refine own_iloadN X0 hx (hb hby own_d10_0) (q := 1) rfl rfl ?_
  refine own_if0P X0 hx (hb hby own_d10_1) (cd := .lt) (x := (0 : Int32)) (pt := 17) (q := 4) (by decide) (by decide) rfl rfl (fun h => False.elim (((by decide) : ¬ ((0 : Int32) < (0 : Int32))) h)) (fun _ => ?_)
  refine own_iloadN X0 hx (hb hby own_d10_4) (q := 5) rfl rfl ?_
  refine own_aloadN X0 hx (hb hby own_d10_5) (q := 6) rfl rfl rfl ?_
  refine own_callVP X0 hx hZ hown (hw _ (List.mem_of_getElem? (i := 52) rfl)) (hw _ (List.mem_of_getElem? (i := 53) rfl)) (hw _ (List.mem_of_getElem? (i := 55) rfl)) (hw _ (List.mem_of_getElem? (i := 55) rfl)) (hw _ (List.mem_of_getElem? (i := 54) rfl)) (hw _ (List.mem_of_getElem? (i := 2) rfl)) (hw _ (List.mem_of_getElem? (i := 56) rfl)) E1p (by decide) (rm11_2 l Z a0 hw [] a1 cs b1 u1 h0 S0p E1p F2p F3p V4p P0) own_pd1 rfl e0 (by rw [hml]; rfl) (argsL := []) (st := [.int (0 : Int32)]) rfl (W := 1) (Nat.le_of_eq rfl) (by decide) (by decide) (by decide) (by decide) (hb hby own_d10_6) (q := 9) rfl (fun T52 X53 e54 => ?_)
  rw [show (own_f11_2 cs b1 u1 : Int32) = (2 : Int32) from rfl]
  refine own_aloadN X53 hx (hb hby own_d10_9) (q := 10) rfl rfl rfl ?_
  refine own_callVP X53 hx hZ hown (hw _ (List.mem_of_getElem? (i := 52) rfl)) (hw _ (List.mem_of_getElem? (i := 53) rfl)) (hw _ (List.mem_of_getElem? (i := 55) rfl)) (hw _ (List.mem_of_getElem? (i := 55) rfl)) (hw _ (List.mem_of_getElem? (i := 54) rfl)) (hw _ (List.mem_of_getElem? (i := 2) rfl)) (hw _ (List.mem_of_getElem? (i := 56) rfl)) E5p (by decide) (rm11_1 l Z a0 hw [] a2 cs b2 h0 S0p E5p F6p F7p V8p P0) own_pd1 rfl e54 (by rw [hml]; rfl) (argsL := []) (st := [.int (2 : Int32), .int (0 : Int32)]) rfl (W := 2) (Nat.le_of_eq rfl) (by decide) (by decide) (by decide) (by decide) (hb hby own_d10_10) (q := 13) rfl (fun T55 X56 e57 => ?_)
  rw [show (own_f11_1 cs b2 : Int32) = (1 : Int32) from rfl]
  refine own_isub X56 hx (hb hby own_d10_13) (q := 14) rfl ?_
  rw [show ((2 : Int32) - (1 : Int32) : Int32) = (1 : Int32) from by decide]
  refine own_icmpM X56 hx (hb hby own_d10_14) (cd := .le) (x := (0 : Int32)) (y := (1 : Int32)) (pt := 19) (q := 17) (by decide) (by decide) rfl rfl (fun _ => ?_) (fun h => False.elim (((by decide) : ¬ ((1 : Int32) < (0 : Int32))) h))
  refine own_aloadN X56 hx (hb hby own_d10_19) (q := 20) rfl rfl rfl ?_
  refine own_getF X56 hx hZ hown (host := "") (Or.inl (hw _ (List.mem_of_getElem? (i := 28) rfl))) Via.refl e57 F2p (hb hby own_d10_20) (q := 23) rfl (fun T58 X59 e60 => ?_)
  refine own_astoreN (L' := #[.val (.ref a1), .val (.ref a2), .val (.int (0 : Int32)), .val (.ref b1), .unset, .unset, .unset, .unset]) X59 hx (hb hby own_d10_23) (q := 24) rfl rfl rfl ?_
  refine own_aloadN X59 hx (hb hby own_d10_24) (q := 25) rfl rfl rfl ?_
  refine own_getF X59 hx hZ hown (host := "") (Or.inl (hw _ (List.mem_of_getElem? (i := 28) rfl))) Via.refl e60 F6p (hb hby own_d10_25) (q := 28) rfl (fun T61 X62 e63 => ?_)
  refine own_astore (L' := #[.val (.ref a1), .val (.ref a2), .val (.int (0 : Int32)), .val (.ref b1), .val (.ref b2), .unset, .unset, .unset]) X62 hx (hb hby own_d10_28) (q := 30) rfl rfl rfl ?_
  refine own_iconst X62 hx (v := (0 : Int32)) (hb hby own_d10_30) (q := 31) rfl rfl ?_
  refine own_istore (L' := #[.val (.ref a1), .val (.ref a2), .val (.int (0 : Int32)), .val (.ref b1), .val (.ref b2), .val (.int (0 : Int32)), .unset, .unset]) X62 hx (hb hby own_d10_31) (q := 33) rfl rfl ?_
  refine own_aload X62 hx (hb hby own_d10_33) (q := 35) rfl rfl rfl ?_
  refine own_alen X62 hx hZ (n := (1 : Int32)) e63 V8p rfl (hb hby own_d10_35) (q := 36) rfl ?_
  refine own_istore (L' := #[.val (.ref a1), .val (.ref a2), .val (.int (0 : Int32)), .val (.ref b1), .val (.ref b2), .val (.int (0 : Int32)), .val (.int (1 : Int32)), .unset]) X62 hx (hb hby own_d10_36) (q := 38) rfl rfl ?_
  refine own_aloadN X62 hx (hb hby own_d10_38) (q := 39) rfl rfl rfl ?_
  refine own_callVP X62 hx hZ hown (hw _ (List.mem_of_getElem? (i := 57) rfl)) (hw _ (List.mem_of_getElem? (i := 58) rfl)) (hw _ (List.mem_of_getElem? (i := 60) rfl)) (hw _ (List.mem_of_getElem? (i := 60) rfl)) (hw _ (List.mem_of_getElem? (i := 59) rfl)) (hw _ (List.mem_of_getElem? (i := 2) rfl)) (hw _ (List.mem_of_getElem? (i := 61) rfl)) E1p (by decide) (rm12 l Z a0 hw [] a1 cs h0 S0p F3p P0) own_pd0 rfl e63 (by rw [hml]; rfl) (argsL := []) (st := []) rfl (W := 0) (Nat.le_of_eq rfl) (by decide) (by decide) (by decide) (by decide) (hb hby own_d10_39) (q := 42) rfl (fun T64 X65 e66 => ?_)
  rw [show (own_f12 cs : Int32) = (0 : Int32) from rfl]
  refine own_istore (L' := #[.val (.ref a1), .val (.ref a2), .val (.int (0 : Int32)), .val (.ref b1), .val (.ref b2), .val (.int (0 : Int32)), .val (.int (1 : Int32)), .val (.int (0 : Int32))]) X65 hx (hb hby own_d10_42) (q := 44) rfl rfl ?_
  refine own_iload X65 hx (hb hby own_d10_44) (q := 46) rfl rfl ?_
  refine own_aloadN X65 hx (hb hby own_d10_46) (q := 47) rfl rfl rfl ?_
  refine own_callVP X65 hx hZ hown (hw _ (List.mem_of_getElem? (i := 57) rfl)) (hw _ (List.mem_of_getElem? (i := 58) rfl)) (hw _ (List.mem_of_getElem? (i := 60) rfl)) (hw _ (List.mem_of_getElem? (i := 60) rfl)) (hw _ (List.mem_of_getElem? (i := 59) rfl)) (hw _ (List.mem_of_getElem? (i := 2) rfl)) (hw _ (List.mem_of_getElem? (i := 61) rfl)) E5p (by decide) (rm12 l Z a0 hw [] a2 cs h0 S0p F7p P0) own_pd0 rfl e66 (by rw [hml]; rfl) (argsL := []) (st := [.int (0 : Int32)]) rfl (W := 1) (Nat.le_of_eq rfl) (by decide) (by decide) (by decide) (by decide) (hb hby own_d10_47) (q := 50) rfl (fun T67 X68 e69 => ?_)
  rw [show (own_f12 cs : Int32) = (0 : Int32) from rfl]
  refine own_icmpM X68 hx (hb hby own_d10_50) (cd := .ne) (x := (0 : Int32)) (y := (0 : Int32)) (pt := 82) (q := 53) (by decide) (by decide) rfl rfl (fun h => False.elim (h ((by decide) : (0 : Int32) = (0 : Int32)))) (fun _ => ?_)
  refine own_iload X68 hx (hb hby own_d10_53) (q := 55) rfl rfl ?_
  refine own_iconst X68 hx (v := (1 : Int32)) (hb hby own_d10_55) (q := 56) rfl rfl ?_
  refine own_icmpM X68 hx (hb hby own_d10_56) (cd := .ne) (x := (0 : Int32)) (y := (1 : Int32)) (pt := 63) (q := 59) (by decide) (by decide) rfl rfl (fun _ => ?_) (fun h => False.elim (((by decide) : ¬ ((0 : Int32) = (1 : Int32))) h))
  refine own_aloadN X68 hx (hb hby own_d10_63) (q := 64) rfl rfl rfl ?_
  refine own_iloadN X68 hx (hb hby own_d10_64) (q := 65) rfl rfl ?_
  refine own_aload X68 hx (hb hby own_d10_65) (q := 67) rfl rfl rfl ?_
  refine own_iconst X68 hx (v := (0 : Int32)) (hb hby own_d10_67) (q := 68) rfl rfl ?_
  refine own_iload X68 hx (hb hby own_d10_68) (q := 70) rfl rfl ?_
  refine own_callSP X68 hx hZ hown (hw _ (List.mem_of_getElem? (i := 62) rfl)) (hw _ (List.mem_of_getElem? (i := 63) rfl)) (hw _ (List.mem_of_getElem? (i := 64) rfl)) (hw _ (List.mem_of_getElem? (i := 65) rfl)) (by decide) (rm13_2 l Z a0 hw [] b1 b2 u1 h0 V4p V8p) own_pd2 rfl e69 (by rw [hml]; rfl) (argsL := [.ref b1, .int (0 : Int32), .ref b2, .int (0 : Int32), .int (1 : Int32)]) (st := []) rfl (W := 0) (Nat.le_of_eq rfl) (by decide) (by decide) (by decide) (by decide) (hb hby own_d10_70) (q := 73) rfl (fun T70 X71 e72 => ?_)
  rw [show (own_f13_2 u1 : Int32) = (-1 : Int32) from rfl]
  refine own_if0M X71 hx (hb hby own_d10_73) (cd := .ge) (x := (-1 : Int32)) (pt := 80) (q := 76) (by decide) (by decide) rfl rfl (fun h => False.elim (h ((by decide) : (-1 : Int32) < (0 : Int32)))) (fun _ => ?_)
  refine own_iconst X71 hx (v := (1 : Int32)) (hb hby own_d10_76) (q := 77) rfl rfl ?_
  refine own_goto X71 hx (hb hby own_d10_77) (q := 81) (by decide) (by decide) ?_
  refine own_retN X71 hx hlk (t := .boolean) (by simp) Bd.returns (hb hby own_d10_81) ?_ (by decide) (by decide)
  have r : own_f10_2 cs b1 b2 u1 = (1 : Int32) := by rw [own_f10_2]
  exact ⟨by rw [r] <;> rfl, e72, rfl⟩

def own_f10_3 (cs : Int32) (b1 : Addr) (b2 : Addr) (u1 : Int32) (u2 : Int32) : Int32 := (1 : Int32)
set_option maxRecDepth 65536 in
set_option maxHeartbeats 40000000 in
theorem rm10_3 (l : Launch) (Z : State) (a0 : Array Value) (hw : ∀ d ∈ tables_1, d.before a0 Z = true) (ws : List Jvm.Cond) (a1 : Addr) (a2 : Addr) (cs : Int32) (b1 : Addr) (b2 : Addr) (u1 : Int32) (u2 : Int32) (h0 : Heap) (S0p : Sta Z h0 "java/lang/String" "COMPACT_STRINGS" "Z" (.int cs)) (E1p : Exa Z h0 a1 "java/lang/String") (F2p : Fld Z h0 a1 "java/lang/String" "value" "[B" (.ref b1)) (F3p : Fld Z h0 a1 "java/lang/String" "coder" "B" (.int (0 : Int32))) (V4p : own_A Z h0 b1 .byte [.int (47 : Int32), .int u1, .int u2]) (E5p : Exa Z h0 a2 "java/lang/String") (F6p : Fld Z h0 a2 "java/lang/String" "value" "[B" (.ref b2)) (F7p : Fld Z h0 a2 "java/lang/String" "coder" "B" (.int (0 : Int32))) (V8p : own_A Z h0 b2 .byte [.int (47 : Int32)]) (P0 : ¬ cs = 0) :
    MetFree l (⟨"java/lang/String", "startsWith", "(Ljava/lang/String;I)Z"⟩ : MethodName) (head1 (Jvm.Cond.code (⟨"java/lang/String", "startsWith", "(Ljava/lang/String;I)Z"⟩ : MethodName) jdk_42_method_75_code 8 (some .boolean) :: ws) ({ frames := 2, cells := 0, slots := 0, locals := 27 } : Room)) (fun a U => a = #[.ref a1, .ref a2, .int (0 : Int32)] ∧ Z.Warmed39 U.vm ∧ U.heap = h0) (fun _ _ _ _ _ => True) (fun _ U o U' => ∃ v L, o = .returned v ∧ own_P (.int (own_f10_3 cs b1 b2 u1 u2)) h0 v U'.heap L ∧ FrameEnd U o U' L ({ frames := 2, cells := 0, slots := 0, locals := 27 } : Room).cells ({ frames := 2, cells := 0, slots := 0, locals := 27 } : Room).slots) := by
  refine MetFree.of_bodySF (plainFor_of_name own_pn0) hisR ?_
  intro p e s m args below meth c s₁ Bd hml0 hP hK
  obtain ⟨rfl, hZ, hh⟩ := hP
  have hx := Bd.exec
  have hby := Bd.bytes
  have hml : c.maxLocals = 8 := hml0
  have hown : s.vm.findClass "java/lang/String" = some m.cls := findClass_of_methodNamed Bd.named
  have hnm := (name_of_methodNamed Bd.named Bd.method).1
  have hlk : meth.locks = false := BodyLoose.notSynchronized Bd
  have X0 : Stand p l e ({ frames := 2, cells := 0, slots := 0, locals := 27 } : Room) s m #[.ref a1, .ref a2, .int (0 : Int32)] below meth c s₁ [] 0 0 := Stand.of_body Bd
  have e0 : s₁.heap = h0 := by rw [← hh, Bd.state]; rfl
  show own_Go p e below (own_E s 0 0 (own_P (.int (own_f10_3 cs b1 b2 u1 u2)) h0)) (s₁.setTop (entryFrame m #[.ref a1, .ref a2, .int (0 : Int32)] 8))
  rw [own_ef10_k0]
  refine own_iloadN X0 hx (hb hby own_d10_0) (q := 1) rfl rfl ?_
  refine own_if0P X0 hx (hb hby own_d10_1) (cd := .lt) (x := (0 : Int32)) (pt := 17) (q := 4) (by decide) (by decide) rfl rfl (fun h => False.elim (((by decide) : ¬ ((0 : Int32) < (0 : Int32))) h)) (fun _ => ?_)
  refine own_iloadN X0 hx (hb hby own_d10_4) (q := 5) rfl rfl ?_
  refine own_aloadN X0 hx (hb hby own_d10_5) (q := 6) rfl rfl rfl ?_
  refine own_callVP X0 hx hZ hown (hw _ (List.mem_of_getElem? (i := 52) rfl)) (hw _ (List.mem_of_getElem? (i := 53) rfl)) (hw _ (List.mem_of_getElem? (i := 55) rfl)) (hw _ (List.mem_of_getElem? (i := 55) rfl)) (hw _ (List.mem_of_getElem? (i := 54) rfl)) (hw _ (List.mem_of_getElem? (i := 2) rfl)) (hw _ (List.mem_of_getElem? (i := 56) rfl)) E1p (by decide) (rm11_3 l Z a0 hw [] a1 cs b1 u1 u2 h0 S0p E1p F2p F3p V4p P0) own_pd1 rfl e0 (by rw [hml]; rfl) (argsL := []) (st := [.int (0 : Int32)]) rfl (W := 1) (Nat.le_of_eq rfl) (by decide) (by decide) (by decide) (by decide) (hb hby own_d10_6) (q := 9) rfl (fun T73 X74 e75 => ?_)
  rw [show (own_f11_3 cs b1 u1 u2 : Int32) = (3 : Int32) from rfl]
  refine own_aloadN X74 hx (hb hby own_d10_9) (q := 10) rfl rfl rfl ?_
  refine own_callVP X74 hx hZ hown (hw _ (List.mem_of_getElem? (i := 52) rfl)) (hw _ (List.mem_of_getElem? (i := 53) rfl)) (hw _ (List.mem_of_getElem? (i := 55) rfl)) (hw _ (List.mem_of_getElem? (i := 55) rfl)) (hw _ (List.mem_of_getElem? (i := 54) rfl)) (hw _ (List.mem_of_getElem? (i := 2) rfl)) (hw _ (List.mem_of_getElem? (i := 56) rfl)) E5p (by decide) (rm11_1 l Z a0 hw [] a2 cs b2 h0 S0p E5p F6p F7p V8p P0) own_pd1 rfl e75 (by rw [hml]; rfl) (argsL := []) (st := [.int (3 : Int32), .int (0 : Int32)]) rfl (W := 2) (Nat.le_of_eq rfl) (by decide) (by decide) (by decide) (by decide) (hb hby own_d10_10) (q := 13) rfl (fun T76 X77 e78 => ?_)
  rw [show (own_f11_1 cs b2 : Int32) = (1 : Int32) from rfl]
  refine own_isub X77 hx (hb hby own_d10_13) (q := 14) rfl ?_
  rw [show ((3 : Int32) - (1 : Int32) : Int32) = (2 : Int32) from by decide]
  refine own_icmpM X77 hx (hb hby own_d10_14) (cd := .le) (x := (0 : Int32)) (y := (2 : Int32)) (pt := 19) (q := 17) (by decide) (by decide) rfl rfl (fun _ => ?_) (fun h => False.elim (((by decide) : ¬ ((2 : Int32) < (0 : Int32))) h))
  refine own_aloadN X77 hx (hb hby own_d10_19) (q := 20) rfl rfl rfl ?_
  refine own_getF X77 hx hZ hown (host := "") (Or.inl (hw _ (List.mem_of_getElem? (i := 28) rfl))) Via.refl e78 F2p (hb hby own_d10_20) (q := 23) rfl (fun T79 X80 e81 => ?_)
  refine own_astoreN (L' := #[.val (.ref a1), .val (.ref a2), .val (.int (0 : Int32)), .val (.ref b1), .unset, .unset, .unset, .unset]) X80 hx (hb hby own_d10_23) (q := 24) rfl rfl rfl ?_
  refine own_aloadN X80 hx (hb hby own_d10_24) (q := 25) rfl rfl rfl ?_
  refine own_getF X80 hx hZ hown (host := "") (Or.inl (hw _ (List.mem_of_getElem? (i := 28) rfl))) Via.refl e81 F6p (hb hby own_d10_25) (q := 28) rfl (fun T82 X83 e84 => ?_)
  refine own_astore (L' := #[.val (.ref a1), .val (.ref a2), .val (.int (0 : Int32)), .val (.ref b1), .val (.ref b2), .unset, .unset, .unset]) X83 hx (hb hby own_d10_28) (q := 30) rfl rfl rfl ?_
  refine own_iconst X83 hx (v := (0 : Int32)) (hb hby own_d10_30) (q := 31) rfl rfl ?_
  refine own_istore (L' := #[.val (.ref a1), .val (.ref a2), .val (.int (0 : Int32)), .val (.ref b1), .val (.ref b2), .val (.int (0 : Int32)), .unset, .unset]) X83 hx (hb hby own_d10_31) (q := 33) rfl rfl ?_
  refine own_aload X83 hx (hb hby own_d10_33) (q := 35) rfl rfl rfl ?_
  refine own_alen X83 hx hZ (n := (1 : Int32)) e84 V8p rfl (hb hby own_d10_35) (q := 36) rfl ?_
  refine own_istore (L' := #[.val (.ref a1), .val (.ref a2), .val (.int (0 : Int32)), .val (.ref b1), .val (.ref b2), .val (.int (0 : Int32)), .val (.int (1 : Int32)), .unset]) X83 hx (hb hby own_d10_36) (q := 38) rfl rfl ?_
  refine own_aloadN X83 hx (hb hby own_d10_38) (q := 39) rfl rfl rfl ?_
  refine own_callVP X83 hx hZ hown (hw _ (List.mem_of_getElem? (i := 57) rfl)) (hw _ (List.mem_of_getElem? (i := 58) rfl)) (hw _ (List.mem_of_getElem? (i := 60) rfl)) (hw _ (List.mem_of_getElem? (i := 60) rfl)) (hw _ (List.mem_of_getElem? (i := 59) rfl)) (hw _ (List.mem_of_getElem? (i := 2) rfl)) (hw _ (List.mem_of_getElem? (i := 61) rfl)) E1p (by decide) (rm12 l Z a0 hw [] a1 cs h0 S0p F3p P0) own_pd0 rfl e84 (by rw [hml]; rfl) (argsL := []) (st := []) rfl (W := 0) (Nat.le_of_eq rfl) (by decide) (by decide) (by decide) (by decide) (hb hby own_d10_39) (q := 42) rfl (fun T85 X86 e87 => ?_)
  rw [show (own_f12 cs : Int32) = (0 : Int32) from rfl]
  refine own_istore (L' := #[.val (.ref a1), .val (.ref a2), .val (.int (0 : Int32)), .val (.ref b1), .val (.ref b2), .val (.int (0 : Int32)), .val (.int (1 : Int32)), .val (.int (0 : Int32))]) X86 hx (hb hby own_d10_42) (q := 44) rfl rfl ?_
  refine own_iload X86 hx (hb hby own_d10_44) (q := 46) rfl rfl ?_
  refine own_aloadN X86 hx (hb hby own_d10_46) (q := 47) rfl rfl rfl ?_
  refine own_callVP X86 hx hZ hown (hw _ (List.mem_of_getElem? (i := 57) rfl)) (hw _ (List.mem_of_getElem? (i := 58) rfl)) (hw _ (List.mem_of_getElem? (i := 60) rfl)) (hw _ (List.mem_of_getElem? (i := 60) rfl)) (hw _ (List.mem_of_getElem? (i := 59) rfl)) (hw _ (List.mem_of_getElem? (i := 2) rfl)) (hw _ (List.mem_of_getElem? (i := 61) rfl)) E5p (by decide) (rm12 l Z a0 hw [] a2 cs h0 S0p F7p P0) own_pd0 rfl e87 (by rw [hml]; rfl) (argsL := []) (st := [.int (0 : Int32)]) rfl (W := 1) (Nat.le_of_eq rfl) (by decide) (by decide) (by decide) (by decide) (hb hby own_d10_47) (q := 50) rfl (fun T88 X89 e90 => ?_)
  rw [show (own_f12 cs : Int32) = (0 : Int32) from rfl]
  refine own_icmpM X89 hx (hb hby own_d10_50) (cd := .ne) (x := (0 : Int32)) (y := (0 : Int32)) (pt := 82) (q := 53) (by decide) (by decide) rfl rfl (fun h => False.elim (h ((by decide) : (0 : Int32) = (0 : Int32)))) (fun _ => ?_)
  refine own_iload X89 hx (hb hby own_d10_53) (q := 55) rfl rfl ?_
  refine own_iconst X89 hx (v := (1 : Int32)) (hb hby own_d10_55) (q := 56) rfl rfl ?_
  refine own_icmpM X89 hx (hb hby own_d10_56) (cd := .ne) (x := (0 : Int32)) (y := (1 : Int32)) (pt := 63) (q := 59) (by decide) (by decide) rfl rfl (fun _ => ?_) (fun h => False.elim (((by decide) : ¬ ((0 : Int32) = (1 : Int32))) h))
  refine own_aloadN X89 hx (hb hby own_d10_63) (q := 64) rfl rfl rfl ?_
  refine own_iloadN X89 hx (hb hby own_d10_64) (q := 65) rfl rfl ?_
  refine own_aload X89 hx (hb hby own_d10_65) (q := 67) rfl rfl rfl ?_
  refine own_iconst X89 hx (v := (0 : Int32)) (hb hby own_d10_67) (q := 68) rfl rfl ?_
  refine own_iload X89 hx (hb hby own_d10_68) (q := 70) rfl rfl ?_
  refine own_callSP X89 hx hZ hown (hw _ (List.mem_of_getElem? (i := 62) rfl)) (hw _ (List.mem_of_getElem? (i := 63) rfl)) (hw _ (List.mem_of_getElem? (i := 64) rfl)) (hw _ (List.mem_of_getElem? (i := 65) rfl)) (by decide) (rm13_3 l Z a0 hw [] b1 b2 u1 u2 h0 V4p V8p) own_pd2 rfl e90 (by rw [hml]; rfl) (argsL := [.ref b1, .int (0 : Int32), .ref b2, .int (0 : Int32), .int (1 : Int32)]) (st := []) rfl (W := 0) (Nat.le_of_eq rfl) (by decide) (by decide) (by decide) (by decide) (hb hby own_d10_70) (q := 73) rfl (fun T91 X92 e93 => ?_)
  rw [show (own_f13_3 u1 u2 : Int32) = (-1 : Int32) from rfl]
  refine own_if0M X92 hx (hb hby own_d10_73) (cd := .ge) (x := (-1 : Int32)) (pt := 80) (q := 76) (by decide) (by decide) rfl rfl (fun h => False.elim (h ((by decide) : (-1 : Int32) < (0 : Int32)))) (fun _ => ?_)
  refine own_iconst X92 hx (v := (1 : Int32)) (hb hby own_d10_76) (q := 77) rfl rfl ?_
  refine own_goto X92 hx (hb hby own_d10_77) (q := 81) (by decide) (by decide) ?_
  refine own_retN X92 hx hlk (t := .boolean) (by simp) Bd.returns (hb hby own_d10_81) ?_ (by decide) (by decide)
  have r : own_f10_3 cs b1 b2 u1 u2 = (1 : Int32) := by rw [own_f10_3]
  exact ⟨by rw [r] <;> rfl, e93, rfl⟩

def own_f10_4 (cs : Int32) (b1 : Addr) (b2 : Addr) (u1 : Int32) (u2 : Int32) (u3 : Int32) : Int32 := (1 : Int32)
set_option maxRecDepth 65536 in
set_option maxHeartbeats 40000000 in
theorem rm10_4 (l : Launch) (Z : State) (a0 : Array Value) (hw : ∀ d ∈ tables_1, d.before a0 Z = true) (ws : List Jvm.Cond) (a1 : Addr) (a2 : Addr) (cs : Int32) (b1 : Addr) (b2 : Addr) (u1 : Int32) (u2 : Int32) (u3 : Int32) (h0 : Heap) (S0p : Sta Z h0 "java/lang/String" "COMPACT_STRINGS" "Z" (.int cs)) (E1p : Exa Z h0 a1 "java/lang/String") (F2p : Fld Z h0 a1 "java/lang/String" "value" "[B" (.ref b1)) (F3p : Fld Z h0 a1 "java/lang/String" "coder" "B" (.int (0 : Int32))) (V4p : own_A Z h0 b1 .byte [.int (47 : Int32), .int u1, .int u2, .int u3]) (E5p : Exa Z h0 a2 "java/lang/String") (F6p : Fld Z h0 a2 "java/lang/String" "value" "[B" (.ref b2)) (F7p : Fld Z h0 a2 "java/lang/String" "coder" "B" (.int (0 : Int32))) (V8p : own_A Z h0 b2 .byte [.int (47 : Int32)]) (P0 : ¬ cs = 0) :
    MetFree l (⟨"java/lang/String", "startsWith", "(Ljava/lang/String;I)Z"⟩ : MethodName) (head1 (Jvm.Cond.code (⟨"java/lang/String", "startsWith", "(Ljava/lang/String;I)Z"⟩ : MethodName) jdk_42_method_75_code 8 (some .boolean) :: ws) ({ frames := 2, cells := 0, slots := 0, locals := 27 } : Room)) (fun a U => a = #[.ref a1, .ref a2, .int (0 : Int32)] ∧ Z.Warmed39 U.vm ∧ U.heap = h0) (fun _ _ _ _ _ => True) (fun _ U o U' => ∃ v L, o = .returned v ∧ own_P (.int (own_f10_4 cs b1 b2 u1 u2 u3)) h0 v U'.heap L ∧ FrameEnd U o U' L ({ frames := 2, cells := 0, slots := 0, locals := 27 } : Room).cells ({ frames := 2, cells := 0, slots := 0, locals := 27 } : Room).slots) := by
  refine MetFree.of_bodySF (plainFor_of_name own_pn0) hisR ?_
  intro p e s m args below meth c s₁ Bd hml0 hP hK
  obtain ⟨rfl, hZ, hh⟩ := hP
  have hx := Bd.exec
  have hby := Bd.bytes
  have hml : c.maxLocals = 8 := hml0
  have hown : s.vm.findClass "java/lang/String" = some m.cls := findClass_of_methodNamed Bd.named
  have hnm := (name_of_methodNamed Bd.named Bd.method).1
  have hlk : meth.locks = false := BodyLoose.notSynchronized Bd
  have X0 : Stand p l e ({ frames := 2, cells := 0, slots := 0, locals := 27 } : Room) s m #[.ref a1, .ref a2, .int (0 : Int32)] below meth c s₁ [] 0 0 := Stand.of_body Bd
  have e0 : s₁.heap = h0 := by rw [← hh, Bd.state]; rfl
  show own_Go p e below (own_E s 0 0 (own_P (.int (own_f10_4 cs b1 b2 u1 u2 u3)) h0)) (s₁.setTop (entryFrame m #[.ref a1, .ref a2, .int (0 : Int32)] 8))
  rw [own_ef10_k0]
  refine own_iloadN X0 hx (hb hby own_d10_0) (q := 1) rfl rfl ?_
  refine own_if0P X0 hx (hb hby own_d10_1) (cd := .lt) (x := (0 : Int32)) (pt := 17) (q := 4) (by decide) (by decide) rfl rfl (fun h => False.elim (((by decide) : ¬ ((0 : Int32) < (0 : Int32))) h)) (fun _ => ?_)
  refine own_iloadN X0 hx (hb hby own_d10_4) (q := 5) rfl rfl ?_
  refine own_aloadN X0 hx (hb hby own_d10_5) (q := 6) rfl rfl rfl ?_
  refine own_callVP X0 hx hZ hown (hw _ (List.mem_of_getElem? (i := 52) rfl)) (hw _ (List.mem_of_getElem? (i := 53) rfl)) (hw _ (List.mem_of_getElem? (i := 55) rfl)) (hw _ (List.mem_of_getElem? (i := 55) rfl)) (hw _ (List.mem_of_getElem? (i := 54) rfl)) (hw _ (List.mem_of_getElem? (i := 2) rfl)) (hw _ (List.mem_of_getElem? (i := 56) rfl)) E1p (by decide) (rm11_4 l Z a0 hw [] a1 cs b1 u1 u2 u3 h0 S0p E1p F2p F3p V4p P0) own_pd1 rfl e0 (by rw [hml]; rfl) (argsL := []) (st := [.int (0 : Int32)]) rfl (W := 1) (Nat.le_of_eq rfl) (by decide) (by decide) (by decide) (by decide) (hb hby own_d10_6) (q := 9) rfl (fun T94 X95 e96 => ?_)
  rw [show (own_f11_4 cs b1 u1 u2 u3 : Int32) = (4 : Int32) from rfl]
  refine own_aloadN X95 hx (hb hby own_d10_9) (q := 10) rfl rfl rfl ?_
  refine own_callVP X95 hx hZ hown (hw _ (List.mem_of_getElem? (i := 52) rfl)) (hw _ (List.mem_of_getElem? (i := 53) rfl)) (hw _ (List.mem_of_getElem? (i := 55) rfl)) (hw _ (List.mem_of_getElem? (i := 55) rfl)) (hw _ (List.mem_of_getElem? (i := 54) rfl)) (hw _ (List.mem_of_getElem? (i := 2) rfl)) (hw _ (List.mem_of_getElem? (i := 56) rfl)) E5p (by decide) (rm11_1 l Z a0 hw [] a2 cs b2 h0 S0p E5p F6p F7p V8p P0) own_pd1 rfl e96 (by rw [hml]; rfl) (argsL := []) (st := [.int (4 : Int32), .int (0 : Int32)]) rfl (W := 2) (Nat.le_of_eq rfl) (by decide) (by decide) (by decide) (by decide) (hb hby own_d10_10) (q := 13) rfl (fun T97 X98 e99 => ?_)
  rw [show (own_f11_1 cs b2 : Int32) = (1 : Int32) from rfl]
  refine own_isub X98 hx (hb hby own_d10_13) (q := 14) rfl ?_
  rw [show ((4 : Int32) - (1 : Int32) : Int32) = (3 : Int32) from by decide]
  refine own_icmpM X98 hx (hb hby own_d10_14) (cd := .le) (x := (0 : Int32)) (y := (3 : Int32)) (pt := 19) (q := 17) (by decide) (by decide) rfl rfl (fun _ => ?_) (fun h => False.elim (((by decide) : ¬ ((3 : Int32) < (0 : Int32))) h))
  refine own_aloadN X98 hx (hb hby own_d10_19) (q := 20) rfl rfl rfl ?_
  refine own_getF X98 hx hZ hown (host := "") (Or.inl (hw _ (List.mem_of_getElem? (i := 28) rfl))) Via.refl e99 F2p (hb hby own_d10_20) (q := 23) rfl (fun T100 X101 e102 => ?_)
  refine own_astoreN (L' := #[.val (.ref a1), .val (.ref a2), .val (.int (0 : Int32)), .val (.ref b1), .unset, .unset, .unset, .unset]) X101 hx (hb hby own_d10_23) (q := 24) rfl rfl rfl ?_
  refine own_aloadN X101 hx (hb hby own_d10_24) (q := 25) rfl rfl rfl ?_
  refine own_getF X101 hx hZ hown (host := "") (Or.inl (hw _ (List.mem_of_getElem? (i := 28) rfl))) Via.refl e102 F6p (hb hby own_d10_25) (q := 28) rfl (fun T103 X104 e105 => ?_)
  refine own_astore (L' := #[.val (.ref a1), .val (.ref a2), .val (.int (0 : Int32)), .val (.ref b1), .val (.ref b2), .unset, .unset, .unset]) X104 hx (hb hby own_d10_28) (q := 30) rfl rfl rfl ?_
  refine own_iconst X104 hx (v := (0 : Int32)) (hb hby own_d10_30) (q := 31) rfl rfl ?_
  refine own_istore (L' := #[.val (.ref a1), .val (.ref a2), .val (.int (0 : Int32)), .val (.ref b1), .val (.ref b2), .val (.int (0 : Int32)), .unset, .unset]) X104 hx (hb hby own_d10_31) (q := 33) rfl rfl ?_
  refine own_aload X104 hx (hb hby own_d10_33) (q := 35) rfl rfl rfl ?_
  refine own_alen X104 hx hZ (n := (1 : Int32)) e105 V8p rfl (hb hby own_d10_35) (q := 36) rfl ?_
  refine own_istore (L' := #[.val (.ref a1), .val (.ref a2), .val (.int (0 : Int32)), .val (.ref b1), .val (.ref b2), .val (.int (0 : Int32)), .val (.int (1 : Int32)), .unset]) X104 hx (hb hby own_d10_36) (q := 38) rfl rfl ?_
  refine own_aloadN X104 hx (hb hby own_d10_38) (q := 39) rfl rfl rfl ?_
  refine own_callVP X104 hx hZ hown (hw _ (List.mem_of_getElem? (i := 57) rfl)) (hw _ (List.mem_of_getElem? (i := 58) rfl)) (hw _ (List.mem_of_getElem? (i := 60) rfl)) (hw _ (List.mem_of_getElem? (i := 60) rfl)) (hw _ (List.mem_of_getElem? (i := 59) rfl)) (hw _ (List.mem_of_getElem? (i := 2) rfl)) (hw _ (List.mem_of_getElem? (i := 61) rfl)) E1p (by decide) (rm12 l Z a0 hw [] a1 cs h0 S0p F3p P0) own_pd0 rfl e105 (by rw [hml]; rfl) (argsL := []) (st := []) rfl (W := 0) (Nat.le_of_eq rfl) (by decide) (by decide) (by decide) (by decide) (hb hby own_d10_39) (q := 42) rfl (fun T106 X107 e108 => ?_)
  rw [show (own_f12 cs : Int32) = (0 : Int32) from rfl]
  refine own_istore (L' := #[.val (.ref a1), .val (.ref a2), .val (.int (0 : Int32)), .val (.ref b1), .val (.ref b2), .val (.int (0 : Int32)), .val (.int (1 : Int32)), .val (.int (0 : Int32))]) X107 hx (hb hby own_d10_42) (q := 44) rfl rfl ?_
  refine own_iload X107 hx (hb hby own_d10_44) (q := 46) rfl rfl ?_
  refine own_aloadN X107 hx (hb hby own_d10_46) (q := 47) rfl rfl rfl ?_
  refine own_callVP X107 hx hZ hown (hw _ (List.mem_of_getElem? (i := 57) rfl)) (hw _ (List.mem_of_getElem? (i := 58) rfl)) (hw _ (List.mem_of_getElem? (i := 60) rfl)) (hw _ (List.mem_of_getElem? (i := 60) rfl)) (hw _ (List.mem_of_getElem? (i := 59) rfl)) (hw _ (List.mem_of_getElem? (i := 2) rfl)) (hw _ (List.mem_of_getElem? (i := 61) rfl)) E5p (by decide) (rm12 l Z a0 hw [] a2 cs h0 S0p F7p P0) own_pd0 rfl e108 (by rw [hml]; rfl) (argsL := []) (st := [.int (0 : Int32)]) rfl (W := 1) (Nat.le_of_eq rfl) (by decide) (by decide) (by decide) (by decide) (hb hby own_d10_47) (q := 50) rfl (fun T109 X110 e111 => ?_)
  rw [show (own_f12 cs : Int32) = (0 : Int32) from rfl]
  refine own_icmpM X110 hx (hb hby own_d10_50) (cd := .ne) (x := (0 : Int32)) (y := (0 : Int32)) (pt := 82) (q := 53) (by decide) (by decide) rfl rfl (fun h => False.elim (h ((by decide) : (0 : Int32) = (0 : Int32)))) (fun _ => ?_)
  refine own_iload X110 hx (hb hby own_d10_53) (q := 55) rfl rfl ?_
  refine own_iconst X110 hx (v := (1 : Int32)) (hb hby own_d10_55) (q := 56) rfl rfl ?_
  refine own_icmpM X110 hx (hb hby own_d10_56) (cd := .ne) (x := (0 : Int32)) (y := (1 : Int32)) (pt := 63) (q := 59) (by decide) (by decide) rfl rfl (fun _ => ?_) (fun h => False.elim (((by decide) : ¬ ((0 : Int32) = (1 : Int32))) h))
  refine own_aloadN X110 hx (hb hby own_d10_63) (q := 64) rfl rfl rfl ?_
  refine own_iloadN X110 hx (hb hby own_d10_64) (q := 65) rfl rfl ?_
  refine own_aload X110 hx (hb hby own_d10_65) (q := 67) rfl rfl rfl ?_
  refine own_iconst X110 hx (v := (0 : Int32)) (hb hby own_d10_67) (q := 68) rfl rfl ?_
  refine own_iload X110 hx (hb hby own_d10_68) (q := 70) rfl rfl ?_
  refine own_callSP X110 hx hZ hown (hw _ (List.mem_of_getElem? (i := 62) rfl)) (hw _ (List.mem_of_getElem? (i := 63) rfl)) (hw _ (List.mem_of_getElem? (i := 64) rfl)) (hw _ (List.mem_of_getElem? (i := 65) rfl)) (by decide) (rm13_4 l Z a0 hw [] b1 b2 u1 u2 u3 h0 V4p V8p) own_pd2 rfl e111 (by rw [hml]; rfl) (argsL := [.ref b1, .int (0 : Int32), .ref b2, .int (0 : Int32), .int (1 : Int32)]) (st := []) rfl (W := 0) (Nat.le_of_eq rfl) (by decide) (by decide) (by decide) (by decide) (hb hby own_d10_70) (q := 73) rfl (fun T112 X113 e114 => ?_)
  rw [show (own_f13_4 u1 u2 u3 : Int32) = (-1 : Int32) from rfl]
  refine own_if0M X113 hx (hb hby own_d10_73) (cd := .ge) (x := (-1 : Int32)) (pt := 80) (q := 76) (by decide) (by decide) rfl rfl (fun h => False.elim (h ((by decide) : (-1 : Int32) < (0 : Int32)))) (fun _ => ?_)
  refine own_iconst X113 hx (v := (1 : Int32)) (hb hby own_d10_76) (q := 77) rfl rfl ?_
  refine own_goto X113 hx (hb hby own_d10_77) (q := 81) (by decide) (by decide) ?_
  refine own_retN X113 hx hlk (t := .boolean) (by simp) Bd.returns (hb hby own_d10_81) ?_ (by decide) (by decide)
  have r : own_f10_4 cs b1 b2 u1 u2 u3 = (1 : Int32) := by rw [own_f10_4]
  exact ⟨by rw [r] <;> rfl, e114, rfl⟩
theorem own_pd3 : parseMethodDescriptor "(Ljava/lang/String;I)Z" = some ⟨[(.object "java/lang/String"), .int], some .boolean⟩ := by decide +kernel
theorem own_ef9 (m : MethodId) (a1 : Addr) (a2 : Addr) : entryFrame m #[.ref a1, .ref a2] 2 = mkF m 0 #[.val (.ref a1), .val (.ref a2)] [] := by first | (simp [entryFrame, mkF, argsToLocals, Value.category]; done) | rfl
theorem own_d9_0 : decode jdk_42_method_76_code 0 = .ok (.aload_n 0, 1) := by decide +kernel
theorem own_d9_1 : decode jdk_42_method_76_code 1 = .ok (.aload_n 1, 1) := by decide +kernel
theorem own_d9_2 : decode jdk_42_method_76_code 2 = .ok (.iconst 0, 1) := by decide +kernel
theorem own_d9_3 : decode jdk_42_method_76_code 3 = .ok (.invokevirtual 624, 3) := by decide +kernel
theorem own_d9_6 : decode jdk_42_method_76_code 6 = .ok (.ireturn, 1) := by decide +kernel
def own_f9_1 (cs : Int32) (b1 : Addr) (b2 : Addr) : Int32 := (1 : Int32)
set_option maxRecDepth 65536 in
set_option maxHeartbeats 40000000 in
theorem rm9_1 (l : Launch) (Z : State) (a0 : Array Value) (hw : ∀ d ∈ tables_1, d.before a0 Z = true) (ws : List Jvm.Cond) (a1 : Addr) (a2 : Addr) (cs : Int32) (b1 : Addr) (b2 : Addr) (h0 : Heap) (S0p : Sta Z h0 "java/lang/String" "COMPACT_STRINGS" "Z" (.int cs)) (E1p : Exa Z h0 a1 "java/lang/String") (F2p : Fld Z h0 a1 "java/lang/String" "value" "[B" (.ref b1)) (F3p : Fld Z h0 a1 "java/lang/String" "coder" "B" (.int (0 : Int32))) (V4p : own_A Z h0 b1 .byte [.int (47 : Int32)]) (E5p : Exa Z h0 a2 "java/lang/String") (F6p : Fld Z h0 a2 "java/lang/String" "value" "[B" (.ref b2)) (F7p : Fld Z h0 a2 "java/lang/String" "coder" "B" (.int (0 : Int32))) (V8p : own_A Z h0 b2 .byte [.int (47 : Int32)]) (P0 : ¬ cs = 0) :
    MetFree l (⟨"java/lang/String", "startsWith", "(Ljava/lang/String;)Z"⟩ : MethodName) (head1 (Jvm.Cond.code (⟨"java/lang/String", "startsWith", "(Ljava/lang/String;)Z"⟩ : MethodName) jdk_42_method_76_code 2 (some .boolean) :: ws) ({ frames := 3, cells := 0, slots := 0, locals := 46 } : Room)) (fun a U => a = #[.ref a1, .ref a2] ∧ Z.Warmed39 U.vm ∧ U.heap = h0) (fun _ _ _ _ _ => True) (fun _ U o U' => ∃ v L, o = .returned v ∧ own_P (.int (own_f9_1 cs b1 b2)) h0 v U'.heap L ∧ FrameEnd U o U' L ({ frames := 3, cells := 0, slots := 0, locals := 46 } : Room).cells ({ frames := 3, cells := 0, slots := 0, locals := 46 } : Room).slots) := by
  refine MetFree.of_bodySF (plainFor_of_name own_pn0) hisR ?_
  intro p e s m args below meth c s₁ Bd hml0 hP hK
  obtain ⟨rfl, hZ, hh⟩ := hP
  have hx := Bd.exec
  have hby := Bd.bytes
  have hml : c.maxLocals = 2 := hml0
  have hown : s.vm.findClass "java/lang/String" = some m.cls := findClass_of_methodNamed Bd.named
  have hnm := (name_of_methodNamed Bd.named Bd.method).1
  have hlk : meth.locks = false := BodyLoose.notSynchronized Bd
  have X0 : Stand p l e ({ frames := 3, cells := 0, slots := 0, locals := 46 } : Room) s m #[.ref a1, .ref a2] below meth c s₁ [] 0 0 := Stand.of_body Bd
  have e0 : s₁.heap = h0 := by rw [← hh, Bd.state]; rfl
  show own_Go p e below (own_E s 0 0 (own_P (.int (own_f9_1 cs b1 b2)) h0)) (s₁.setTop (entryFrame m #[.ref a1, .ref a2] 2))
  rw [own_ef9]
  refine own_aloadN X0 hx (hb hby own_d9_0) (q := 1) rfl rfl rfl ?_
  refine own_aloadN X0 hx (hb hby own_d9_1) (q := 2) rfl rfl rfl ?_
  refine own_iconst X0 hx (v := (0 : Int32)) (hb hby own_d9_2) (q := 3) rfl rfl ?_
  refine own_callVP X0 hx hZ hown (hw _ (List.mem_of_getElem? (i := 47) rfl)) (hw _ (List.mem_of_getElem? (i := 48) rfl)) (hw _ (List.mem_of_getElem? (i := 50) rfl)) (hw _ (List.mem_of_getElem? (i := 50) rfl)) (hw _ (List.mem_of_getElem? (i := 49) rfl)) (hw _ (List.mem_of_getElem? (i := 2) rfl)) (hw _ (List.mem_of_getElem? (i := 51) rfl)) E1p (by decide) (rm10_1 l Z a0 hw [] a1 a2 cs b1 b2 h0 S0p E1p F2p F3p V4p E5p F6p F7p V8p P0) own_pd3 rfl e0 (by rw [hml]; rfl) (argsL := [.ref a2, .int (0 : Int32)]) (st := []) rfl (W := 0) (Nat.le_of_eq rfl) (by decide) (by decide) (by decide) (by decide) (hb hby own_d9_3) (q := 6) rfl (fun T115 X116 e117 => ?_)
  rw [show (own_f10_1 cs b1 b2 : Int32) = (1 : Int32) from rfl]
  refine own_retN X116 hx hlk (t := .boolean) (by simp) Bd.returns (hb hby own_d9_6) ?_ (by decide) (by decide)
  have r : own_f9_1 cs b1 b2 = (1 : Int32) := by rw [own_f9_1]
  exact ⟨by rw [r] <;> rfl, e117, rfl⟩

def own_f9_2 (cs : Int32) (b1 : Addr) (b2 : Addr) (u1 : Int32) : Int32 := (1 : Int32)
set_option maxRecDepth 65536 in
set_option maxHeartbeats 40000000 in
theorem rm9_2 (l : Launch) (Z : State) (a0 : Array Value) (hw : ∀ d ∈ tables_1, d.before a0 Z = true) (ws : List Jvm.Cond) (a1 : Addr) (a2 : Addr) (cs : Int32) (b1 : Addr) (b2 : Addr) (u1 : Int32) (h0 : Heap) (S0p : Sta Z h0 "java/lang/String" "COMPACT_STRINGS" "Z" (.int cs)) (E1p : Exa Z h0 a1 "java/lang/String") (F2p : Fld Z h0 a1 "java/lang/String" "value" "[B" (.ref b1)) (F3p : Fld Z h0 a1 "java/lang/String" "coder" "B" (.int (0 : Int32))) (V4p : own_A Z h0 b1 .byte [.int (47 : Int32), .int u1]) (E5p : Exa Z h0 a2 "java/lang/String") (F6p : Fld Z h0 a2 "java/lang/String" "value" "[B" (.ref b2)) (F7p : Fld Z h0 a2 "java/lang/String" "coder" "B" (.int (0 : Int32))) (V8p : own_A Z h0 b2 .byte [.int (47 : Int32)]) (P0 : ¬ cs = 0) :
    MetFree l (⟨"java/lang/String", "startsWith", "(Ljava/lang/String;)Z"⟩ : MethodName) (head1 (Jvm.Cond.code (⟨"java/lang/String", "startsWith", "(Ljava/lang/String;)Z"⟩ : MethodName) jdk_42_method_76_code 2 (some .boolean) :: ws) ({ frames := 3, cells := 0, slots := 0, locals := 46 } : Room)) (fun a U => a = #[.ref a1, .ref a2] ∧ Z.Warmed39 U.vm ∧ U.heap = h0) (fun _ _ _ _ _ => True) (fun _ U o U' => ∃ v L, o = .returned v ∧ own_P (.int (own_f9_2 cs b1 b2 u1)) h0 v U'.heap L ∧ FrameEnd U o U' L ({ frames := 3, cells := 0, slots := 0, locals := 46 } : Room).cells ({ frames := 3, cells := 0, slots := 0, locals := 46 } : Room).slots) := by
  refine MetFree.of_bodySF (plainFor_of_name own_pn0) hisR ?_
  intro p e s m args below meth c s₁ Bd hml0 hP hK
  obtain ⟨rfl, hZ, hh⟩ := hP
  have hx := Bd.exec
  have hby := Bd.bytes
  have hml : c.maxLocals = 2 := hml0
  have hown : s.vm.findClass "java/lang/String" = some m.cls := findClass_of_methodNamed Bd.named
  have hnm := (name_of_methodNamed Bd.named Bd.method).1
  have hlk : meth.locks = false := BodyLoose.notSynchronized Bd
  have X0 : Stand p l e ({ frames := 3, cells := 0, slots := 0, locals := 46 } : Room) s m #[.ref a1, .ref a2] below meth c s₁ [] 0 0 := Stand.of_body Bd
  have e0 : s₁.heap = h0 := by rw [← hh, Bd.state]; rfl
  show own_Go p e below (own_E s 0 0 (own_P (.int (own_f9_2 cs b1 b2 u1)) h0)) (s₁.setTop (entryFrame m #[.ref a1, .ref a2] 2))
  rw [own_ef9]
  refine own_aloadN X0 hx (hb hby own_d9_0) (q := 1) rfl rfl rfl ?_
  refine own_aloadN X0 hx (hb hby own_d9_1) (q := 2) rfl rfl rfl ?_
  refine own_iconst X0 hx (v := (0 : Int32)) (hb hby own_d9_2) (q := 3) rfl rfl ?_
  refine own_callVP X0 hx hZ hown (hw _ (List.mem_of_getElem? (i := 47) rfl)) (hw _ (List.mem_of_getElem? (i := 48) rfl)) (hw _ (List.mem_of_getElem? (i := 50) rfl)) (hw _ (List.mem_of_getElem? (i := 50) rfl)) (hw _ (List.mem_of_getElem? (i := 49) rfl)) (hw _ (List.mem_of_getElem? (i := 2) rfl)) (hw _ (List.mem_of_getElem? (i := 51) rfl)) E1p (by decide) (rm10_2 l Z a0 hw [] a1 a2 cs b1 b2 u1 h0 S0p E1p F2p F3p V4p E5p F6p F7p V8p P0) own_pd3 rfl e0 (by rw [hml]; rfl) (argsL := [.ref a2, .int (0 : Int32)]) (st := []) rfl (W := 0) (Nat.le_of_eq rfl) (by decide) (by decide) (by decide) (by decide) (hb hby own_d9_3) (q := 6) rfl (fun T118 X119 e120 => ?_)
  rw [show (own_f10_2 cs b1 b2 u1 : Int32) = (1 : Int32) from rfl]
  refine own_retN X119 hx hlk (t := .boolean) (by simp) Bd.returns (hb hby own_d9_6) ?_ (by decide) (by decide)
  have r : own_f9_2 cs b1 b2 u1 = (1 : Int32) := by rw [own_f9_2]
  exact ⟨by rw [r] <;> rfl, e120, rfl⟩

def own_f9_3 (cs : Int32) (b1 : Addr) (b2 : Addr) (u1 : Int32) (u2 : Int32) : Int32 := (1 : Int32)
set_option maxRecDepth 65536 in
set_option maxHeartbeats 40000000 in
theorem rm9_3 (l : Launch) (Z : State) (a0 : Array Value) (hw : ∀ d ∈ tables_1, d.before a0 Z = true) (ws : List Jvm.Cond) (a1 : Addr) (a2 : Addr) (cs : Int32) (b1 : Addr) (b2 : Addr) (u1 : Int32) (u2 : Int32) (h0 : Heap) (S0p : Sta Z h0 "java/lang/String" "COMPACT_STRINGS" "Z" (.int cs)) (E1p : Exa Z h0 a1 "java/lang/String") (F2p : Fld Z h0 a1 "java/lang/String" "value" "[B" (.ref b1)) (F3p : Fld Z h0 a1 "java/lang/String" "coder" "B" (.int (0 : Int32))) (V4p : own_A Z h0 b1 .byte [.int (47 : Int32), .int u1, .int u2]) (E5p : Exa Z h0 a2 "java/lang/String") (F6p : Fld Z h0 a2 "java/lang/String" "value" "[B" (.ref b2)) (F7p : Fld Z h0 a2 "java/lang/String" "coder" "B" (.int (0 : Int32))) (V8p : own_A Z h0 b2 .byte [.int (47 : Int32)]) (P0 : ¬ cs = 0) :
    MetFree l (⟨"java/lang/String", "startsWith", "(Ljava/lang/String;)Z"⟩ : MethodName) (head1 (Jvm.Cond.code (⟨"java/lang/String", "startsWith", "(Ljava/lang/String;)Z"⟩ : MethodName) jdk_42_method_76_code 2 (some .boolean) :: ws) ({ frames := 3, cells := 0, slots := 0, locals := 46 } : Room)) (fun a U => a = #[.ref a1, .ref a2] ∧ Z.Warmed39 U.vm ∧ U.heap = h0) (fun _ _ _ _ _ => True) (fun _ U o U' => ∃ v L, o = .returned v ∧ own_P (.int (own_f9_3 cs b1 b2 u1 u2)) h0 v U'.heap L ∧ FrameEnd U o U' L ({ frames := 3, cells := 0, slots := 0, locals := 46 } : Room).cells ({ frames := 3, cells := 0, slots := 0, locals := 46 } : Room).slots) := by
  refine MetFree.of_bodySF (plainFor_of_name own_pn0) hisR ?_
  intro p e s m args below meth c s₁ Bd hml0 hP hK
  obtain ⟨rfl, hZ, hh⟩ := hP
  have hx := Bd.exec
  have hby := Bd.bytes
  have hml : c.maxLocals = 2 := hml0
  have hown : s.vm.findClass "java/lang/String" = some m.cls := findClass_of_methodNamed Bd.named
  have hnm := (name_of_methodNamed Bd.named Bd.method).1
  have hlk : meth.locks = false := BodyLoose.notSynchronized Bd
  have X0 : Stand p l e ({ frames := 3, cells := 0, slots := 0, locals := 46 } : Room) s m #[.ref a1, .ref a2] below meth c s₁ [] 0 0 := Stand.of_body Bd
  have e0 : s₁.heap = h0 := by rw [← hh, Bd.state]; rfl
  show own_Go p e below (own_E s 0 0 (own_P (.int (own_f9_3 cs b1 b2 u1 u2)) h0)) (s₁.setTop (entryFrame m #[.ref a1, .ref a2] 2))
  rw [own_ef9]
  refine own_aloadN X0 hx (hb hby own_d9_0) (q := 1) rfl rfl rfl ?_
  refine own_aloadN X0 hx (hb hby own_d9_1) (q := 2) rfl rfl rfl ?_
  refine own_iconst X0 hx (v := (0 : Int32)) (hb hby own_d9_2) (q := 3) rfl rfl ?_
  refine own_callVP X0 hx hZ hown (hw _ (List.mem_of_getElem? (i := 47) rfl)) (hw _ (List.mem_of_getElem? (i := 48) rfl)) (hw _ (List.mem_of_getElem? (i := 50) rfl)) (hw _ (List.mem_of_getElem? (i := 50) rfl)) (hw _ (List.mem_of_getElem? (i := 49) rfl)) (hw _ (List.mem_of_getElem? (i := 2) rfl)) (hw _ (List.mem_of_getElem? (i := 51) rfl)) E1p (by decide) (rm10_3 l Z a0 hw [] a1 a2 cs b1 b2 u1 u2 h0 S0p E1p F2p F3p V4p E5p F6p F7p V8p P0) own_pd3 rfl e0 (by rw [hml]; rfl) (argsL := [.ref a2, .int (0 : Int32)]) (st := []) rfl (W := 0) (Nat.le_of_eq rfl) (by decide) (by decide) (by decide) (by decide) (hb hby own_d9_3) (q := 6) rfl (fun T121 X122 e123 => ?_)
  rw [show (own_f10_3 cs b1 b2 u1 u2 : Int32) = (1 : Int32) from rfl]
  refine own_retN X122 hx hlk (t := .boolean) (by simp) Bd.returns (hb hby own_d9_6) ?_ (by decide) (by decide)
  have r : own_f9_3 cs b1 b2 u1 u2 = (1 : Int32) := by rw [own_f9_3]
  exact ⟨by rw [r] <;> rfl, e123, rfl⟩

def own_f9_4 (cs : Int32) (b1 : Addr) (b2 : Addr) (u1 : Int32) (u2 : Int32) (u3 : Int32) : Int32 := (1 : Int32)
set_option maxRecDepth 65536 in
set_option maxHeartbeats 40000000 in
theorem rm9_4 (l : Launch) (Z : State) (a0 : Array Value) (hw : ∀ d ∈ tables_1, d.before a0 Z = true) (ws : List Jvm.Cond) (a1 : Addr) (a2 : Addr) (cs : Int32) (b1 : Addr) (b2 : Addr) (u1 : Int32) (u2 : Int32) (u3 : Int32) (h0 : Heap) (S0p : Sta Z h0 "java/lang/String" "COMPACT_STRINGS" "Z" (.int cs)) (E1p : Exa Z h0 a1 "java/lang/String") (F2p : Fld Z h0 a1 "java/lang/String" "value" "[B" (.ref b1)) (F3p : Fld Z h0 a1 "java/lang/String" "coder" "B" (.int (0 : Int32))) (V4p : own_A Z h0 b1 .byte [.int (47 : Int32), .int u1, .int u2, .int u3]) (E5p : Exa Z h0 a2 "java/lang/String") (F6p : Fld Z h0 a2 "java/lang/String" "value" "[B" (.ref b2)) (F7p : Fld Z h0 a2 "java/lang/String" "coder" "B" (.int (0 : Int32))) (V8p : own_A Z h0 b2 .byte [.int (47 : Int32)]) (P0 : ¬ cs = 0) :
    MetFree l (⟨"java/lang/String", "startsWith", "(Ljava/lang/String;)Z"⟩ : MethodName) (head1 (Jvm.Cond.code (⟨"java/lang/String", "startsWith", "(Ljava/lang/String;)Z"⟩ : MethodName) jdk_42_method_76_code 2 (some .boolean) :: ws) ({ frames := 3, cells := 0, slots := 0, locals := 46 } : Room)) (fun a U => a = #[.ref a1, .ref a2] ∧ Z.Warmed39 U.vm ∧ U.heap = h0) (fun _ _ _ _ _ => True) (fun _ U o U' => ∃ v L, o = .returned v ∧ own_P (.int (own_f9_4 cs b1 b2 u1 u2 u3)) h0 v U'.heap L ∧ FrameEnd U o U' L ({ frames := 3, cells := 0, slots := 0, locals := 46 } : Room).cells ({ frames := 3, cells := 0, slots := 0, locals := 46 } : Room).slots) := by
  refine MetFree.of_bodySF (plainFor_of_name own_pn0) hisR ?_
  intro p e s m args below meth c s₁ Bd hml0 hP hK
  obtain ⟨rfl, hZ, hh⟩ := hP
  have hx := Bd.exec
  have hby := Bd.bytes
  have hml : c.maxLocals = 2 := hml0
  have hown : s.vm.findClass "java/lang/String" = some m.cls := findClass_of_methodNamed Bd.named
  have hnm := (name_of_methodNamed Bd.named Bd.method).1
  have hlk : meth.locks = false := BodyLoose.notSynchronized Bd
  have X0 : Stand p l e ({ frames := 3, cells := 0, slots := 0, locals := 46 } : Room) s m #[.ref a1, .ref a2] below meth c s₁ [] 0 0 := Stand.of_body Bd
  have e0 : s₁.heap = h0 := by rw [← hh, Bd.state]; rfl
  show own_Go p e below (own_E s 0 0 (own_P (.int (own_f9_4 cs b1 b2 u1 u2 u3)) h0)) (s₁.setTop (entryFrame m #[.ref a1, .ref a2] 2))
  rw [own_ef9]
  refine own_aloadN X0 hx (hb hby own_d9_0) (q := 1) rfl rfl rfl ?_
  refine own_aloadN X0 hx (hb hby own_d9_1) (q := 2) rfl rfl rfl ?_
  refine own_iconst X0 hx (v := (0 : Int32)) (hb hby own_d9_2) (q := 3) rfl rfl ?_
  refine own_callVP X0 hx hZ hown (hw _ (List.mem_of_getElem? (i := 47) rfl)) (hw _ (List.mem_of_getElem? (i := 48) rfl)) (hw _ (List.mem_of_getElem? (i := 50) rfl)) (hw _ (List.mem_of_getElem? (i := 50) rfl)) (hw _ (List.mem_of_getElem? (i := 49) rfl)) (hw _ (List.mem_of_getElem? (i := 2) rfl)) (hw _ (List.mem_of_getElem? (i := 51) rfl)) E1p (by decide) (rm10_4 l Z a0 hw [] a1 a2 cs b1 b2 u1 u2 u3 h0 S0p E1p F2p F3p V4p E5p F6p F7p V8p P0) own_pd3 rfl e0 (by rw [hml]; rfl) (argsL := [.ref a2, .int (0 : Int32)]) (st := []) rfl (W := 0) (Nat.le_of_eq rfl) (by decide) (by decide) (by decide) (by decide) (hb hby own_d9_3) (q := 6) rfl (fun T124 X125 e126 => ?_)
  rw [show (own_f10_4 cs b1 b2 u1 u2 u3 : Int32) = (1 : Int32) from rfl]
  refine own_retN X125 hx hlk (t := .boolean) (by simp) Bd.returns (hb hby own_d9_6) ?_ (by decide) (by decide)
  have r : own_f9_4 cs b1 b2 u1 u2 u3 = (1 : Int32) := by rw [own_f9_4]
  exact ⟨by rw [r] <;> rfl, e126, rfl⟩
theorem own_pn7 : plainName "java/util/Objects" = true := by first | (simp [plainName, overriddenIn]; done) | decide +kernel
theorem own_ef8 (m : MethodId) (a1 : Addr) (a2 : Addr) : entryFrame m #[.ref a1, .ref a2] 2 = mkF m 0 #[.val (.ref a1), .val (.ref a2)] [] := by first | (simp [entryFrame, mkF, argsToLocals, Value.category]; done) | rfl
theorem own_d8_0 : decode jdk_31_method_11_code 0 = .ok (.aload_n 0, 1) := by decide +kernel
theorem own_d8_1 : decode jdk_31_method_11_code 1 = .ok (.ifnonnull 12, 3) := by decide +kernel
theorem own_d8_13 : decode jdk_31_method_11_code 13 = .ok (.aload_n 0, 1) := by decide +kernel
theorem own_d8_14 : decode jdk_31_method_11_code 14 = .ok (.areturn, 1) := by decide +kernel
def own_f8 (a1 : Addr) (a2 : Addr) : Addr := a1
set_option maxRecDepth 65536 in
set_option maxHeartbeats 40000000 in
theorem rm8 (l : Launch) (Z : State) (a0 : Array Value) (hw : ∀ d ∈ tables_1, d.before a0 Z = true) (ws : List Jvm.Cond) (a1 : Addr) (a2 : Addr) (h0 : Heap) :
    MetFree l (⟨"java/util/Objects", "requireNonNull", "(Ljava/lang/Object;Ljava/lang/String;)Ljava/lang/Object;"⟩ : MethodName) (head1 (Jvm.Cond.code (⟨"java/util/Objects", "requireNonNull", "(Ljava/lang/Object;Ljava/lang/String;)Ljava/lang/Object;"⟩ : MethodName) jdk_31_method_11_code 2 (some (.object "java/lang/Object")) :: ws) ({ frames := 0, cells := 0, slots := 0, locals := 0 } : Room)) (fun a U => a = #[.ref a1, .ref a2] ∧ Z.Warmed39 U.vm ∧ U.heap = h0) (fun _ _ _ _ _ => True) (fun _ U o U' => ∃ v L, o = .returned v ∧ own_P (.ref (own_f8 a1 a2)) h0 v U'.heap L ∧ FrameEnd U o U' L ({ frames := 0, cells := 0, slots := 0, locals := 0 } : Room).cells ({ frames := 0, cells := 0, slots := 0, locals := 0 } : Room).slots) := by
  refine MetFree.of_bodySF (plainFor_of_name own_pn7) hisR ?_
  intro p e s m args below meth c s₁ Bd hml0 hP hK
  obtain ⟨rfl, hZ, hh⟩ := hP
  have hx := Bd.exec
  have hby := Bd.bytes
  have hml : c.maxLocals = 2 := hml0
  have hown : s.vm.findClass "java/util/Objects" = some m.cls := findClass_of_methodNamed Bd.named
  have hnm := (name_of_methodNamed Bd.named Bd.method).1
  have hlk : meth.locks = false := BodyLoose.notSynchronized Bd
  have X0 : Stand p l e ({ frames := 0, cells := 0, slots := 0, locals := 0 } : Room) s m #[.ref a1, .ref a2] below meth c s₁ [] 0 0 := Stand.of_body Bd
  have e0 : s₁.heap = h0 := by rw [← hh, Bd.state]; rfl
  show own_Go p e below (own_E s 0 0 (own_P (.ref (own_f8 a1 a2)) h0)) (s₁.setTop (entryFrame m #[.ref a1, .ref a2] 2))
  rw [own_ef8]
  refine own_aloadN X0 hx (hb hby own_d8_0) (q := 1) rfl rfl rfl ?_
  refine own_nonnullY X0 hx (hb hby own_d8_1) (q := 13) (by decide) (by decide) ?_
  refine own_aloadN X0 hx (hb hby own_d8_13) (q := 14) rfl rfl rfl ?_
  refine own_retA X0 hx hlk rfl rfl rfl Bd.returns (hb hby own_d8_14) ?_ (by decide) (by decide)
  have r : own_f8 a1 a2 = a1 := by rw [own_f8]
  exact ⟨by rw [r] <;> rfl, e0, rfl⟩
theorem own_pd4 : parseMethodDescriptor "(Ljava/lang/Object;Ljava/lang/String;)Ljava/lang/Object;" = some ⟨[(.object "java/lang/Object"), (.object "java/lang/String")], some (.object "java/lang/Object")⟩ := by decide +kernel
theorem own_pd5 : parseMethodDescriptor "(Ljava/lang/String;)Z" = some ⟨[(.object "java/lang/String")], some .boolean⟩ := by decide +kernel
theorem own_pn9 : plainName "com/example/count_changes/countchanges/model/Tenancy" = true := by first | (simp [plainName, overriddenIn]; done) | decide +kernel
theorem own_ef7 (m : MethodId) (a1 : Addr) : entryFrame m #[.ref a1] 1 = mkF m 0 #[.val (.ref a1)] [] := by first | (simp [entryFrame, mkF, argsToLocals, Value.category]; done) | rfl
theorem own_d7_0 : decode prog_10_method_2_code 0 = .ok (.aload_n 0, 1) := by decide +kernel
theorem own_d7_1 : decode prog_10_method_2_code 1 = .ok (.ldc 27, 2) := by decide +kernel
theorem own_d7_3 : decode prog_10_method_2_code 3 = .ok (.invokestatic 9, 3) := by decide +kernel
theorem own_d7_6 : decode prog_10_method_2_code 6 = .ok (.pop, 1) := by decide +kernel
theorem own_d7_7 : decode prog_10_method_2_code 7 = .ok (.aload_n 0, 1) := by decide +kernel
theorem own_d7_8 : decode prog_10_method_2_code 8 = .ok (.ldc 28, 2) := by decide +kernel
theorem own_d7_10 : decode prog_10_method_2_code 10 = .ok (.invokevirtual 30, 3) := by decide +kernel
theorem own_d7_13 : decode prog_10_method_2_code 13 = .ok (.ifCond .ne 17, 3) := by decide +kernel
theorem own_d7_30 : decode prog_10_method_2_code 30 = .ok (.aload_n 0, 1) := by decide +kernel
theorem own_d7_31 : decode prog_10_method_2_code 31 = .ok (.areturn, 1) := by decide +kernel
def own_Q7_1 (Z : State) (a1 : Addr) (cs : Int32) (b1 : Addr) (h0 : Heap) (n0 : Nat) (v : Option Value) (h : Heap) (L : List Loc) : Prop := v = some (.ref a1) ∧ Fr n0 L ∧ Keep h0 h []
set_option maxRecDepth 65536 in
set_option maxHeartbeats 40000000 in
theorem rm7_1 (l : Launch) (Z : State) (a0 : Array Value) (hw : ∀ d ∈ tables_1, d.before a0 Z = true) (ws : List Jvm.Cond) (a1 : Addr) (cs : Int32) (b1 : Addr) (h0 : Heap) (n0 : Nat) (S0p : Sta Z h0 "java/lang/String" "COMPACT_STRINGS" "Z" (.int cs)) (E1p : Exa Z h0 a1 "java/lang/String") (F2p : Fld Z h0 a1 "java/lang/String" "value" "[B" (.ref b1)) (F3p : Fld Z h0 a1 "java/lang/String" "coder" "B" (.int (0 : Int32))) (V4p : own_A Z h0 b1 .byte [.int (47 : Int32)]) (HK : ∀ (b : Addr) (cl : Cell), Z.heap[b]? = some cl → h0[b]? = some cl) (H27 : Jvm.Lit.constHeld Z "com/example/count_changes/countchanges/model/Tenancy" 27) (H28 : Jvm.Lit.constHeld Z "com/example/count_changes/countchanges/model/Tenancy" 28) (HCW : Jvm.Lit.compactW.before a0 Z = true) (P0 : ¬ cs = 0) :
    MetFree l (⟨"com/example/count_changes/countchanges/model/Tenancy", "checkServicePath", "(Ljava/lang/String;)Ljava/lang/String;"⟩ : MethodName) (head1 (Jvm.Cond.code (⟨"com/example/count_changes/countchanges/model/Tenancy", "checkServicePath", "(Ljava/lang/String;)Ljava/lang/String;"⟩ : MethodName) prog_10_method_2_code 1 (some (.object "java/lang/String")) :: ws) ({ frames := 4, cells := 4, slots := 56, locals := 59 } : Room)) (fun a U => a = #[.ref a1] ∧ (Z.Warmed39 U.vm ∧ IB Z U.vm []) ∧ U.heap = h0) (fun _ _ _ _ _ => True) (fun _ U o U' => ∃ v L, o = .returned v ∧ own_Q7_1 Z a1 cs b1 h0 n0 v U'.heap L ∧ ReturnedEndW U o U' L ({ frames := 4, cells := 4, slots := 56, locals := 59 } : Room).cells ({ frames := 4, cells := 4, slots := 56, locals := 59 } : Room).slots) := by
  refine MetFree.of_bodySF (plainFor_of_name own_pn9) hisR ?_
  intro p e s m args below meth c s₁ Bd hml0 hP hK
  obtain ⟨rfl, ⟨hZ, hIB⟩, hh⟩ := hP
  have hx := Bd.exec
  have hby := Bd.bytes
  have hml : c.maxLocals = 1 := hml0
  have hown : s.vm.findClass "com/example/count_changes/countchanges/model/Tenancy" = some m.cls := findClass_of_methodNamed Bd.named
  have hnm := (name_of_methodNamed Bd.named Bd.method).1
  have hlk : meth.locks = false := BodyLoose.notSynchronized Bd
  have X0 : Stand p l e ({ frames := 4, cells := 4, slots := 56, locals := 59 } : Room) s m #[.ref a1] below meth c s₁ [] 0 0 := Stand.of_body Bd
  have e0 : s₁.heap = h0 := by rw [← hh, Bd.state]; rfl
  have N0 := Fr.nil n0
  have K0 := Keep.refl h0 []
  have own_wS : ∀ d ∈ Bundle.stringAtoms, d.before a0 Z = true := fun d hd => hw d (own_wSm d hd)
  show own_Go p e below (own_W s 4 56 (own_Q7_1 Z a1 cs b1 h0 n0)) (s₁.setTop (entryFrame m #[.ref a1] 1))
  rw [own_ef7]
  refine own_aloadN X0 hx (hb hby own_d7_0) (q := 1) rfl rfl rfl ?_
  refine own_ldcV (s := s) (vm0 := s.vm) X0 hx hZ hown (hw _ (List.mem_of_getElem? (i := 34) rfl)) own_wS e0 ((State.WarmedH.refl s).since 0) (Nat.zero_le _) (Fr.nil _) (by rw [hh]; exact HK) hIB (by decide) H27 HCW (z := 11) ⟨by decide, rfl⟩ (by decide) rfl (n := 44) (by decide) (by decide) (by decide) (by decide) (hb hby own_d7_1) (q := 3) rfl (fun a131 T127 h130 k133 a132 X128 e129 E134 hS135 Z136 hZ hown E137 F138 F139 A140 IB141 => ?_)
  have S142 := Sta.ext E134 S0p
  have E143 := Exa.ext E134 E1p
  have F144 := Fld.ext E134 F2p
  have F145 := Fld.ext E134 F3p
  have V146 := V4p.ext E134
  have K147 := K0.ext E134
  replace A140 : own_A Z h130 a132 .byte [.int (115 : Int32), .int (101 : Int32), .int (114 : Int32), .int (118 : Int32), .int (105 : Int32), .int (99 : Int32), .int (101 : Int32), .int (80 : Int32), .int (97 : Int32), .int (116 : Int32), .int (104 : Int32)] := A140
  refine own_callSP X128 hx hZ hown (hw _ (List.mem_of_getElem? (i := 37) rfl)) (hw _ (List.mem_of_getElem? (i := 38) rfl)) (hw _ (List.mem_of_getElem? (i := 39) rfl)) (hw _ (List.mem_of_getElem? (i := 40) rfl)) (by decide) (rm8 l Z a0 hw [] a1 a131 h130) own_pd4 rfl e129 (by rw [hml]; rfl) (argsL := [.ref a1, .ref a131]) (st := []) rfl (W := 0) (Nat.le_of_eq rfl) (by decide) (by decide) (by decide) (by decide) (hb hby own_d7_3) (q := 6) rfl (fun T148 X149 e150 => ?_)
  refine own_pop X149 hx (hb hby own_d7_6) (q := 7) rfl rfl ?_
  refine own_aloadN X149 hx (hb hby own_d7_7) (q := 8) rfl rfl rfl ?_
  refine own_ldcV (s := s) (vm0 := T127.vm) X149 hx hZ hown (hw _ (List.mem_of_getElem? (i := 41) rfl)) own_wS e150 hS135 Z136 (Fr.nil _) (by rw [hh]; exact HK) IB141 (by decide) H28 HCW (z := 1) ⟨by decide, rfl⟩ (by decide) rfl (n := 4) (by decide) (by decide) (by decide) (by decide) (hb hby own_d7_8) (q := 10) rfl (fun a155 T151 h154 k157 a156 X152 e153 E158 hS159 Z160 hZ hown E161 F162 F163 A164 IB165 => ?_)
  have S166 := Sta.ext E158 S142
  have E167 := Exa.ext E158 E143
  have F168 := Fld.ext E158 F144
  have F169 := Fld.ext E158 F145
  have V170 := V146.ext E158
  have E171 := Exa.ext E158 E137
  have F172 := Fld.ext E158 F138
  have F173 := Fld.ext E158 F139
  have A174 := A140.ext E158
  have K175 := K147.ext E158
  have Z176 : k133 ≤ h154.size := Nat.le_trans Z136 E158.1
  replace A164 : own_A Z h154 a156 .byte [.int (47 : Int32)] := A164
  refine own_callVP X152 hx hZ hown (hw _ (List.mem_of_getElem? (i := 42) rfl)) (hw _ (List.mem_of_getElem? (i := 43) rfl)) (hw _ (List.mem_of_getElem? (i := 45) rfl)) (hw _ (List.mem_of_getElem? (i := 45) rfl)) (hw _ (List.mem_of_getElem? (i := 44) rfl)) (hw _ (List.mem_of_getElem? (i := 2) rfl)) (hw _ (List.mem_of_getElem? (i := 46) rfl)) E167 (by decide) (rm9_1 l Z a0 hw [] a1 a155 cs b1 a156 h154 S166 E167 F168 F169 V170 E161 F163 F162 A164 P0) own_pd5 rfl e153 (by rw [hml]; rfl) (argsL := [.ref a155]) (st := []) rfl (W := 0) (Nat.le_of_eq rfl) (by decide) (by decide) (by decide) (by decide) (hb hby own_d7_10) (q := 13) rfl (fun T177 X178 e179 => ?_)
  rw [show (own_f9_1 cs b1 a156 : Int32) = (1 : Int32) from rfl]
  refine own_if0M X178 hx (hb hby own_d7_13) (cd := .ne) (x := (1 : Int32)) (pt := 30) (q := 16) (by decide) (by decide) rfl rfl (fun _ => ?_) (fun h => False.elim (((by decide) : ¬ ((1 : Int32) = (0 : Int32))) h))
  refine own_aloadN X178 hx (hb hby own_d7_30) (q := 31) rfl rfl rfl ?_
  refine own_mono (fun o t h => own_EW' hS159 h) ?_
  refine own_retA X178 hx hlk rfl rfl rfl Bd.returns (hb hby own_d7_31) ?_ (by decide) (by decide)
  show own_Q7_1 Z a1 cs b1 h0 n0 _ T177.heap _ ∧ k157 ≤ T177.heap.size
  rw [e179]
  exact ⟨⟨rfl, N0, K175⟩, Z160⟩

def own_Q7_2 (Z : State) (a1 : Addr) (cs : Int32) (b1 : Addr) (u1 : Int32) (h0 : Heap) (n0 : Nat) (v : Option Value) (h : Heap) (L : List Loc) : Prop := v = some (.ref a1) ∧ Fr n0 L ∧ Keep h0 h []
set_option maxRecDepth 65536 in
set_option maxHeartbeats 40000000 in
theorem rm7_2 (l : Launch) (Z : State) (a0 : Array Value) (hw : ∀ d ∈ tables_1, d.before a0 Z = true) (ws : List Jvm.Cond) (a1 : Addr) (cs : Int32) (b1 : Addr) (u1 : Int32) (h0 : Heap) (n0 : Nat) (S0p : Sta Z h0 "java/lang/String" "COMPACT_STRINGS" "Z" (.int cs)) (E1p : Exa Z h0 a1 "java/lang/String") (F2p : Fld Z h0 a1 "java/lang/String" "value" "[B" (.ref b1)) (F3p : Fld Z h0 a1 "java/lang/String" "coder" "B" (.int (0 : Int32))) (V4p : own_A Z h0 b1 .byte [.int (47 : Int32), .int u1]) (HK : ∀ (b : Addr) (cl : Cell), Z.heap[b]? = some cl → h0[b]? = some cl) (H27 : Jvm.Lit.constHeld Z "com/example/count_changes/countchanges/model/Tenancy" 27) (H28 : Jvm.Lit.constHeld Z "com/example/count_changes/countchanges/model/Tenancy" 28) (HCW : Jvm.Lit.compactW.before a0 Z = true) (P0 : ¬ cs = 0) :
    MetFree l (⟨"com/example/count_changes/countchanges/model/Tenancy", "checkServicePath", "(Ljava/lang/String;)Ljava/lang/String;"⟩ : MethodName) (head1 (Jvm.Cond.code (⟨"com/example/count_changes/countchanges/model/Tenancy", "checkServicePath", "(Ljava/lang/String;)Ljava/lang/String;"⟩ : MethodName) prog_10_method_2_code 1 (some (.object "java/lang/String")) :: ws) ({ frames := 4, cells := 4, slots := 56, locals := 59 } : Room)) (fun a U => a = #[.ref a1] ∧ (Z.Warmed39 U.vm ∧ IB Z U.vm []) ∧ U.heap = h0) (fun _ _ _ _ _ => True) (fun _ U o U' => ∃ v L, o = .returned v ∧ own_Q7_2 Z a1 cs b1 u1 h0 n0 v U'.heap L ∧ ReturnedEndW U o U' L ({ frames := 4, cells := 4, slots := 56, locals := 59 } : Room).cells ({ frames := 4, cells := 4, slots := 56, locals := 59 } : Room).slots) := by
  refine MetFree.of_bodySF (plainFor_of_name own_pn9) hisR ?_
  intro p e s m args below meth c s₁ Bd hml0 hP hK
  obtain ⟨rfl, ⟨hZ, hIB⟩, hh⟩ := hP
  have hx := Bd.exec
  have hby := Bd.bytes
  have hml : c.maxLocals = 1 := hml0
  have hown : s.vm.findClass "com/example/count_changes/countchanges/model/Tenancy" = some m.cls := findClass_of_methodNamed Bd.named
  have hnm := (name_of_methodNamed Bd.named Bd.method).1
  have hlk : meth.locks = false := BodyLoose.notSynchronized Bd
  have X0 : Stand p l e ({ frames := 4, cells := 4, slots := 56, locals := 59 } : Room) s m #[.ref a1] below meth c s₁ [] 0 0 := Stand.of_body Bd
  have e0 : s₁.heap = h0 := by rw [← hh, Bd.state]; rfl
  have N0 := Fr.nil n0
  have K0 := Keep.refl h0 []
  have own_wS : ∀ d ∈ Bundle.stringAtoms, d.before a0 Z = true := fun d hd => hw d (own_wSm d hd)
  show own_Go p e below (own_W s 4 56 (own_Q7_2 Z a1 cs b1 u1 h0 n0)) (s₁.setTop (entryFrame m #[.ref a1] 1))
  rw [own_ef7]
  refine own_aloadN X0 hx (hb hby own_d7_0) (q := 1) rfl rfl rfl ?_
  refine own_ldcV (s := s) (vm0 := s.vm) X0 hx hZ hown (hw _ (List.mem_of_getElem? (i := 34) rfl)) own_wS e0 ((State.WarmedH.refl s).since 0) (Nat.zero_le _) (Fr.nil _) (by rw [hh]; exact HK) hIB (by decide) H27 HCW (z := 11) ⟨by decide, rfl⟩ (by decide) rfl (n := 44) (by decide) (by decide) (by decide) (by decide) (hb hby own_d7_1) (q := 3) rfl (fun a184 T180 h183 k186 a185 X181 e182 E187 hS188 Z189 hZ hown E190 F191 F192 A193 IB194 => ?_)
  have S195 := Sta.ext E187 S0p
  have E196 := Exa.ext E187 E1p
  have F197 := Fld.ext E187 F2p
  have F198 := Fld.ext E187 F3p
  have V199 := V4p.ext E187
  have K200 := K0.ext E187
  replace A193 : own_A Z h183 a185 .byte [.int (115 : Int32), .int (101 : Int32), .int (114 : Int32), .int (118 : Int32), .int (105 : Int32), .int (99 : Int32), .int (101 : Int32), .int (80 : Int32), .int (97 : Int32), .int (116 : Int32), .int (104 : Int32)] := A193
  refine own_callSP X181 hx hZ hown (hw _ (List.mem_of_getElem? (i := 37) rfl)) (hw _ (List.mem_of_getElem? (i := 38) rfl)) (hw _ (List.mem_of_getElem? (i := 39) rfl)) (hw _ (List.mem_of_getElem? (i := 40) rfl)) (by decide) (rm8 l Z a0 hw [] a1 a184 h183) own_pd4 rfl e182 (by rw [hml]; rfl) (argsL := [.ref a1, .ref a184]) (st := []) rfl (W := 0) (Nat.le_of_eq rfl) (by decide) (by decide) (by decide) (by decide) (hb hby own_d7_3) (q := 6) rfl (fun T201 X202 e203 => ?_)
  refine own_pop X202 hx (hb hby own_d7_6) (q := 7) rfl rfl ?_
  refine own_aloadN X202 hx (hb hby own_d7_7) (q := 8) rfl rfl rfl ?_
  refine own_ldcV (s := s) (vm0 := T180.vm) X202 hx hZ hown (hw _ (List.mem_of_getElem? (i := 41) rfl)) own_wS e203 hS188 Z189 (Fr.nil _) (by rw [hh]; exact HK) IB194 (by decide) H28 HCW (z := 1) ⟨by decide, rfl⟩ (by decide) rfl (n := 4) (by decide) (by decide) (by decide) (by decide) (hb hby own_d7_8) (q := 10) rfl (fun a208 T204 h207 k210 a209 X205 e206 E211 hS212 Z213 hZ hown E214 F215 F216 A217 IB218 => ?_)
  have S219 := Sta.ext E211 S195
  have E220 := Exa.ext E211 E196
  have F221 := Fld.ext E211 F197
  have F222 := Fld.ext E211 F198
  have V223 := V199.ext E211
  have E224 := Exa.ext E211 E190
  have F225 := Fld.ext E211 F191
  have F226 := Fld.ext E211 F192
  have A227 := A193.ext E211
  have K228 := K200.ext E211
  have Z229 : k186 ≤ h207.size := Nat.le_trans Z189 E211.1
  replace A217 : own_A Z h207 a209 .byte [.int (47 : Int32)] := A217
  refine own_callVP X205 hx hZ hown (hw _ (List.mem_of_getElem? (i := 42) rfl)) (hw _ (List.mem_of_getElem? (i := 43) rfl)) (hw _ (List.mem_of_getElem? (i := 45) rfl)) (hw _ (List.mem_of_getElem? (i := 45) rfl)) (hw _ (List.mem_of_getElem? (i := 44) rfl)) (hw _ (List.mem_of_getElem? (i := 2) rfl)) (hw _ (List.mem_of_getElem? (i := 46) rfl)) E220 (by decide) (rm9_2 l Z a0 hw [] a1 a208 cs b1 a209 u1 h207 S219 E220 F221 F222 V223 E214 F216 F215 A217 P0) own_pd5 rfl e206 (by rw [hml]; rfl) (argsL := [.ref a208]) (st := []) rfl (W := 0) (Nat.le_of_eq rfl) (by decide) (by decide) (by decide) (by decide) (hb hby own_d7_10) (q := 13) rfl (fun T230 X231 e232 => ?_)
  rw [show (own_f9_2 cs b1 a209 u1 : Int32) = (1 : Int32) from rfl]
  refine own_if0M X231 hx (hb hby own_d7_13) (cd := .ne) (x := (1 : Int32)) (pt := 30) (q := 16) (by decide) (by decide) rfl rfl (fun _ => ?_) (fun h => False.elim (((by decide) : ¬ ((1 : Int32) = (0 : Int32))) h))
  refine own_aloadN X231 hx (hb hby own_d7_30) (q := 31) rfl rfl rfl ?_
  refine own_mono (fun o t h => own_EW' hS212 h) ?_
  refine own_retA X231 hx hlk rfl rfl rfl Bd.returns (hb hby own_d7_31) ?_ (by decide) (by decide)
  show own_Q7_2 Z a1 cs b1 u1 h0 n0 _ T230.heap _ ∧ k210 ≤ T230.heap.size
  rw [e232]
  exact ⟨⟨rfl, N0, K228⟩, Z213⟩

def own_Q7_3 (Z : State) (a1 : Addr) (cs : Int32) (b1 : Addr) (u1 : Int32) (u2 : Int32) (h0 : Heap) (n0 : Nat) (v : Option Value) (h : Heap) (L : List Loc) : Prop := v = some (.ref a1) ∧ Fr n0 L ∧ Keep h0 h []
set_option maxRecDepth 65536 in
set_option maxHeartbeats 40000000 in
theorem rm7_3 (l : Launch) (Z : State) (a0 : Array Value) (hw : ∀ d ∈ tables_1, d.before a0 Z = true) (ws : List Jvm.Cond) (a1 : Addr) (cs : Int32) (b1 : Addr) (u1 : Int32) (u2 : Int32) (h0 : Heap) (n0 : Nat) (S0p : Sta Z h0 "java/lang/String" "COMPACT_STRINGS" "Z" (.int cs)) (E1p : Exa Z h0 a1 "java/lang/String") (F2p : Fld Z h0 a1 "java/lang/String" "value" "[B" (.ref b1)) (F3p : Fld Z h0 a1 "java/lang/String" "coder" "B" (.int (0 : Int32))) (V4p : own_A Z h0 b1 .byte [.int (47 : Int32), .int u1, .int u2]) (HK : ∀ (b : Addr) (cl : Cell), Z.heap[b]? = some cl → h0[b]? = some cl) (H27 : Jvm.Lit.constHeld Z "com/example/count_changes/countchanges/model/Tenancy" 27) (H28 : Jvm.Lit.constHeld Z "com/example/count_changes/countchanges/model/Tenancy" 28) (HCW : Jvm.Lit.compactW.before a0 Z = true) (P0 : ¬ cs = 0) :
    MetFree l (⟨"com/example/count_changes/countchanges/model/Tenancy", "checkServicePath", "(Ljava/lang/String;)Ljava/lang/String;"⟩ : MethodName) (head1 (Jvm.Cond.code (⟨"com/example/count_changes/countchanges/model/Tenancy", "checkServicePath", "(Ljava/lang/String;)Ljava/lang/String;"⟩ : MethodName) prog_10_method_2_code 1 (some (.object "java/lang/String")) :: ws) ({ frames := 4, cells := 4, slots := 56, locals := 59 } : Room)) (fun a U => a = #[.ref a1] ∧ (Z.Warmed39 U.vm ∧ IB Z U.vm []) ∧ U.heap = h0) (fun _ _ _ _ _ => True) (fun _ U o U' => ∃ v L, o = .returned v ∧ own_Q7_3 Z a1 cs b1 u1 u2 h0 n0 v U'.heap L ∧ ReturnedEndW U o U' L ({ frames := 4, cells := 4, slots := 56, locals := 59 } : Room).cells ({ frames := 4, cells := 4, slots := 56, locals := 59 } : Room).slots) := by
  refine MetFree.of_bodySF (plainFor_of_name own_pn9) hisR ?_
  intro p e s m args below meth c s₁ Bd hml0 hP hK
  obtain ⟨rfl, ⟨hZ, hIB⟩, hh⟩ := hP
  have hx := Bd.exec
  have hby := Bd.bytes
  have hml : c.maxLocals = 1 := hml0
  have hown : s.vm.findClass "com/example/count_changes/countchanges/model/Tenancy" = some m.cls := findClass_of_methodNamed Bd.named
  have hnm := (name_of_methodNamed Bd.named Bd.method).1
  have hlk : meth.locks = false := BodyLoose.notSynchronized Bd
  have X0 : Stand p l e ({ frames := 4, cells := 4, slots := 56, locals := 59 } : Room) s m #[.ref a1] below meth c s₁ [] 0 0 := Stand.of_body Bd
  have e0 : s₁.heap = h0 := by rw [← hh, Bd.state]; rfl
  have N0 := Fr.nil n0
  have K0 := Keep.refl h0 []
  have own_wS : ∀ d ∈ Bundle.stringAtoms, d.before a0 Z = true := fun d hd => hw d (own_wSm d hd)
  show own_Go p e below (own_W s 4 56 (own_Q7_3 Z a1 cs b1 u1 u2 h0 n0)) (s₁.setTop (entryFrame m #[.ref a1] 1))
  rw [own_ef7]
  refine own_aloadN X0 hx (hb hby own_d7_0) (q := 1) rfl rfl rfl ?_
  refine own_ldcV (s := s) (vm0 := s.vm) X0 hx hZ hown (hw _ (List.mem_of_getElem? (i := 34) rfl)) own_wS e0 ((State.WarmedH.refl s).since 0) (Nat.zero_le _) (Fr.nil _) (by rw [hh]; exact HK) hIB (by decide) H27 HCW (z := 11) ⟨by decide, rfl⟩ (by decide) rfl (n := 44) (by decide) (by decide) (by decide) (by decide) (hb hby own_d7_1) (q := 3) rfl (fun a237 T233 h236 k239 a238 X234 e235 E240 hS241 Z242 hZ hown E243 F244 F245 A246 IB247 => ?_)
  have S248 := Sta.ext E240 S0p
  have E249 := Exa.ext E240 E1p
  have F250 := Fld.ext E240 F2p
  have F251 := Fld.ext E240 F3p
  have V252 := V4p.ext E240
  have K253 := K0.ext E240
  replace A246 : own_A Z h236 a238 .byte [.int (115 : Int32), .int (101 : Int32), .int (114 : Int32), .int (118 : Int32), .int (105 : Int32), .int (99 : Int32), .int (101 : Int32), .int (80 : Int32), .int (97 : Int32), .int (116 : Int32), .int (104 : Int32)] := A246
  refine own_callSP X234 hx hZ hown (hw _ (List.mem_of_getElem? (i := 37) rfl)) (hw _ (List.mem_of_getElem? (i := 38) rfl)) (hw _ (List.mem_of_getElem? (i := 39) rfl)) (hw _ (List.mem_of_getElem? (i := 40) rfl)) (by decide) (rm8 l Z a0 hw [] a1 a237 h236) own_pd4 rfl e235 (by rw [hml]; rfl) (argsL := [.ref a1, .ref a237]) (st := []) rfl (W := 0) (Nat.le_of_eq rfl) (by decide) (by decide) (by decide) (by decide) (hb hby own_d7_3) (q := 6) rfl (fun T254 X255 e256 => ?_)
  refine own_pop X255 hx (hb hby own_d7_6) (q := 7) rfl rfl ?_
  refine own_aloadN X255 hx (hb hby own_d7_7) (q := 8) rfl rfl rfl ?_
  refine own_ldcV (s := s) (vm0 := T233.vm) X255 hx hZ hown (hw _ (List.mem_of_getElem? (i := 41) rfl)) own_wS e256 hS241 Z242 (Fr.nil _) (by rw [hh]; exact HK) IB247 (by decide) H28 HCW (z := 1) ⟨by decide, rfl⟩ (by decide) rfl (n := 4) (by decide) (by decide) (by decide) (by decide) (hb hby own_d7_8) (q := 10) rfl (fun a261 T257 h260 k263 a262 X258 e259 E264 hS265 Z266 hZ hown E267 F268 F269 A270 IB271 => ?_)
  have S272 := Sta.ext E264 S248
  have E273 := Exa.ext E264 E249
  have F274 := Fld.ext E264 F250
  have F275 := Fld.ext E264 F251
  have V276 := V252.ext E264
  have E277 := Exa.ext E264 E243
  have F278 := Fld.ext E264 F244
  have F279 := Fld.ext E264 F245
  have A280 := A246.ext E264
  have K281 := K253.ext E264
  have Z282 : k239 ≤ h260.size := Nat.le_trans Z242 E264.1
  replace A270 : own_A Z h260 a262 .byte [.int (47 : Int32)] := A270
  refine own_callVP X258 hx hZ hown (hw _ (List.mem_of_getElem? (i := 42) rfl)) (hw _ (List.mem_of_getElem? (i := 43) rfl)) (hw _ (List.mem_of_getElem? (i := 45) rfl)) (hw _ (List.mem_of_getElem? (i := 45) rfl)) (hw _ (List.mem_of_getElem? (i := 44) rfl)) (hw _ (List.mem_of_getElem? (i := 2) rfl)) (hw _ (List.mem_of_getElem? (i := 46) rfl)) E273 (by decide) (rm9_3 l Z a0 hw [] a1 a261 cs b1 a262 u1 u2 h260 S272 E273 F274 F275 V276 E267 F269 F268 A270 P0) own_pd5 rfl e259 (by rw [hml]; rfl) (argsL := [.ref a261]) (st := []) rfl (W := 0) (Nat.le_of_eq rfl) (by decide) (by decide) (by decide) (by decide) (hb hby own_d7_10) (q := 13) rfl (fun T283 X284 e285 => ?_)
  rw [show (own_f9_3 cs b1 a262 u1 u2 : Int32) = (1 : Int32) from rfl]
  refine own_if0M X284 hx (hb hby own_d7_13) (cd := .ne) (x := (1 : Int32)) (pt := 30) (q := 16) (by decide) (by decide) rfl rfl (fun _ => ?_) (fun h => False.elim (((by decide) : ¬ ((1 : Int32) = (0 : Int32))) h))
  refine own_aloadN X284 hx (hb hby own_d7_30) (q := 31) rfl rfl rfl ?_
  refine own_mono (fun o t h => own_EW' hS265 h) ?_
  refine own_retA X284 hx hlk rfl rfl rfl Bd.returns (hb hby own_d7_31) ?_ (by decide) (by decide)
  show own_Q7_3 Z a1 cs b1 u1 u2 h0 n0 _ T283.heap _ ∧ k263 ≤ T283.heap.size
  rw [e285]
  exact ⟨⟨rfl, N0, K281⟩, Z266⟩

def own_Q7_4 (Z : State) (a1 : Addr) (cs : Int32) (b1 : Addr) (u1 : Int32) (u2 : Int32) (u3 : Int32) (h0 : Heap) (n0 : Nat) (v : Option Value) (h : Heap) (L : List Loc) : Prop := v = some (.ref a1) ∧ Fr n0 L ∧ Keep h0 h []
set_option maxRecDepth 65536 in
set_option maxHeartbeats 40000000 in
theorem rm7_4 (l : Launch) (Z : State) (a0 : Array Value) (hw : ∀ d ∈ tables_1, d.before a0 Z = true) (ws : List Jvm.Cond) (a1 : Addr) (cs : Int32) (b1 : Addr) (u1 : Int32) (u2 : Int32) (u3 : Int32) (h0 : Heap) (n0 : Nat) (S0p : Sta Z h0 "java/lang/String" "COMPACT_STRINGS" "Z" (.int cs)) (E1p : Exa Z h0 a1 "java/lang/String") (F2p : Fld Z h0 a1 "java/lang/String" "value" "[B" (.ref b1)) (F3p : Fld Z h0 a1 "java/lang/String" "coder" "B" (.int (0 : Int32))) (V4p : own_A Z h0 b1 .byte [.int (47 : Int32), .int u1, .int u2, .int u3]) (HK : ∀ (b : Addr) (cl : Cell), Z.heap[b]? = some cl → h0[b]? = some cl) (H27 : Jvm.Lit.constHeld Z "com/example/count_changes/countchanges/model/Tenancy" 27) (H28 : Jvm.Lit.constHeld Z "com/example/count_changes/countchanges/model/Tenancy" 28) (HCW : Jvm.Lit.compactW.before a0 Z = true) (P0 : ¬ cs = 0) :
    MetFree l (⟨"com/example/count_changes/countchanges/model/Tenancy", "checkServicePath", "(Ljava/lang/String;)Ljava/lang/String;"⟩ : MethodName) (head1 (Jvm.Cond.code (⟨"com/example/count_changes/countchanges/model/Tenancy", "checkServicePath", "(Ljava/lang/String;)Ljava/lang/String;"⟩ : MethodName) prog_10_method_2_code 1 (some (.object "java/lang/String")) :: ws) ({ frames := 4, cells := 4, slots := 56, locals := 59 } : Room)) (fun a U => a = #[.ref a1] ∧ (Z.Warmed39 U.vm ∧ IB Z U.vm []) ∧ U.heap = h0) (fun _ _ _ _ _ => True) (fun _ U o U' => ∃ v L, o = .returned v ∧ own_Q7_4 Z a1 cs b1 u1 u2 u3 h0 n0 v U'.heap L ∧ ReturnedEndW U o U' L ({ frames := 4, cells := 4, slots := 56, locals := 59 } : Room).cells ({ frames := 4, cells := 4, slots := 56, locals := 59 } : Room).slots) := by
  refine MetFree.of_bodySF (plainFor_of_name own_pn9) hisR ?_
  intro p e s m args below meth c s₁ Bd hml0 hP hK
  obtain ⟨rfl, ⟨hZ, hIB⟩, hh⟩ := hP
  have hx := Bd.exec
  have hby := Bd.bytes
  have hml : c.maxLocals = 1 := hml0
  have hown : s.vm.findClass "com/example/count_changes/countchanges/model/Tenancy" = some m.cls := findClass_of_methodNamed Bd.named
  have hnm := (name_of_methodNamed Bd.named Bd.method).1
  have hlk : meth.locks = false := BodyLoose.notSynchronized Bd
  have X0 : Stand p l e ({ frames := 4, cells := 4, slots := 56, locals := 59 } : Room) s m #[.ref a1] below meth c s₁ [] 0 0 := Stand.of_body Bd
  have e0 : s₁.heap = h0 := by rw [← hh, Bd.state]; rfl
  have N0 := Fr.nil n0
  have K0 := Keep.refl h0 []
  have own_wS : ∀ d ∈ Bundle.stringAtoms, d.before a0 Z = true := fun d hd => hw d (own_wSm d hd)
  show own_Go p e below (own_W s 4 56 (own_Q7_4 Z a1 cs b1 u1 u2 u3 h0 n0)) (s₁.setTop (entryFrame m #[.ref a1] 1))
  rw [own_ef7]
  refine own_aloadN X0 hx (hb hby own_d7_0) (q := 1) rfl rfl rfl ?_
  refine own_ldcV (s := s) (vm0 := s.vm) X0 hx hZ hown (hw _ (List.mem_of_getElem? (i := 34) rfl)) own_wS e0 ((State.WarmedH.refl s).since 0) (Nat.zero_le _) (Fr.nil _) (by rw [hh]; exact HK) hIB (by decide) H27 HCW (z := 11) ⟨by decide, rfl⟩ (by decide) rfl (n := 44) (by decide) (by decide) (by decide) (by decide) (hb hby own_d7_1) (q := 3) rfl (fun a290 T286 h289 k292 a291 X287 e288 E293 hS294 Z295 hZ hown E296 F297 F298 A299 IB300 => ?_)
  have S301 := Sta.ext E293 S0p
  have E302 := Exa.ext E293 E1p
  have F303 := Fld.ext E293 F2p
  have F304 := Fld.ext E293 F3p
  have V305 := V4p.ext E293
  have K306 := K0.ext E293
  replace A299 : own_A Z h289 a291 .byte [.int (115 : Int32), .int (101 : Int32), .int (114 : Int32), .int (118 : Int32), .int (105 : Int32), .int (99 : Int32), .int (101 : Int32), .int (80 : Int32), .int (97 : Int32), .int (116 : Int32), .int (104 : Int32)] := A299
  refine own_callSP X287 hx hZ hown (hw _ (List.mem_of_getElem? (i := 37) rfl)) (hw _ (List.mem_of_getElem? (i := 38) rfl)) (hw _ (List.mem_of_getElem? (i := 39) rfl)) (hw _ (List.mem_of_getElem? (i := 40) rfl)) (by decide) (rm8 l Z a0 hw [] a1 a290 h289) own_pd4 rfl e288 (by rw [hml]; rfl) (argsL := [.ref a1, .ref a290]) (st := []) rfl (W := 0) (Nat.le_of_eq rfl) (by decide) (by decide) (by decide) (by decide) (hb hby own_d7_3) (q := 6) rfl (fun T307 X308 e309 => ?_)
  refine own_pop X308 hx (hb hby own_d7_6) (q := 7) rfl rfl ?_
  refine own_aloadN X308 hx (hb hby own_d7_7) (q := 8) rfl rfl rfl ?_
  refine own_ldcV (s := s) (vm0 := T286.vm) X308 hx hZ hown (hw _ (List.mem_of_getElem? (i := 41) rfl)) own_wS e309 hS294 Z295 (Fr.nil _) (by rw [hh]; exact HK) IB300 (by decide) H28 HCW (z := 1) ⟨by decide, rfl⟩ (by decide) rfl (n := 4) (by decide) (by decide) (by decide) (by decide) (hb hby own_d7_8) (q := 10) rfl (fun a314 T310 h313 k316 a315 X311 e312 E317 hS318 Z319 hZ hown E320 F321 F322 A323 IB324 => ?_)
  have S325 := Sta.ext E317 S301
  have E326 := Exa.ext E317 E302
  have F327 := Fld.ext E317 F303
  have F328 := Fld.ext E317 F304
  have V329 := V305.ext E317
  have E330 := Exa.ext E317 E296
  have F331 := Fld.ext E317 F297
  have F332 := Fld.ext E317 F298
  have A333 := A299.ext E317
  have K334 := K306.ext E317
  have Z335 : k292 ≤ h313.size := Nat.le_trans Z295 E317.1
  replace A323 : own_A Z h313 a315 .byte [.int (47 : Int32)] := A323
  refine own_callVP X311 hx hZ hown (hw _ (List.mem_of_getElem? (i := 42) rfl)) (hw _ (List.mem_of_getElem? (i := 43) rfl)) (hw _ (List.mem_of_getElem? (i := 45) rfl)) (hw _ (List.mem_of_getElem? (i := 45) rfl)) (hw _ (List.mem_of_getElem? (i := 44) rfl)) (hw _ (List.mem_of_getElem? (i := 2) rfl)) (hw _ (List.mem_of_getElem? (i := 46) rfl)) E326 (by decide) (rm9_4 l Z a0 hw [] a1 a314 cs b1 a315 u1 u2 u3 h313 S325 E326 F327 F328 V329 E320 F322 F321 A323 P0) own_pd5 rfl e312 (by rw [hml]; rfl) (argsL := [.ref a314]) (st := []) rfl (W := 0) (Nat.le_of_eq rfl) (by decide) (by decide) (by decide) (by decide) (hb hby own_d7_10) (q := 13) rfl (fun T336 X337 e338 => ?_)
  rw [show (own_f9_4 cs b1 a315 u1 u2 u3 : Int32) = (1 : Int32) from rfl]
  refine own_if0M X337 hx (hb hby own_d7_13) (cd := .ne) (x := (1 : Int32)) (pt := 30) (q := 16) (by decide) (by decide) rfl rfl (fun _ => ?_) (fun h => False.elim (((by decide) : ¬ ((1 : Int32) = (0 : Int32))) h))
  refine own_aloadN X337 hx (hb hby own_d7_30) (q := 31) rfl rfl rfl ?_
  refine own_mono (fun o t h => own_EW' hS318 h) ?_
  refine own_retA X337 hx hlk rfl rfl rfl Bd.returns (hb hby own_d7_31) ?_ (by decide) (by decide)
  show own_Q7_4 Z a1 cs b1 u1 u2 u3 h0 n0 _ T336.heap _ ∧ k316 ≤ T336.heap.size
  rw [e338]
  exact ⟨⟨rfl, N0, K334⟩, Z319⟩
theorem own_ef14 (m : MethodId) (a1 : Addr) (a2 : Addr) : entryFrame m #[.ref a1, .ref a2] 3 = mkF m 0 #[.val (.ref a1), .val (.ref a2), .unset] [] := by first | (simp [entryFrame, mkF, argsToLocals, Value.category]; done) | rfl
theorem own_d14_0 : decode jdk_42_method_66_code 0 = .ok (.aload_n 0, 1) := by decide +kernel
theorem own_d14_1 : decode jdk_42_method_66_code 1 = .ok (.aload_n 1, 1) := by decide +kernel
theorem own_d14_2 : decode jdk_42_method_66_code 2 = .ok (.if_acmp .ne 5, 3) := by decide +kernel
theorem own_d14_5 : decode jdk_42_method_66_code 5 = .ok (.iconst 1, 1) := by decide +kernel
theorem own_d14_6 : decode jdk_42_method_66_code 6 = .ok (.ireturn, 1) := by decide +kernel
def own_f14  : Int32 := (1 : Int32)
set_option maxRecDepth 65536 in
set_option maxHeartbeats 40000000 in
theorem rm14 (l : Launch) (Z : State) (a0 : Array Value) (hw : ∀ d ∈ tables_1, d.before a0 Z = true) (ws : List Jvm.Cond) (a1 : Addr) (a2 : Addr) (h0 : Heap)  (P1 : a1 = a2) :
    MetFree l (⟨"java/lang/String", "equals", "(Ljava/lang/Object;)Z"⟩ : MethodName) (head1 (Jvm.Cond.code (⟨"java/lang/String", "equals", "(Ljava/lang/Object;)Z"⟩ : MethodName) jdk_42_method_66_code 3 (some .boolean) :: ws) ({ frames := 0, cells := 0, slots := 0, locals := 0 } : Room)) (fun a U => a = #[.ref a1, .ref a2] ∧ Z.Warmed39 U.vm ∧ U.heap = h0) (fun _ _ _ _ _ => True) (fun _ U o U' => ∃ v L, o = .returned v ∧ own_P (.int (own_f14 )) h0 v U'.heap L ∧ FrameEnd U o U' L ({ frames := 0, cells := 0, slots := 0, locals := 0 } : Room).cells ({ frames := 0, cells := 0, slots := 0, locals := 0 } : Room).slots) := by
  refine MetFree.of_bodySF (plainFor_of_name own_pn0) hisR ?_
  intro p e s m args below meth c s₁ Bd hml0 hP hK
  obtain ⟨rfl, hZ, hh⟩ := hP
  have hx := Bd.exec
  have hby := Bd.bytes
  have hml : c.maxLocals = 3 := hml0
  have hown : s.vm.findClass "java/lang/String" = some m.cls := findClass_of_methodNamed Bd.named
  have hnm := (name_of_methodNamed Bd.named Bd.method).1
  have hlk : meth.locks = false := BodyLoose.notSynchronized Bd
  have X0 : Stand p l e ({ frames := 0, cells := 0, slots := 0, locals := 0 } : Room) s m #[.ref a1, .ref a2] below meth c s₁ [] 0 0 := Stand.of_body Bd
  have e0 : s₁.heap = h0 := by rw [← hh, Bd.state]; rfl
  show own_Go p e below (own_E s 0 0 (own_P (.int (own_f14 )) h0)) (s₁.setTop (entryFrame m #[.ref a1, .ref a2] 3))
  rw [own_ef14]
  refine own_aloadN X0 hx (hb hby own_d14_0) (q := 1) rfl rfl rfl ?_
  refine own_aloadN X0 hx (hb hby own_d14_1) (q := 2) rfl rfl rfl ?_
  refine own_acmp X0 hx (cd := .ne) (v := .ref a1) (w := .ref a2) (same := true) rfl rfl (hb hby own_d14_2) (by rw [P1]; exact decide_eq_true rfl) (by decide) (q := 5) (by decide) ?_
  refine own_iconst X0 hx (v := (1 : Int32)) (hb hby own_d14_5) (q := 6) rfl rfl ?_
  refine own_retN X0 hx hlk (t := .boolean) (by simp) Bd.returns (hb hby own_d14_6) ?_ (by decide) (by decide)
  have r : own_f14  = (1 : Int32) := by rw [own_f14]
  exact ⟨by rw [r] <;> rfl, e0, rfl⟩
theorem own_pn12 : plainName "jdk/internal/util/Preconditions" = true := by first | (simp [plainName, overriddenIn]; done) | decide +kernel
theorem own_ef19_null (m : MethodId) (p1 : Int32) (p2 : Int32) : entryFrame m #[.int p1, .int p2, .null] 3 = mkF m 0 #[.val (.int p1), .val (.int p2), .val .null] [] := by first | (simp [entryFrame, mkF, argsToLocals, Value.category]; done) | rfl
theorem own_d19_0 : decode jdk_41_method_11_code 0 = .ok (.iload_n 0, 1) := by decide +kernel
theorem own_d19_1 : decode jdk_41_method_11_code 1 = .ok (.ifCond .lt 8, 3) := by decide +kernel
theorem own_d19_4 : decode jdk_41_method_11_code 4 = .ok (.iload_n 0, 1) := by decide +kernel
theorem own_d19_5 : decode jdk_41_method_11_code 5 = .ok (.iload_n 1, 1) := by decide +kernel
theorem own_d19_6 : decode jdk_41_method_11_code 6 = .ok (.if_icmp .lt 10, 3) := by decide +kernel
theorem own_d19_16 : decode jdk_41_method_11_code 16 = .ok (.iload_n 0, 1) := by decide +kernel
theorem own_d19_17 : decode jdk_41_method_11_code 17 = .ok (.ireturn, 1) := by decide +kernel
def own_f19_n (p1 : Int32) (p2 : Int32) : Int32 := p1
set_option maxRecDepth 65536 in
set_option maxHeartbeats 40000000 in
theorem rm19_n (l : Launch) (Z : State) (a0 : Array Value) (hw : ∀ d ∈ tables_1, d.before a0 Z = true) (ws : List Jvm.Cond) (p1 : Int32) (p2 : Int32) (h0 : Heap)  (P1 : ¬ p1 < 0) (P2 : p1 < p2) :
    MetFree l (⟨"jdk/internal/util/Preconditions", "checkIndex", "(IILjava/util/function/BiFunction;)I"⟩ : MethodName) (head1 (Jvm.Cond.code (⟨"jdk/internal/util/Preconditions", "checkIndex", "(IILjava/util/function/BiFunction;)I"⟩ : MethodName) jdk_41_method_11_code 3 (some .int) :: ws) ({ frames := 0, cells := 0, slots := 0, locals := 0 } : Room)) (fun a U => a = #[.int p1, .int p2, .null] ∧ Z.Warmed39 U.vm ∧ U.heap = h0) (fun _ _ _ _ _ => True) (fun _ U o U' => ∃ v L, o = .returned v ∧ own_P (.int (own_f19_n p1 p2)) h0 v U'.heap L ∧ FrameEnd U o U' L ({ frames := 0, cells := 0, slots := 0, locals := 0 } : Room).cells ({ frames := 0, cells := 0, slots := 0, locals := 0 } : Room).slots) := by
  refine MetFree.of_bodySF (plainFor_of_name own_pn12) hisR ?_
  intro p e s m args below meth c s₁ Bd hml0 hP hK
  obtain ⟨rfl, hZ, hh⟩ := hP
  have hx := Bd.exec
  have hby := Bd.bytes
  have hml : c.maxLocals = 3 := hml0
  have hown : s.vm.findClass "jdk/internal/util/Preconditions" = some m.cls := findClass_of_methodNamed Bd.named
  have hnm := (name_of_methodNamed Bd.named Bd.method).1
  have hlk : meth.locks = false := BodyLoose.notSynchronized Bd
  have X0 : Stand p l e ({ frames := 0, cells := 0, slots := 0, locals := 0 } : Room) s m #[.int p1, .int p2, .null] below meth c s₁ [] 0 0 := Stand.of_body Bd
  have e0 : s₁.heap = h0 := by rw [← hh, Bd.state]; rfl
  show own_Go p e below (own_E s 0 0 (own_P (.int (own_f19_n p1 p2)) h0)) (s₁.setTop (entryFrame m #[.int p1, .int p2, .null] 3))
  rw [own_ef19_null]
  refine own_iloadN X0 hx (hb hby own_d19_0) (q := 1) rfl rfl ?_
  refine own_if0P X0 hx (hb hby own_d19_1) (cd := .lt) (x := p1) (pt := 9) (q := 4) (by decide) (by decide) rfl rfl (fun h => False.elim ((P1 : ¬ (p1 < (0 : Int32))) h)) (fun _ => ?_)
  refine own_iloadN X0 hx (hb hby own_d19_4) (q := 5) rfl rfl ?_
  refine own_iloadN X0 hx (hb hby own_d19_5) (q := 6) rfl rfl ?_
  refine own_icmpP X0 hx (hb hby own_d19_6) (cd := .lt) (x := p1) (y := p2) (pt := 16) (q := 9) (by decide) (by decide) rfl rfl (fun _ => ?_) (fun h => False.elim (h (P2 : p1 < p2)))
  refine own_iloadN X0 hx (hb hby own_d19_16) (q := 17) rfl rfl ?_
  refine own_retI X0 hx hlk Bd.returns (hb hby own_d19_17) ?_ (by decide) (by decide)
  have r : own_f19_n p1 p2 = p1 := by rw [own_f19_n]
  exact ⟨by rw [r] <;> rfl, e0, rfl⟩
theorem own_ef19 (m : MethodId) (p1 : Int32) (p2 : Int32) (a3 : Addr) : entryFrame m #[.int p1, .int p2, .ref a3] 3 = mkF m 0 #[.val (.int p1), .val (.int p2), .val (.ref a3)] [] := by first | (simp [entryFrame, mkF, argsToLocals, Value.category]; done) | rfl

def own_f19_r (p1 : Int32) (p2 : Int32) : Int32 := p1
set_option maxRecDepth 65536 in
set_option maxHeartbeats 40000000 in
theorem rm19_r (l : Launch) (Z : State) (a0 : Array Value) (hw : ∀ d ∈ tables_1, d.before a0 Z = true) (ws : List Jvm.Cond) (p1 : Int32) (p2 : Int32) (a3 : Addr) (h0 : Heap)  (P1 : ¬ p1 < 0) (P2 : p1 < p2) :
    MetFree l (⟨"jdk/internal/util/Preconditions", "checkIndex", "(IILjava/util/function/BiFunction;)I"⟩ : MethodName) (head1 (Jvm.Cond.code (⟨"jdk/internal/util/Preconditions", "checkIndex", "(IILjava/util/function/BiFunction;)I"⟩ : MethodName) jdk_41_method_11_code 3 (some .int) :: ws) ({ frames := 0, cells := 0, slots := 0, locals := 0 } : Room)) (fun a U => a = #[.int p1, .int p2, .ref a3] ∧ Z.Warmed39 U.vm ∧ U.heap = h0) (fun _ _ _ _ _ => True) (fun _ U o U' => ∃ v L, o = .returned v ∧ own_P (.int (own_f19_r p1 p2)) h0 v U'.heap L ∧ FrameEnd U o U' L ({ frames := 0, cells := 0, slots := 0, locals := 0 } : Room).cells ({ frames := 0, cells := 0, slots := 0, locals := 0 } : Room).slots) := by
  refine MetFree.of_bodySF (plainFor_of_name own_pn12) hisR ?_
  intro p e s m args below meth c s₁ Bd hml0 hP hK
  obtain ⟨rfl, hZ, hh⟩ := hP
  have hx := Bd.exec
  have hby := Bd.bytes
  have hml : c.maxLocals = 3 := hml0
  have hown : s.vm.findClass "jdk/internal/util/Preconditions" = some m.cls := findClass_of_methodNamed Bd.named
  have hnm := (name_of_methodNamed Bd.named Bd.method).1
  have hlk : meth.locks = false := BodyLoose.notSynchronized Bd
  have X0 : Stand p l e ({ frames := 0, cells := 0, slots := 0, locals := 0 } : Room) s m #[.int p1, .int p2, .ref a3] below meth c s₁ [] 0 0 := Stand.of_body Bd
  have e0 : s₁.heap = h0 := by rw [← hh, Bd.state]; rfl
  show own_Go p e below (own_E s 0 0 (own_P (.int (own_f19_r p1 p2)) h0)) (s₁.setTop (entryFrame m #[.int p1, .int p2, .ref a3] 3))
  rw [own_ef19]
  refine own_iloadN X0 hx (hb hby own_d19_0) (q := 1) rfl rfl ?_
  refine own_if0P X0 hx (hb hby own_d19_1) (cd := .lt) (x := p1) (pt := 9) (q := 4) (by decide) (by decide) rfl rfl (fun h => False.elim ((P1 : ¬ (p1 < (0 : Int32))) h)) (fun _ => ?_)
  refine own_iloadN X0 hx (hb hby own_d19_4) (q := 5) rfl rfl ?_
  refine own_iloadN X0 hx (hb hby own_d19_5) (q := 6) rfl rfl ?_
  refine own_icmpP X0 hx (hb hby own_d19_6) (cd := .lt) (x := p1) (y := p2) (pt := 16) (q := 9) (by decide) (by decide) rfl rfl (fun _ => ?_) (fun h => False.elim (h (P2 : p1 < p2)))
  refine own_iloadN X0 hx (hb hby own_d19_16) (q := 17) rfl rfl ?_
  refine own_retI X0 hx hlk Bd.returns (hb hby own_d19_17) ?_ (by decide) (by decide)
  have r : own_f19_r p1 p2 = p1 := by rw [own_f19_r]
  exact ⟨by rw [r] <;> rfl, e0, rfl⟩
theorem own_pd6 : parseMethodDescriptor "(IILjava/util/function/BiFunction;)I" = some ⟨[.int, .int, (.object "java/util/function/BiFunction")], some .int⟩ := by decide +kernel
theorem own_ef18 (m : MethodId) (p1 : Int32) (p2 : Int32) : entryFrame m #[.int p1, .int p2] 2 = mkF m 0 #[.val (.int p1), .val (.int p2)] [] := by first | (simp [entryFrame, mkF, argsToLocals, Value.category]; done) | rfl
theorem own_d18_0 : decode jdk_42_method_155_code 0 = .ok (.iload_n 0, 1) := by decide +kernel
theorem own_d18_1 : decode jdk_42_method_155_code 1 = .ok (.iload_n 1, 1) := by decide +kernel
theorem own_d18_2 : decode jdk_42_method_155_code 2 = .ok (.getstatic 1053, 3) := by decide +kernel
theorem own_d18_5 : decode jdk_42_method_155_code 5 = .ok (.invokestatic 1059, 3) := by decide +kernel
theorem own_d18_8 : decode jdk_42_method_155_code 8 = .ok (.pop, 1) := by decide +kernel
theorem own_d18_9 : decode jdk_42_method_155_code 9 = .ok (.return_, 1) := by decide +kernel
set_option maxRecDepth 65536 in
set_option maxHeartbeats 40000000 in
theorem rm18_n (l : Launch) (Z : State) (a0 : Array Value) (hw : ∀ d ∈ tables_1, d.before a0 Z = true) (ws : List Jvm.Cond) (p1 : Int32) (p2 : Int32) (h0 : Heap) (S0p : Sta Z h0 "jdk/internal/util/Preconditions" "SIOOBE_FORMATTER" "Ljava/util/function/BiFunction;" (.null)) (P1 : ¬ p1 < 0) (P2 : p1 < p2) :
    MetFree l (⟨"java/lang/String", "checkIndex", "(II)V"⟩ : MethodName) (head1 (Jvm.Cond.code (⟨"java/lang/String", "checkIndex", "(II)V"⟩ : MethodName) jdk_42_method_155_code 2 none :: ws) ({ frames := 1, cells := 0, slots := 0, locals := 14 } : Room)) (fun a U => a = #[.int p1, .int p2] ∧ Z.Warmed39 U.vm ∧ U.heap = h0) (fun _ _ _ _ _ => True) (fun _ U o U' => ∃ v L, o = .returned v ∧ own_V h0 v U'.heap L ∧ FrameEnd U o U' L ({ frames := 1, cells := 0, slots := 0, locals := 14 } : Room).cells ({ frames := 1, cells := 0, slots := 0, locals := 14 } : Room).slots) := by
  refine MetFree.of_bodySF (plainFor_of_name own_pn0) hisR ?_
  intro p e s m args below meth c s₁ Bd hml0 hP hK
  obtain ⟨rfl, hZ, hh⟩ := hP
  have hx := Bd.exec
  have hby := Bd.bytes
  have hml : c.maxLocals = 2 := hml0
  have hown : s.vm.findClass "java/lang/String" = some m.cls := findClass_of_methodNamed Bd.named
  have hnm := (name_of_methodNamed Bd.named Bd.method).1
  have hlk : meth.locks = false := BodyLoose.notSynchronized Bd
  have X0 : Stand p l e ({ frames := 1, cells := 0, slots := 0, locals := 14 } : Room) s m #[.int p1, .int p2] below meth c s₁ [] 0 0 := Stand.of_body Bd
  have e0 : s₁.heap = h0 := by rw [← hh, Bd.state]; rfl
  show own_Go p e below (own_E s 0 0 (own_V h0)) (s₁.setTop (entryFrame m #[.int p1, .int p2] 2))
  rw [own_ef18]
  refine own_iloadN X0 hx (hb hby own_d18_0) (q := 1) rfl rfl ?_
  refine own_iloadN X0 hx (hb hby own_d18_1) (q := 2) rfl rfl ?_
  refine own_getS X0 hx hZ hown (hw _ (List.mem_of_getElem? (i := 89) rfl)) Via.refl e0 S0p (hb hby own_d18_2) (q := 5) rfl (fun T339 X340 e341 => ?_)
  refine own_callSP X340 hx hZ hown (hw _ (List.mem_of_getElem? (i := 91) rfl)) (hw _ (List.mem_of_getElem? (i := 92) rfl)) (hw _ (List.mem_of_getElem? (i := 90) rfl)) (hw _ (List.mem_of_getElem? (i := 93) rfl)) (by decide) (rm19_n l Z a0 hw [] p1 p2 h0  P1 P2) own_pd6 rfl e341 (by rw [hml]; rfl) (argsL := [.int p1, .int p2, .null]) (st := []) rfl (W := 0) (Nat.le_of_eq rfl) (by decide) (by decide) (by decide) (by decide) (hb hby own_d18_5) (q := 8) rfl (fun T342 X343 e344 => ?_)
  refine own_pop X343 hx (hb hby own_d18_8) (q := 9) rfl rfl ?_
  refine own_retV X343 hx hlk (rest := []) Bd.returns (hb hby own_d18_9) ?_ (by decide) (by decide)
  exact ⟨rfl, e344, rfl⟩

set_option maxRecDepth 65536 in
set_option maxHeartbeats 40000000 in
theorem rm18_r (l : Launch) (Z : State) (a0 : Array Value) (hw : ∀ d ∈ tables_1, d.before a0 Z = true) (ws : List Jvm.Cond) (p1 : Int32) (p2 : Int32) (g : Addr) (h0 : Heap) (S0p : Sta Z h0 "jdk/internal/util/Preconditions" "SIOOBE_FORMATTER" "Ljava/util/function/BiFunction;" (.ref g)) (P1 : ¬ p1 < 0) (P2 : p1 < p2) :
    MetFree l (⟨"java/lang/String", "checkIndex", "(II)V"⟩ : MethodName) (head1 (Jvm.Cond.code (⟨"java/lang/String", "checkIndex", "(II)V"⟩ : MethodName) jdk_42_method_155_code 2 none :: ws) ({ frames := 1, cells := 0, slots := 0, locals := 14 } : Room)) (fun a U => a = #[.int p1, .int p2] ∧ Z.Warmed39 U.vm ∧ U.heap = h0) (fun _ _ _ _ _ => True) (fun _ U o U' => ∃ v L, o = .returned v ∧ own_V h0 v U'.heap L ∧ FrameEnd U o U' L ({ frames := 1, cells := 0, slots := 0, locals := 14 } : Room).cells ({ frames := 1, cells := 0, slots := 0, locals := 14 } : Room).slots) := by
  refine MetFree.of_bodySF (plainFor_of_name own_pn0) hisR ?_
  intro p e s m args below meth c s₁ Bd hml0 hP hK
  obtain ⟨rfl, hZ, hh⟩ := hP
  have hx := Bd.exec
  have hby := Bd.bytes
  have hml : c.maxLocals = 2 := hml0
  have hown : s.vm.findClass "java/lang/String" = some m.cls := findClass_of_methodNamed Bd.named
  have hnm := (name_of_methodNamed Bd.named Bd.method).1
  have hlk : meth.locks = false := BodyLoose.notSynchronized Bd
  have X0 : Stand p l e ({ frames := 1, cells := 0, slots := 0, locals := 14 } : Room) s m #[.int p1, .int p2] below meth c s₁ [] 0 0 := Stand.of_body Bd
  have e0 : s₁.heap = h0 := by rw [← hh, Bd.state]; rfl
  show own_Go p e below (own_E s 0 0 (own_V h0)) (s₁.setTop (entryFrame m #[.int p1, .int p2] 2))
  rw [own_ef18]
  refine own_iloadN X0 hx (hb hby own_d18_0) (q := 1) rfl rfl ?_
  refine own_iloadN X0 hx (hb hby own_d18_1) (q := 2) rfl rfl ?_
  refine own_getS X0 hx hZ hown (hw _ (List.mem_of_getElem? (i := 89) rfl)) Via.refl e0 S0p (hb hby own_d18_2) (q := 5) rfl (fun T345 X346 e347 => ?_)
  refine own_callSP X346 hx hZ hown (hw _ (List.mem_of_getElem? (i := 91) rfl)) (hw _ (List.mem_of_getElem? (i := 92) rfl)) (hw _ (List.mem_of_getElem? (i := 90) rfl)) (hw _ (List.mem_of_getElem? (i := 93) rfl)) (by decide) (rm19_r l Z a0 hw [] p1 p2 g h0  P1 P2) own_pd6 rfl e347 (by rw [hml]; rfl) (argsL := [.int p1, .int p2, .ref g]) (st := []) rfl (W := 0) (Nat.le_of_eq rfl) (by decide) (by decide) (by decide) (by decide) (hb hby own_d18_5) (q := 8) rfl (fun T348 X349 e350 => ?_)
  refine own_pop X349 hx (hb hby own_d18_8) (q := 9) rfl rfl ?_
  refine own_retV X349 hx hlk (rest := []) Bd.returns (hb hby own_d18_9) ?_ (by decide) (by decide)
  exact ⟨rfl, e350, rfl⟩
theorem rm18 (l : Launch) (Z : State) (a0 : Array Value) (hw : ∀ d ∈ tables_1, d.before a0 Z = true) (ws : List Jvm.Cond) (p1 : Int32) (p2 : Int32) (G : Value) (h0 : Heap) (S0p : Sta Z h0 "jdk/internal/util/Preconditions" "SIOOBE_FORMATTER" "Ljava/util/function/BiFunction;" G) (rG : G.isRef = true) (P1 : ¬ p1 < 0) (P2 : p1 < p2) :
    MetFree l (⟨"java/lang/String", "checkIndex", "(II)V"⟩ : MethodName) (head1 (Jvm.Cond.code (⟨"java/lang/String", "checkIndex", "(II)V"⟩ : MethodName) jdk_42_method_155_code 2 none :: ws) ({ frames := 1, cells := 0, slots := 0, locals := 14 } : Room)) (fun a U => a = #[.int p1, .int p2] ∧ Z.Warmed39 U.vm ∧ U.heap = h0) (fun _ _ _ _ _ => True) (fun _ U o U' => ∃ v L, o = .returned v ∧ own_V h0 v U'.heap L ∧ FrameEnd U o U' L ({ frames := 1, cells := 0, slots := 0, locals := 14 } : Room).cells ({ frames := 1, cells := 0, slots := 0, locals := 14 } : Room).slots) := by
  rcases ref_cases rG with rfl | ⟨g, rfl⟩
  · exact rm18_n l Z a0 hw ws p1 p2 h0 S0p P1 P2
  · exact rm18_r l Z a0 hw ws p1 p2 g h0 S0p P1 P2
theorem own_ef16 (m : MethodId) (a1 : Addr) : entryFrame m #[.ref a1] 1 = mkF m 0 #[.val (.ref a1)] [] := by first | (simp [entryFrame, mkF, argsToLocals, Value.category]; done) | rfl
theorem own_d16_0 : decode jdk_42_method_154_code 0 = .ok (.getstatic 38, 3) := by decide +kernel
theorem own_d16_3 : decode jdk_42_method_154_code 3 = .ok (.ifCond .eq 14, 3) := by decide +kernel
theorem own_d16_6 : decode jdk_42_method_154_code 6 = .ok (.aload_n 0, 1) := by decide +kernel
theorem own_d16_7 : decode jdk_42_method_154_code 7 = .ok (.getfield 15, 3) := by decide +kernel
theorem own_d16_10 : decode jdk_42_method_154_code 10 = .ok (.ifCond .ne 7, 3) := by decide +kernel
theorem own_d16_13 : decode jdk_42_method_154_code 13 = .ok (.iconst 1, 1) := by decide +kernel
theorem own_d16_14 : decode jdk_42_method_154_code 14 = .ok (.goto 4, 3) := by decide +kernel
theorem own_d16_18 : decode jdk_42_method_154_code 18 = .ok (.ireturn, 1) := by decide +kernel
def own_f16 (cs : Int32) : Int32 := (1 : Int32)
set_option maxRecDepth 65536 in
set_option maxHeartbeats 40000000 in
theorem rm16 (l : Launch) (Z : State) (a0 : Array Value) (hw : ∀ d ∈ tables_1, d.before a0 Z = true) (ws : List Jvm.Cond) (a1 : Addr) (cs : Int32) (h0 : Heap) (S0p : Sta Z h0 "java/lang/String" "COMPACT_STRINGS" "Z" (.int cs)) (F1p : Fld Z h0 a1 "java/lang/String" "coder" "B" (.int (0 : Int32))) (P0 : ¬ cs = 0) :
    MetFree l (⟨"java/lang/String", "isLatin1", "()Z"⟩ : MethodName) (head1 (Jvm.Cond.code (⟨"java/lang/String", "isLatin1", "()Z"⟩ : MethodName) jdk_42_method_154_code 1 (some .boolean) :: ws) ({ frames := 0, cells := 0, slots := 0, locals := 0 } : Room)) (fun a U => a = #[.ref a1] ∧ Z.Warmed39 U.vm ∧ U.heap = h0) (fun _ _ _ _ _ => True) (fun _ U o U' => ∃ v L, o = .returned v ∧ own_P (.int (own_f16 cs)) h0 v U'.heap L ∧ FrameEnd U o U' L ({ frames := 0, cells := 0, slots := 0, locals := 0 } : Room).cells ({ frames := 0, cells := 0, slots := 0, locals := 0 } : Room).slots) := by
  refine MetFree.of_bodySF (plainFor_of_name own_pn0) hisR ?_
  intro p e s m args below meth c s₁ Bd hml0 hP hK
  obtain ⟨rfl, hZ, hh⟩ := hP
  have hx := Bd.exec
  have hby := Bd.bytes
  have hml : c.maxLocals = 1 := hml0
  have hown : s.vm.findClass "java/lang/String" = some m.cls := findClass_of_methodNamed Bd.named
  have hnm := (name_of_methodNamed Bd.named Bd.method).1
  have hlk : meth.locks = false := BodyLoose.notSynchronized Bd
  have X0 : Stand p l e ({ frames := 0, cells := 0, slots := 0, locals := 0 } : Room) s m #[.ref a1] below meth c s₁ [] 0 0 := Stand.of_body Bd
  have e0 : s₁.heap = h0 := by rw [← hh, Bd.state]; rfl
  show own_Go p e below (own_E s 0 0 (own_P (.int (own_f16 cs)) h0)) (s₁.setTop (entryFrame m #[.ref a1] 1))
  rw [own_ef16]
  refine own_getS X0 hx hZ hown (hw _ (List.mem_of_getElem? (i := 14) rfl)) Via.refl e0 S0p (hb hby own_d16_0) (q := 3) rfl (fun T351 X352 e353 => ?_)
  refine own_if0P X352 hx (hb hby own_d16_3) (cd := .eq) (x := cs) (pt := 17) (q := 6) (by decide) (by decide) rfl rfl (fun h => False.elim ((P0 : ¬ (cs = (0 : Int32))) h)) (fun _ => ?_)
  refine own_aloadN X352 hx (hb hby own_d16_6) (q := 7) rfl rfl rfl ?_
  refine own_getF X352 hx hZ hown (host := "") (Or.inl (hw _ (List.mem_of_getElem? (i := 26) rfl))) Via.refl e353 F1p (hb hby own_d16_7) (q := 10) rfl (fun T354 X355 e356 => ?_)
  refine own_if0M X355 hx (hb hby own_d16_10) (cd := .ne) (x := (0 : Int32)) (pt := 17) (q := 13) (by decide) (by decide) rfl rfl (fun h => False.elim (h ((by decide) : (0 : Int32) = (0 : Int32)))) (fun _ => ?_)
  refine own_iconst X355 hx (v := (1 : Int32)) (hb hby own_d16_13) (q := 14) rfl rfl ?_
  refine own_goto X355 hx (hb hby own_d16_14) (q := 18) (by decide) (by decide) ?_
  refine own_retN X355 hx hlk (t := .boolean) (by simp) Bd.returns (hb hby own_d16_18) ?_ (by decide) (by decide)
  have r : own_f16 cs = (1 : Int32) := by rw [own_f16]
  exact ⟨by rw [r] <;> rfl, e356, rfl⟩
theorem own_pd7 : parseMethodDescriptor "(II)V" = some ⟨[.int, .int], none⟩ := by decide +kernel
theorem own_pn17 : plainName "java/lang/StringLatin1" = true := by first | (simp [plainName, overriddenIn]; done) | decide +kernel
theorem own_ef17_k0 (m : MethodId) (a1 : Addr) : entryFrame m #[.ref a1, .int (0 : Int32)] 2 = mkF m 0 #[.val (.ref a1), .val (.int (0 : Int32))] [] := by first | (simp [entryFrame, mkF, argsToLocals, Value.category]; done) | rfl
theorem own_d17_0 : decode jdk_43_method_2_code 0 = .ok (.iload_n 1, 1) := by decide +kernel
theorem own_d17_1 : decode jdk_43_method_2_code 1 = .ok (.aload_n 0, 1) := by decide +kernel
theorem own_d17_2 : decode jdk_43_method_2_code 2 = .ok (.arraylength, 1) := by decide +kernel
theorem own_d17_3 : decode jdk_43_method_2_code 3 = .ok (.invokestatic 9, 3) := by decide +kernel
theorem own_d17_6 : decode jdk_43_method_2_code 6 = .ok (.aload_n 0, 1) := by decide +kernel
theorem own_d17_7 : decode jdk_43_method_2_code 7 = .ok (.iload_n 1, 1) := by decide +kernel
theorem own_d17_8 : decode jdk_43_method_2_code 8 = .ok (.baload, 1) := by decide +kernel
theorem own_d17_9 : decode jdk_43_method_2_code 9 = .ok (.sipush 255, 3) := by decide +kernel
theorem own_d17_12 : decode jdk_43_method_2_code 12 = .ok (.iand, 1) := by decide +kernel
theorem own_d17_13 : decode jdk_43_method_2_code 13 = .ok (.i2c, 1) := by decide +kernel
theorem own_d17_14 : decode jdk_43_method_2_code 14 = .ok (.ireturn, 1) := by decide +kernel
def own_f17_1 (G : Value) : Int32 := (47 : Int32)
set_option maxRecDepth 65536 in
set_option maxHeartbeats 40000000 in
theorem rm17_1 (l : Launch) (Z : State) (a0 : Array Value) (hw : ∀ d ∈ tables_1, d.before a0 Z = true) (ws : List Jvm.Cond) (a1 : Addr) (G : Value) (h0 : Heap) (S0p : Sta Z h0 "jdk/internal/util/Preconditions" "SIOOBE_FORMATTER" "Ljava/util/function/BiFunction;" (G)) (V1p : own_A Z h0 a1 .byte [.int (47 : Int32)]) (rG : G.isRef = true) :
    MetFree l (⟨"java/lang/StringLatin1", "charAt", "([BI)C"⟩ : MethodName) (head1 (Jvm.Cond.code (⟨"java/lang/StringLatin1", "charAt", "([BI)C"⟩ : MethodName) jdk_43_method_2_code 2 (some .char) :: ws) ({ frames := 2, cells := 0, slots := 0, locals := 27 } : Room)) (fun a U => a = #[.ref a1, .int (0 : Int32)] ∧ Z.Warmed39 U.vm ∧ U.heap = h0) (fun _ _ _ _ _ => True) (fun _ U o U' => ∃ v L, o = .returned v ∧ own_P (.int (own_f17_1 G)) h0 v U'.heap L ∧ FrameEnd U o U' L ({ frames := 2, cells := 0, slots := 0, locals := 27 } : Room).cells ({ frames := 2, cells := 0, slots := 0, locals := 27 } : Room).slots) := by
  refine MetFree.of_bodySF (plainFor_of_name own_pn17) hisR ?_
  intro p e s m args below meth c s₁ Bd hml0 hP hK
  obtain ⟨rfl, hZ, hh⟩ := hP
  have hx := Bd.exec
  have hby := Bd.bytes
  have hml : c.maxLocals = 2 := hml0
  have hown : s.vm.findClass "java/lang/StringLatin1" = some m.cls := findClass_of_methodNamed Bd.named
  have hnm := (name_of_methodNamed Bd.named Bd.method).1
  have hlk : meth.locks = false := BodyLoose.notSynchronized Bd
  have X0 : Stand p l e ({ frames := 2, cells := 0, slots := 0, locals := 27 } : Room) s m #[.ref a1, .int (0 : Int32)] below meth c s₁ [] 0 0 := Stand.of_body Bd
  have e0 : s₁.heap = h0 := by rw [← hh, Bd.state]; rfl
  show own_Go p e below (own_E s 0 0 (own_P (.int (own_f17_1 G)) h0)) (s₁.setTop (entryFrame m #[.ref a1, .int (0 : Int32)] 2))
  rw [own_ef17_k0]
  refine own_iloadN X0 hx (hb hby own_d17_0) (q := 1) rfl rfl ?_
  refine own_aloadN X0 hx (hb hby own_d17_1) (q := 2) rfl rfl rfl ?_
  refine own_alen X0 hx hZ (n := (1 : Int32)) e0 V1p rfl (hb hby own_d17_2) (q := 3) rfl ?_
  refine own_callSV X0 hx hZ hown (hw _ (List.mem_of_getElem? (i := 86) rfl)) (hw _ (List.mem_of_getElem? (i := 87) rfl)) (hw _ (List.mem_of_getElem? (i := 2) rfl)) (hw _ (List.mem_of_getElem? (i := 88) rfl)) (by decide) (rm18 l Z a0 hw [] (0 : Int32) (1 : Int32) G h0 S0p rG (by decide) (by decide)) own_pd7 rfl e0 (by rw [hml]; rfl) (argsL := [.int (0 : Int32), .int (1 : Int32)]) (st := []) rfl (W := 0) (Nat.le_of_eq rfl) (by decide) (by decide) (by decide) (by decide) (hb hby own_d17_3) (q := 6) rfl (fun T360 X361 e362 => ?_)
  refine own_aloadN X361 hx (hb hby own_d17_6) (q := 7) rfl rfl rfl ?_
  refine own_iloadN X361 hx (hb hby own_d17_7) (q := 8) rfl rfl ?_
  refine own_baload X361 hx hZ (i := 0) (v := .int (47 : Int32)) e362 V1p (by decide) (by decide) rfl (hb hby own_d17_8) (q := 9) rfl ?_
  refine own_sipush X361 hx (v := (255 : Int32)) (hb hby own_d17_9) (q := 12) rfl rfl ?_
  refine own_iand X361 hx (hb hby own_d17_12) (q := 13) rfl ?_
  rw [show ((47 : Int32) &&& (255 : Int32) : Int32) = (47 : Int32) from by decide]
  refine own_i2c X361 hx (hb hby own_d17_13) (q := 14) rfl ?_
  rw [show ((47 : Int32).toUInt32.toUInt16.toUInt32.toInt32 : Int32) = (47 : Int32) from by decide]
  refine own_retN X361 hx hlk (t := .char) (by simp) Bd.returns (hb hby own_d17_14) ?_ (by decide) (by decide)
  have r : own_f17_1 G = (47 : Int32) := by rw [own_f17_1]
  exact ⟨by rw [r] <;> rfl, e362, rfl⟩
theorem own_pd8 : parseMethodDescriptor "()Z" = some ⟨[], some .boolean⟩ := by decide +kernel
theorem own_pd9 : parseMethodDescriptor "([BI)C" = some ⟨[(.array .byte), .int], some .char⟩ := by decide +kernel
theorem own_ef15_k0 (m : MethodId) (a1 : Addr) : entryFrame m #[.ref a1, .int (0 : Int32)] 2 = mkF m 0 #[.val (.ref a1), .val (.int (0 : Int32))] [] := by first | (simp [entryFrame, mkF, argsToLocals, Value.category]; done) | rfl
theorem own_d15_0 : decode jdk_42_method_56_code 0 = .ok (.aload_n 0, 1) := by decide +kernel
theorem own_d15_1 : decode jdk_42_method_56_code 1 = .ok (.invokevirtual 492, 3) := by decide +kernel
theorem own_d15_4 : decode jdk_42_method_56_code 4 = .ok (.ifCond .eq 12, 3) := by decide +kernel
theorem own_d15_7 : decode jdk_42_method_56_code 7 = .ok (.aload_n 0, 1) := by decide +kernel
theorem own_d15_8 : decode jdk_42_method_56_code 8 = .ok (.getfield 9, 3) := by decide +kernel
theorem own_d15_11 : decode jdk_42_method_56_code 11 = .ok (.iload_n 1, 1) := by decide +kernel
theorem own_d15_12 : decode jdk_42_method_56_code 12 = .ok (.invokestatic 495, 3) := by decide +kernel
theorem own_d15_15 : decode jdk_42_method_56_code 15 = .ok (.ireturn, 1) := by decide +kernel
def own_f15_1 (cs : Int32) (G : Value) (b1 : Addr) : Int32 := (47 : Int32)
set_option maxRecDepth 65536 in
set_option maxHeartbeats 40000000 in
theorem rm15_1 (l : Launch) (Z : State) (a0 : Array Value) (hw : ∀ d ∈ tables_1, d.before a0 Z = true) (ws : List Jvm.Cond) (a1 : Addr) (cs : Int32) (G : Value) (b1 : Addr) (h0 : Heap) (S0p : Sta Z h0 "java/lang/String" "COMPACT_STRINGS" "Z" (.int cs)) (S1p : Sta Z h0 "jdk/internal/util/Preconditions" "SIOOBE_FORMATTER" "Ljava/util/function/BiFunction;" (G)) (E2p : Exa Z h0 a1 "java/lang/String") (F3p : Fld Z h0 a1 "java/lang/String" "value" "[B" (.ref b1)) (F4p : Fld Z h0 a1 "java/lang/String" "coder" "B" (.int (0 : Int32))) (V5p : own_A Z h0 b1 .byte [.int (47 : Int32)]) (P0 : ¬ cs = 0) (rG : G.isRef = true) :
    MetFree l (⟨"java/lang/String", "charAt", "(I)C"⟩ : MethodName) (head1 (Jvm.Cond.code (⟨"java/lang/String", "charAt", "(I)C"⟩ : MethodName) jdk_42_method_56_code 2 (some .char) :: ws) ({ frames := 3, cells := 0, slots := 0, locals := 40 } : Room)) (fun a U => a = #[.ref a1, .int (0 : Int32)] ∧ Z.Warmed39 U.vm ∧ U.heap = h0) (fun _ _ _ _ _ => True) (fun _ U o U' => ∃ v L, o = .returned v ∧ own_P (.int (own_f15_1 cs G b1)) h0 v U'.heap L ∧ FrameEnd U o U' L ({ frames := 3, cells := 0, slots := 0, locals := 40 } : Room).cells ({ frames := 3, cells := 0, slots := 0, locals := 40 } : Room).slots) := by
  refine MetFree.of_bodySF (plainFor_of_name own_pn0) hisR ?_
  intro p e s m args below meth c s₁ Bd hml0 hP hK
  obtain ⟨rfl, hZ, hh⟩ := hP
  have hx := Bd.exec
  have hby := Bd.bytes
  have hml : c.maxLocals = 2 := hml0
  have hown : s.vm.findClass "java/lang/String" = some m.cls := findClass_of_methodNamed Bd.named
  have hnm := (name_of_methodNamed Bd.named Bd.method).1
  have hlk : meth.locks = false := BodyLoose.notSynchronized Bd
  have X0 : Stand p l e ({ frames := 3, cells := 0, slots := 0, locals := 40 } : Room) s m #[.ref a1, .int (0 : Int32)] below meth c s₁ [] 0 0 := Stand.of_body Bd
  have e0 : s₁.heap = h0 := by rw [← hh, Bd.state]; rfl
  show own_Go p e below (own_E s 0 0 (own_P (.int (own_f15_1 cs G b1)) h0)) (s₁.setTop (entryFrame m #[.ref a1, .int (0 : Int32)] 2))
  rw [own_ef15_k0]
  refine own_aloadN X0 hx (hb hby own_d15_0) (q := 1) rfl rfl rfl ?_
  refine own_callVP X0 hx hZ hown (hw _ (List.mem_of_getElem? (i := 77) rfl)) (hw _ (List.mem_of_getElem? (i := 78) rfl)) (hw _ (List.mem_of_getElem? (i := 80) rfl)) (hw _ (List.mem_of_getElem? (i := 80) rfl)) (hw _ (List.mem_of_getElem? (i := 79) rfl)) (hw _ (List.mem_of_getElem? (i := 2) rfl)) (hw _ (List.mem_of_getElem? (i := 81) rfl)) E2p (by decide) (rm16 l Z a0 hw [] a1 cs h0 S0p F4p P0) own_pd8 rfl e0 (by rw [hml]; rfl) (argsL := []) (st := []) rfl (W := 0) (Nat.le_of_eq rfl) (by decide) (by decide) (by decide) (by decide) (hb hby own_d15_1) (q := 4) rfl (fun T363 X364 e365 => ?_)
  rw [show (own_f16 cs : Int32) = (1 : Int32) from rfl]
  refine own_if0P X364 hx (hb hby own_d15_4) (cd := .eq) (x := (1 : Int32)) (pt := 16) (q := 7) (by decide) (by decide) rfl rfl (fun h => False.elim (((by decide) : ¬ ((1 : Int32) = (0 : Int32))) h)) (fun _ => ?_)
  refine own_aloadN X364 hx (hb hby own_d15_7) (q := 8) rfl rfl rfl ?_
  refine own_getF X364 hx hZ hown (host := "") (Or.inl (hw _ (List.mem_of_getElem? (i := 28) rfl))) Via.refl e365 F3p (hb hby own_d15_8) (q := 11) rfl (fun T366 X367 e368 => ?_)
  refine own_iloadN X367 hx (hb hby own_d15_11) (q := 12) rfl rfl ?_
  refine own_callSP X367 hx hZ hown (hw _ (List.mem_of_getElem? (i := 82) rfl)) (hw _ (List.mem_of_getElem? (i := 83) rfl)) (hw _ (List.mem_of_getElem? (i := 84) rfl)) (hw _ (List.mem_of_getElem? (i := 85) rfl)) (by decide) (rm17_1 l Z a0 hw [] b1 G h0 S1p V5p rG) own_pd9 rfl e368 (by rw [hml]; rfl) (argsL := [.ref b1, .int (0 : Int32)]) (st := []) rfl (W := 0) (Nat.le_of_eq rfl) (by decide) (by decide) (by decide) (by decide) (hb hby own_d15_12) (q := 15) rfl (fun T369 X370 e371 => ?_)
  rw [show (own_f17_1 G : Int32) = (47 : Int32) from rfl]
  refine own_retN X370 hx hlk (t := .char) (by simp) Bd.returns (hb hby own_d15_15) ?_ (by decide) (by decide)
  have r : own_f15_1 cs G b1 = (47 : Int32) := by rw [own_f15_1]
  exact ⟨by rw [r] <;> rfl, e371, rfl⟩

def own_f17_2 (G : Value) (u1 : Int32) : Int32 := (47 : Int32)
set_option maxRecDepth 65536 in
set_option maxHeartbeats 40000000 in
theorem rm17_2 (l : Launch) (Z : State) (a0 : Array Value) (hw : ∀ d ∈ tables_1, d.before a0 Z = true) (ws : List Jvm.Cond) (a1 : Addr) (G : Value) (u1 : Int32) (h0 : Heap) (S0p : Sta Z h0 "jdk/internal/util/Preconditions" "SIOOBE_FORMATTER" "Ljava/util/function/BiFunction;" (G)) (V1p : own_A Z h0 a1 .byte [.int (47 : Int32), .int u1]) (rG : G.isRef = true) :
    MetFree l (⟨"java/lang/StringLatin1", "charAt", "([BI)C"⟩ : MethodName) (head1 (Jvm.Cond.code (⟨"java/lang/StringLatin1", "charAt", "([BI)C"⟩ : MethodName) jdk_43_method_2_code 2 (some .char) :: ws) ({ frames := 2, cells := 0, slots := 0, locals := 27 } : Room)) (fun a U => a = #[.ref a1, .int (0 : Int32)] ∧ Z.Warmed39 U.vm ∧ U.heap = h0) (fun _ _ _ _ _ => True) (fun _ U o U' => ∃ v L, o = .returned v ∧ own_P (.int (own_f17_2 G u1)) h0 v U'.heap L ∧ FrameEnd U o U' L ({ frames := 2, cells := 0, slots := 0, locals := 27 } : Room).cells ({ frames := 2, cells := 0, slots := 0, locals := 27 } : Room).slots) := by
  refine MetFree.of_bodySF (plainFor_of_name own_pn17) hisR ?_
  intro p e s m args below meth c s₁ Bd hml0 hP hK
  obtain ⟨rfl, hZ, hh⟩ := hP
  have hx := Bd.exec
  have hby := Bd.bytes
  have hml : c.maxLocals = 2 := hml0
  have hown : s.vm.findClass "java/lang/StringLatin1" = some m.cls := findClass_of_methodNamed Bd.named
  have hnm := (name_of_methodNamed Bd.named Bd.method).1
  have hlk : meth.locks = false := BodyLoose.notSynchronized Bd
  have X0 : Stand p l e ({ frames := 2, cells := 0, slots := 0, locals := 27 } : Room) s m #[.ref a1, .int (0 : Int32)] below meth c s₁ [] 0 0 := Stand.of_body Bd
  have e0 : s₁.heap = h0 := by rw [← hh, Bd.state]; rfl
  show own_Go p e below (own_E s 0 0 (own_P (.int (own_f17_2 G u1)) h0)) (s₁.setTop (entryFrame m #[.ref a1, .int (0 : Int32)] 2))
  rw [own_ef17_k0]
  refine own_iloadN X0 hx (hb hby own_d17_0) (q := 1) rfl rfl ?_
  refine own_aloadN X0 hx (hb hby own_d17_1) (q := 2) rfl rfl rfl ?_
  refine own_alen X0 hx hZ (n := (2 : Int32)) e0 V1p rfl (hb hby own_d17_2) (q := 3) rfl ?_
  refine own_callSV X0 hx hZ hown (hw _ (List.mem_of_getElem? (i := 86) rfl)) (hw _ (List.mem_of_getElem? (i := 87) rfl)) (hw _ (List.mem_of_getElem? (i := 2) rfl)) (hw _ (List.mem_of_getElem? (i := 88) rfl)) (by decide) (rm18 l Z a0 hw [] (0 : Int32) (2 : Int32) G h0 S0p rG (by decide) (by decide)) own_pd7 rfl e0 (by rw [hml]; rfl) (argsL := [.int (0 : Int32), .int (2 : Int32)]) (st := []) rfl (W := 0) (Nat.le_of_eq rfl) (by decide) (by decide) (by decide) (by decide) (hb hby own_d17_3) (q := 6) rfl (fun T375 X376 e377 => ?_)
  refine own_aloadN X376 hx (hb hby own_d17_6) (q := 7) rfl rfl rfl ?_
  refine own_iloadN X376 hx (hb hby own_d17_7) (q := 8) rfl rfl ?_
  refine own_baload X376 hx hZ (i := 0) (v := .int (47 : Int32)) e377 V1p (by decide) (by decide) rfl (hb hby own_d17_8) (q := 9) rfl ?_
  refine own_sipush X376 hx (v := (255 : Int32)) (hb hby own_d17_9) (q := 12) rfl rfl ?_
  refine own_iand X376 hx (hb hby own_d17_12) (q := 13) rfl ?_
  rw [show ((47 : Int32) &&& (255 : Int32) : Int32) = (47 : Int32) from by decide]
  refine own_i2c X376 hx (hb hby own_d17_13) (q := 14) rfl ?_
  rw [show ((47 : Int32).toUInt32.toUInt16.toUInt32.toInt32 : Int32) = (47 : Int32) from by decide]
  refine own_retN X376 hx hlk (t := .char) (by simp) Bd.returns (hb hby own_d17_14) ?_ (by decide) (by decide)
  have r : own_f17_2 G u1 = (47 : Int32) := by rw [own_f17_2]
  exact ⟨by rw [r] <;> rfl, e377, rfl⟩

def own_f15_2 (cs : Int32) (G : Value) (b1 : Addr) (u1 : Int32) : Int32 := (47 : Int32)
set_option maxRecDepth 65536 in
set_option maxHeartbeats 40000000 in
theorem rm15_2 (l : Launch) (Z : State) (a0 : Array Value) (hw : ∀ d ∈ tables_1, d.before a0 Z = true) (ws : List Jvm.Cond) (a1 : Addr) (cs : Int32) (G : Value) (b1 : Addr) (u1 : Int32) (h0 : Heap) (S0p : Sta Z h0 "java/lang/String" "COMPACT_STRINGS" "Z" (.int cs)) (S1p : Sta Z h0 "jdk/internal/util/Preconditions" "SIOOBE_FORMATTER" "Ljava/util/function/BiFunction;" (G)) (E2p : Exa Z h0 a1 "java/lang/String") (F3p : Fld Z h0 a1 "java/lang/String" "value" "[B" (.ref b1)) (F4p : Fld Z h0 a1 "java/lang/String" "coder" "B" (.int (0 : Int32))) (V5p : own_A Z h0 b1 .byte [.int (47 : Int32), .int u1]) (P0 : ¬ cs = 0) (rG : G.isRef = true) :
    MetFree l (⟨"java/lang/String", "charAt", "(I)C"⟩ : MethodName) (head1 (Jvm.Cond.code (⟨"java/lang/String", "charAt", "(I)C"⟩ : MethodName) jdk_42_method_56_code 2 (some .char) :: ws) ({ frames := 3, cells := 0, slots := 0, locals := 40 } : Room)) (fun a U => a = #[.ref a1, .int (0 : Int32)] ∧ Z.Warmed39 U.vm ∧ U.heap = h0) (fun _ _ _ _ _ => True) (fun _ U o U' => ∃ v L, o = .returned v ∧ own_P (.int (own_f15_2 cs G b1 u1)) h0 v U'.heap L ∧ FrameEnd U o U' L ({ frames := 3, cells := 0, slots := 0, locals := 40 } : Room).cells ({ frames := 3, cells := 0, slots := 0, locals := 40 } : Room).slots) := by
  refine MetFree.of_bodySF (plainFor_of_name own_pn0) hisR ?_
  intro p e s m args below meth c s₁ Bd hml0 hP hK
  obtain ⟨rfl, hZ, hh⟩ := hP
  have hx := Bd.exec
  have hby := Bd.bytes
  have hml : c.maxLocals = 2 := hml0
  have hown : s.vm.findClass "java/lang/String" = some m.cls := findClass_of_methodNamed Bd.named
  have hnm := (name_of_methodNamed Bd.named Bd.method).1
  have hlk : meth.locks = false := BodyLoose.notSynchronized Bd
  have X0 : Stand p l e ({ frames := 3, cells := 0, slots := 0, locals := 40 } : Room) s m #[.ref a1, .int (0 : Int32)] below meth c s₁ [] 0 0 := Stand.of_body Bd
  have e0 : s₁.heap = h0 := by rw [← hh, Bd.state]; rfl
  show own_Go p e below (own_E s 0 0 (own_P (.int (own_f15_2 cs G b1 u1)) h0)) (s₁.setTop (entryFrame m #[.ref a1, .int (0 : Int32)] 2))
  rw [own_ef15_k0]
  refine own_aloadN X0 hx (hb hby own_d15_0) (q := 1) rfl rfl rfl ?_
  refine own_callVP X0 hx hZ hown (hw _ (List.mem_of_getElem? (i := 77) rfl)) (hw _ (List.mem_of_getElem? (i := 78) rfl)) (hw _ (List.mem_of_getElem? (i := 80) rfl)) (hw _ (List.mem_of_getElem? (i := 80) rfl)) (hw _ (List.mem_of_getElem? (i := 79) rfl)) (hw _ (List.mem_of_getElem? (i := 2) rfl)) (hw _ (List.mem_of_getElem? (i := 81) rfl)) E2p (by decide) (rm16 l Z a0 hw [] a1 cs h0 S0p F4p P0) own_pd8 rfl e0 (by rw [hml]; rfl) (argsL := []) (st := []) rfl (W := 0) (Nat.le_of_eq rfl) (by decide) (by decide) (by decide) (by decide) (hb hby own_d15_1) (q := 4) rfl (fun T378 X379 e380 => ?_)
  rw [show (own_f16 cs : Int32) = (1 : Int32) from rfl]
  refine own_if0P X379 hx (hb hby own_d15_4) (cd := .eq) (x := (1 : Int32)) (pt := 16) (q := 7) (by decide) (by decide) rfl rfl (fun h => False.elim (((by decide) : ¬ ((1 : Int32) = (0 : Int32))) h)) (fun _ => ?_)
  refine own_aloadN X379 hx (hb hby own_d15_7) (q := 8) rfl rfl rfl ?_
  refine own_getF X379 hx hZ hown (host := "") (Or.inl (hw _ (List.mem_of_getElem? (i := 28) rfl))) Via.refl e380 F3p (hb hby own_d15_8) (q := 11) rfl (fun T381 X382 e383 => ?_)
  refine own_iloadN X382 hx (hb hby own_d15_11) (q := 12) rfl rfl ?_
  refine own_callSP X382 hx hZ hown (hw _ (List.mem_of_getElem? (i := 82) rfl)) (hw _ (List.mem_of_getElem? (i := 83) rfl)) (hw _ (List.mem_of_getElem? (i := 84) rfl)) (hw _ (List.mem_of_getElem? (i := 85) rfl)) (by decide) (rm17_2 l Z a0 hw [] b1 G u1 h0 S1p V5p rG) own_pd9 rfl e383 (by rw [hml]; rfl) (argsL := [.ref b1, .int (0 : Int32)]) (st := []) rfl (W := 0) (Nat.le_of_eq rfl) (by decide) (by decide) (by decide) (by decide) (hb hby own_d15_12) (q := 15) rfl (fun T384 X385 e386 => ?_)
  rw [show (own_f17_2 G u1 : Int32) = (47 : Int32) from rfl]
  refine own_retN X385 hx hlk (t := .char) (by simp) Bd.returns (hb hby own_d15_15) ?_ (by decide) (by decide)
  have r : own_f15_2 cs G b1 u1 = (47 : Int32) := by rw [own_f15_2]
  exact ⟨by rw [r] <;> rfl, e386, rfl⟩

def own_f17_3 (G : Value) (u1 : Int32) (u2 : Int32) : Int32 := (47 : Int32)
set_option maxRecDepth 65536 in
set_option maxHeartbeats 40000000 in
theorem rm17_3 (l : Launch) (Z : State) (a0 : Array Value) (hw : ∀ d ∈ tables_1, d.before a0 Z = true) (ws : List Jvm.Cond) (a1 : Addr) (G : Value) (u1 : Int32) (u2 : Int32) (h0 : Heap) (S0p : Sta Z h0 "jdk/internal/util/Preconditions" "SIOOBE_FORMATTER" "Ljava/util/function/BiFunction;" (G)) (V1p : own_A Z h0 a1 .byte [.int (47 : Int32), .int u1, .int u2]) (rG : G.isRef = true) :
    MetFree l (⟨"java/lang/StringLatin1", "charAt", "([BI)C"⟩ : MethodName) (head1 (Jvm.Cond.code (⟨"java/lang/StringLatin1", "charAt", "([BI)C"⟩ : MethodName) jdk_43_method_2_code 2 (some .char) :: ws) ({ frames := 2, cells := 0, slots := 0, locals := 27 } : Room)) (fun a U => a = #[.ref a1, .int (0 : Int32)] ∧ Z.Warmed39 U.vm ∧ U.heap = h0) (fun _ _ _ _ _ => True) (fun _ U o U' => ∃ v L, o = .returned v ∧ own_P (.int (own_f17_3 G u1 u2)) h0 v U'.heap L ∧ FrameEnd U o U' L ({ frames := 2, cells := 0, slots := 0, locals := 27 } : Room).cells ({ frames := 2, cells := 0, slots := 0, locals := 27 } : Room).slots) := by
  refine MetFree.of_bodySF (plainFor_of_name own_pn17) hisR ?_
  intro p e s m args below meth c s₁ Bd hml0 hP hK
  obtain ⟨rfl, hZ, hh⟩ := hP
  have hx := Bd.exec
  have hby := Bd.bytes
  have hml : c.maxLocals = 2 := hml0
  have hown : s.vm.findClass "java/lang/StringLatin1" = some m.cls := findClass_of_methodNamed Bd.named
  have hnm := (name_of_methodNamed Bd.named Bd.method).1
  have hlk : meth.locks = false := BodyLoose.notSynchronized Bd
  have X0 : Stand p l e ({ frames := 2, cells := 0, slots := 0, locals := 27 } : Room) s m #[.ref a1, .int (0 : Int32)] below meth c s₁ [] 0 0 := Stand.of_body Bd
  have e0 : s₁.heap = h0 := by rw [← hh, Bd.state]; rfl
  show own_Go p e below (own_E s 0 0 (own_P (.int (own_f17_3 G u1 u2)) h0)) (s₁.setTop (entryFrame m #[.ref a1, .int (0 : Int32)] 2))
  rw [own_ef17_k0]
  refine own_iloadN X0 hx (hb hby own_d17_0) (q := 1) rfl rfl ?_
  refine own_aloadN X0 hx (hb hby own_d17_1) (q := 2) rfl rfl rfl ?_
  refine own_alen X0 hx hZ (n := (3 : Int32)) e0 V1p rfl (hb hby own_d17_2) (q := 3) rfl ?_
  refine own_callSV X0 hx hZ hown (hw _ (List.mem_of_getElem? (i := 86) rfl)) (hw _ (List.mem_of_getElem? (i := 87) rfl)) (hw _ (List.mem_of_getElem? (i := 2) rfl)) (hw _ (List.mem_of_getElem? (i := 88) rfl)) (by decide) (rm18 l Z a0 hw [] (0 : Int32) (3 : Int32) G h0 S0p rG (by decide) (by decide)) own_pd7 rfl e0 (by rw [hml]; rfl) (argsL := [.int (0 : Int32), .int (3 : Int32)]) (st := []) rfl (W := 0) (Nat.le_of_eq rfl) (by decide) (by decide) (by decide) (by decide) (hb hby own_d17_3) (q := 6) rfl (fun T390 X391 e392 => ?_)
  refine own_aloadN X391 hx (hb hby own_d17_6) (q := 7) rfl rfl rfl ?_
  refine own_iloadN X391 hx (hb hby own_d17_7) (q := 8) rfl rfl ?_
  refine own_baload X391 hx hZ (i := 0) (v := .int (47 : Int32)) e392 V1p (by decide) (by decide) rfl (hb hby own_d17_8) (q := 9) rfl ?_
  refine own_sipush X391 hx (v := (255 : Int32)) (hb hby own_d17_9) (q := 12) rfl rfl ?_
  refine own_iand X391 hx (hb hby own_d17_12) (q := 13) rfl ?_
  rw [show ((47 : Int32) &&& (255 : Int32) : Int32) = (47 : Int32) from by decide]
  refine own_i2c X391 hx (hb hby own_d17_13) (q := 14) rfl ?_
  rw [show ((47 : Int32).toUInt32.toUInt16.toUInt32.toInt32 : Int32) = (47 : Int32) from by decide]
  refine own_retN X391 hx hlk (t := .char) (by simp) Bd.returns (hb hby own_d17_14) ?_ (by decide) (by decide)
  have r : own_f17_3 G u1 u2 = (47 : Int32) := by rw [own_f17_3]
  exact ⟨by rw [r] <;> rfl, e392, rfl⟩

def own_f15_3 (cs : Int32) (G : Value) (b1 : Addr) (u1 : Int32) (u2 : Int32) : Int32 := (47 : Int32)
set_option maxRecDepth 65536 in
set_option maxHeartbeats 40000000 in
theorem rm15_3 (l : Launch) (Z : State) (a0 : Array Value) (hw : ∀ d ∈ tables_1, d.before a0 Z = true) (ws : List Jvm.Cond) (a1 : Addr) (cs : Int32) (G : Value) (b1 : Addr) (u1 : Int32) (u2 : Int32) (h0 : Heap) (S0p : Sta Z h0 "java/lang/String" "COMPACT_STRINGS" "Z" (.int cs)) (S1p : Sta Z h0 "jdk/internal/util/Preconditions" "SIOOBE_FORMATTER" "Ljava/util/function/BiFunction;" (G)) (E2p : Exa Z h0 a1 "java/lang/String") (F3p : Fld Z h0 a1 "java/lang/String" "value" "[B" (.ref b1)) (F4p : Fld Z h0 a1 "java/lang/String" "coder" "B" (.int (0 : Int32))) (V5p : own_A Z h0 b1 .byte [.int (47 : Int32), .int u1, .int u2]) (P0 : ¬ cs = 0) (rG : G.isRef = true) :
    MetFree l (⟨"java/lang/String", "charAt", "(I)C"⟩ : MethodName) (head1 (Jvm.Cond.code (⟨"java/lang/String", "charAt", "(I)C"⟩ : MethodName) jdk_42_method_56_code 2 (some .char) :: ws) ({ frames := 3, cells := 0, slots := 0, locals := 40 } : Room)) (fun a U => a = #[.ref a1, .int (0 : Int32)] ∧ Z.Warmed39 U.vm ∧ U.heap = h0) (fun _ _ _ _ _ => True) (fun _ U o U' => ∃ v L, o = .returned v ∧ own_P (.int (own_f15_3 cs G b1 u1 u2)) h0 v U'.heap L ∧ FrameEnd U o U' L ({ frames := 3, cells := 0, slots := 0, locals := 40 } : Room).cells ({ frames := 3, cells := 0, slots := 0, locals := 40 } : Room).slots) := by
  refine MetFree.of_bodySF (plainFor_of_name own_pn0) hisR ?_
  intro p e s m args below meth c s₁ Bd hml0 hP hK
  obtain ⟨rfl, hZ, hh⟩ := hP
  have hx := Bd.exec
  have hby := Bd.bytes
  have hml : c.maxLocals = 2 := hml0
  have hown : s.vm.findClass "java/lang/String" = some m.cls := findClass_of_methodNamed Bd.named
  have hnm := (name_of_methodNamed Bd.named Bd.method).1
  have hlk : meth.locks = false := BodyLoose.notSynchronized Bd
  have X0 : Stand p l e ({ frames := 3, cells := 0, slots := 0, locals := 40 } : Room) s m #[.ref a1, .int (0 : Int32)] below meth c s₁ [] 0 0 := Stand.of_body Bd
  have e0 : s₁.heap = h0 := by rw [← hh, Bd.state]; rfl
  show own_Go p e below (own_E s 0 0 (own_P (.int (own_f15_3 cs G b1 u1 u2)) h0)) (s₁.setTop (entryFrame m #[.ref a1, .int (0 : Int32)] 2))
  rw [own_ef15_k0]
  refine own_aloadN X0 hx (hb hby own_d15_0) (q := 1) rfl rfl rfl ?_
  refine own_callVP X0 hx hZ hown (hw _ (List.mem_of_getElem? (i := 77) rfl)) (hw _ (List.mem_of_getElem? (i := 78) rfl)) (hw _ (List.mem_of_getElem? (i := 80) rfl)) (hw _ (List.mem_of_getElem? (i := 80) rfl)) (hw _ (List.mem_of_getElem? (i := 79) rfl)) (hw _ (List.mem_of_getElem? (i := 2) rfl)) (hw _ (List.mem_of_getElem? (i := 81) rfl)) E2p (by decide) (rm16 l Z a0 hw [] a1 cs h0 S0p F4p P0) own_pd8 rfl e0 (by rw [hml]; rfl) (argsL := []) (st := []) rfl (W := 0) (Nat.le_of_eq rfl) (by decide) (by decide) (by decide) (by decide) (hb hby own_d15_1) (q := 4) rfl (fun T393 X394 e395 => ?_)
  rw [show (own_f16 cs : Int32) = (1 : Int32) from rfl]
  refine own_if0P X394 hx (hb hby own_d15_4) (cd := .eq) (x := (1 : Int32)) (pt := 16) (q := 7) (by decide) (by decide) rfl rfl (fun h => False.elim (((by decide) : ¬ ((1 : Int32) = (0 : Int32))) h)) (fun _ => ?_)
  refine own_aloadN X394 hx (hb hby own_d15_7) (q := 8) rfl rfl rfl ?_
  refine own_getF X394 hx hZ hown (host := "") (Or.inl (hw _ (List.mem_of_getElem? (i := 28) rfl))) Via.refl e395 F3p (hb hby own_d15_8) (q := 11) rfl (fun T396 X397 e398 => ?_)
  refine own_iloadN X397 hx (hb hby own_d15_11) (q := 12) rfl rfl ?_
  refine own_callSP X397 hx hZ hown (hw _ (List.mem_of_getElem? (i := 82) rfl)) (hw _ (List.mem_of_getElem? (i := 83) rfl)) (hw _ (List.mem_of_getElem? (i := 84) rfl)) (hw _ (List.mem_of_getElem? (i := 85) rfl)) (by decide) (rm17_3 l Z a0 hw [] b1 G u1 u2 h0 S1p V5p rG) own_pd9 rfl e398 (by rw [hml]; rfl) (argsL := [.ref b1, .int (0 : Int32)]) (st := []) rfl (W := 0) (Nat.le_of_eq rfl) (by decide) (by decide) (by decide) (by decide) (hb hby own_d15_12) (q := 15) rfl (fun T399 X400 e401 => ?_)
  rw [show (own_f17_3 G u1 u2 : Int32) = (47 : Int32) from rfl]
  refine own_retN X400 hx hlk (t := .char) (by simp) Bd.returns (hb hby own_d15_15) ?_ (by decide) (by decide)
  have r : own_f15_3 cs G b1 u1 u2 = (47 : Int32) := by rw [own_f15_3]
  exact ⟨by rw [r] <;> rfl, e401, rfl⟩

def own_f17_4 (G : Value) (u1 : Int32) (u2 : Int32) (u3 : Int32) : Int32 := (47 : Int32)
set_option maxRecDepth 65536 in
set_option maxHeartbeats 40000000 in
theorem rm17_4 (l : Launch) (Z : State) (a0 : Array Value) (hw : ∀ d ∈ tables_1, d.before a0 Z = true) (ws : List Jvm.Cond) (a1 : Addr) (G : Value) (u1 : Int32) (u2 : Int32) (u3 : Int32) (h0 : Heap) (S0p : Sta Z h0 "jdk/internal/util/Preconditions" "SIOOBE_FORMATTER" "Ljava/util/function/BiFunction;" (G)) (V1p : own_A Z h0 a1 .byte [.int (47 : Int32), .int u1, .int u2, .int u3]) (rG : G.isRef = true) :
    MetFree l (⟨"java/lang/StringLatin1", "charAt", "([BI)C"⟩ : MethodName) (head1 (Jvm.Cond.code (⟨"java/lang/StringLatin1", "charAt", "([BI)C"⟩ : MethodName) jdk_43_method_2_code 2 (some .char) :: ws) ({ frames := 2, cells := 0, slots := 0, locals := 27 } : Room)) (fun a U => a = #[.ref a1, .int (0 : Int32)] ∧ Z.Warmed39 U.vm ∧ U.heap = h0) (fun _ _ _ _ _ => True) (fun _ U o U' => ∃ v L, o = .returned v ∧ own_P (.int (own_f17_4 G u1 u2 u3)) h0 v U'.heap L ∧ FrameEnd U o U' L ({ frames := 2, cells := 0, slots := 0, locals := 27 } : Room).cells ({ frames := 2, cells := 0, slots := 0, locals := 27 } : Room).slots) := by
  refine MetFree.of_bodySF (plainFor_of_name own_pn17) hisR ?_
  intro p e s m args below meth c s₁ Bd hml0 hP hK
  obtain ⟨rfl, hZ, hh⟩ := hP
  have hx := Bd.exec
  have hby := Bd.bytes
  have hml : c.maxLocals = 2 := hml0
  have hown : s.vm.findClass "java/lang/StringLatin1" = some m.cls := findClass_of_methodNamed Bd.named
  have hnm := (name_of_methodNamed Bd.named Bd.method).1
  have hlk : meth.locks = false := BodyLoose.notSynchronized Bd
  have X0 : Stand p l e ({ frames := 2, cells := 0, slots := 0, locals := 27 } : Room) s m #[.ref a1, .int (0 : Int32)] below meth c s₁ [] 0 0 := Stand.of_body Bd
  have e0 : s₁.heap = h0 := by rw [← hh, Bd.state]; rfl
  show own_Go p e below (own_E s 0 0 (own_P (.int (own_f17_4 G u1 u2 u3)) h0)) (s₁.setTop (entryFrame m #[.ref a1, .int (0 : Int32)] 2))
  rw [own_ef17_k0]
  refine own_iloadN X0 hx (hb hby own_d17_0) (q := 1) rfl rfl ?_
  refine own_aloadN X0 hx (hb hby own_d17_1) (q := 2) rfl rfl rfl ?_
  refine own_alen X0 hx hZ (n := (4 : Int32)) e0 V1p rfl (hb hby own_d17_2) (q := 3) rfl ?_
  refine own_callSV X0 hx hZ hown (hw _ (List.mem_of_getElem? (i := 86) rfl)) (hw _ (List.mem_of_getElem? (i := 87) rfl)) (hw _ (List.mem_of_getElem? (i := 2) rfl)) (hw _ (List.mem_of_getElem? (i := 88) rfl)) (by decide) (rm18 l Z a0 hw [] (0 : Int32) (4 : Int32) G h0 S0p rG (by decide) (by decide)) own_pd7 rfl e0 (by rw [hml]; rfl) (argsL := [.int (0 : Int32), .int (4 : Int32)]) (st := []) rfl (W := 0) (Nat.le_of_eq rfl) (by decide) (by decide) (by decide) (by decide) (hb hby own_d17_3) (q := 6) rfl (fun T405 X406 e407 => ?_)
  refine own_aloadN X406 hx (hb hby own_d17_6) (q := 7) rfl rfl rfl ?_
  refine own_iloadN X406 hx (hb hby own_d17_7) (q := 8) rfl rfl ?_
  refine own_baload X406 hx hZ (i := 0) (v := .int (47 : Int32)) e407 V1p (by decide) (by decide) rfl (hb hby own_d17_8) (q := 9) rfl ?_
  refine own_sipush X406 hx (v := (255 : Int32)) (hb hby own_d17_9) (q := 12) rfl rfl ?_
  refine own_iand X406 hx (hb hby own_d17_12) (q := 13) rfl ?_
  rw [show ((47 : Int32) &&& (255 : Int32) : Int32) = (47 : Int32) from by decide]
  refine own_i2c X406 hx (hb hby own_d17_13) (q := 14) rfl ?_
  rw [show ((47 : Int32).toUInt32.toUInt16.toUInt32.toInt32 : Int32) = (47 : Int32) from by decide]
  refine own_retN X406 hx hlk (t := .char) (by simp) Bd.returns (hb hby own_d17_14) ?_ (by decide) (by decide)
  have r : own_f17_4 G u1 u2 u3 = (47 : Int32) := by rw [own_f17_4]
  exact ⟨by rw [r] <;> rfl, e407, rfl⟩

def own_f15_4 (cs : Int32) (G : Value) (b1 : Addr) (u1 : Int32) (u2 : Int32) (u3 : Int32) : Int32 := (47 : Int32)
set_option maxRecDepth 65536 in
set_option maxHeartbeats 40000000 in
theorem rm15_4 (l : Launch) (Z : State) (a0 : Array Value) (hw : ∀ d ∈ tables_1, d.before a0 Z = true) (ws : List Jvm.Cond) (a1 : Addr) (cs : Int32) (G : Value) (b1 : Addr) (u1 : Int32) (u2 : Int32) (u3 : Int32) (h0 : Heap) (S0p : Sta Z h0 "java/lang/String" "COMPACT_STRINGS" "Z" (.int cs)) (S1p : Sta Z h0 "jdk/internal/util/Preconditions" "SIOOBE_FORMATTER" "Ljava/util/function/BiFunction;" (G)) (E2p : Exa Z h0 a1 "java/lang/String") (F3p : Fld Z h0 a1 "java/lang/String" "value" "[B" (.ref b1)) (F4p : Fld Z h0 a1 "java/lang/String" "coder" "B" (.int (0 : Int32))) (V5p : own_A Z h0 b1 .byte [.int (47 : Int32), .int u1, .int u2, .int u3]) (P0 : ¬ cs = 0) (rG : G.isRef = true) :
    MetFree l (⟨"java/lang/String", "charAt", "(I)C"⟩ : MethodName) (head1 (Jvm.Cond.code (⟨"java/lang/String", "charAt", "(I)C"⟩ : MethodName) jdk_42_method_56_code 2 (some .char) :: ws) ({ frames := 3, cells := 0, slots := 0, locals := 40 } : Room)) (fun a U => a = #[.ref a1, .int (0 : Int32)] ∧ Z.Warmed39 U.vm ∧ U.heap = h0) (fun _ _ _ _ _ => True) (fun _ U o U' => ∃ v L, o = .returned v ∧ own_P (.int (own_f15_4 cs G b1 u1 u2 u3)) h0 v U'.heap L ∧ FrameEnd U o U' L ({ frames := 3, cells := 0, slots := 0, locals := 40 } : Room).cells ({ frames := 3, cells := 0, slots := 0, locals := 40 } : Room).slots) := by
  refine MetFree.of_bodySF (plainFor_of_name own_pn0) hisR ?_
  intro p e s m args below meth c s₁ Bd hml0 hP hK
  obtain ⟨rfl, hZ, hh⟩ := hP
  have hx := Bd.exec
  have hby := Bd.bytes
  have hml : c.maxLocals = 2 := hml0
  have hown : s.vm.findClass "java/lang/String" = some m.cls := findClass_of_methodNamed Bd.named
  have hnm := (name_of_methodNamed Bd.named Bd.method).1
  have hlk : meth.locks = false := BodyLoose.notSynchronized Bd
  have X0 : Stand p l e ({ frames := 3, cells := 0, slots := 0, locals := 40 } : Room) s m #[.ref a1, .int (0 : Int32)] below meth c s₁ [] 0 0 := Stand.of_body Bd
  have e0 : s₁.heap = h0 := by rw [← hh, Bd.state]; rfl
  show own_Go p e below (own_E s 0 0 (own_P (.int (own_f15_4 cs G b1 u1 u2 u3)) h0)) (s₁.setTop (entryFrame m #[.ref a1, .int (0 : Int32)] 2))
  rw [own_ef15_k0]
  refine own_aloadN X0 hx (hb hby own_d15_0) (q := 1) rfl rfl rfl ?_
  refine own_callVP X0 hx hZ hown (hw _ (List.mem_of_getElem? (i := 77) rfl)) (hw _ (List.mem_of_getElem? (i := 78) rfl)) (hw _ (List.mem_of_getElem? (i := 80) rfl)) (hw _ (List.mem_of_getElem? (i := 80) rfl)) (hw _ (List.mem_of_getElem? (i := 79) rfl)) (hw _ (List.mem_of_getElem? (i := 2) rfl)) (hw _ (List.mem_of_getElem? (i := 81) rfl)) E2p (by decide) (rm16 l Z a0 hw [] a1 cs h0 S0p F4p P0) own_pd8 rfl e0 (by rw [hml]; rfl) (argsL := []) (st := []) rfl (W := 0) (Nat.le_of_eq rfl) (by decide) (by decide) (by decide) (by decide) (hb hby own_d15_1) (q := 4) rfl (fun T408 X409 e410 => ?_)
  rw [show (own_f16 cs : Int32) = (1 : Int32) from rfl]
  refine own_if0P X409 hx (hb hby own_d15_4) (cd := .eq) (x := (1 : Int32)) (pt := 16) (q := 7) (by decide) (by decide) rfl rfl (fun h => False.elim (((by decide) : ¬ ((1 : Int32) = (0 : Int32))) h)) (fun _ => ?_)
  refine own_aloadN X409 hx (hb hby own_d15_7) (q := 8) rfl rfl rfl ?_
  refine own_getF X409 hx hZ hown (host := "") (Or.inl (hw _ (List.mem_of_getElem? (i := 28) rfl))) Via.refl e410 F3p (hb hby own_d15_8) (q := 11) rfl (fun T411 X412 e413 => ?_)
  refine own_iloadN X412 hx (hb hby own_d15_11) (q := 12) rfl rfl ?_
  refine own_callSP X412 hx hZ hown (hw _ (List.mem_of_getElem? (i := 82) rfl)) (hw _ (List.mem_of_getElem? (i := 83) rfl)) (hw _ (List.mem_of_getElem? (i := 84) rfl)) (hw _ (List.mem_of_getElem? (i := 85) rfl)) (by decide) (rm17_4 l Z a0 hw [] b1 G u1 u2 u3 h0 S1p V5p rG) own_pd9 rfl e413 (by rw [hml]; rfl) (argsL := [.ref b1, .int (0 : Int32)]) (st := []) rfl (W := 0) (Nat.le_of_eq rfl) (by decide) (by decide) (by decide) (by decide) (hb hby own_d15_12) (q := 15) rfl (fun T414 X415 e416 => ?_)
  rw [show (own_f17_4 G u1 u2 u3 : Int32) = (47 : Int32) from rfl]
  refine own_retN X415 hx hlk (t := .char) (by simp) Bd.returns (hb hby own_d15_15) ?_ (by decide) (by decide)
  have r : own_f15_4 cs G b1 u1 u2 u3 = (47 : Int32) := by rw [own_f15_4]
  exact ⟨by rw [r] <;> rfl, e416, rfl⟩
theorem own_k3 {x : Int32} (h0 : ¬ (x &&& 3) = 0) (h1 : ¬ (x &&& 3) = 1) (h2 : ¬ (x &&& 3) = 2) : (x &&& 3) = 3 := by
  have h := c_mask x 3 2 (by decide) (by decide)
  simp only [← Int32.toInt_inj, h, Int32.reduceToInt] at *; omega
theorem own_pd10 : parseMethodDescriptor "([C)V" = some ⟨[(.array .char)], none⟩ := by decide +kernel
theorem own_pd11 : parseMethodDescriptor "(Ljava/lang/String;)Ljava/lang/String;" = some ⟨[(.object "java/lang/String")], some (.object "java/lang/String")⟩ := by decide +kernel
theorem own_pd12 : parseMethodDescriptor "(Ljava/lang/Object;)Z" = some ⟨[(.object "java/lang/Object")], some .boolean⟩ := by decide +kernel
theorem own_pd13 : parseMethodDescriptor "(I)C" = some ⟨[.int], some .char⟩ := by decide +kernel
theorem own_pn20 : plainName "com/example/count_changes/countchanges/model/TenancyCheckServicePathPinLaw" = true := by first | (simp [plainName, overriddenIn]; done) | decide +kernel
theorem own_ef0 (m : MethodId) (p1 : Int32) (p2 : Int32) (p3 : Int32) (p4 : Int32) : entryFrame m #[.int p1, .int p2, .int p3, .int p4] maxLocals = mkF m 0 #[.val (.int p1), .val (.int p2), .val (.int p3), .val (.int p4), .unset, .unset, .unset, .unset, .unset, .unset] [] := by first | (simp [entryFrame, mkF, argsToLocals, Value.category, maxLocals]; done) | rfl
def own_Q0 (n0 : Nat) (v : Option Value) (h : Heap) (L : List Loc) : Prop := v = some (.int 1) ∧ Fr n0 L
set_option maxRecDepth 65536 in
set_option maxHeartbeats 40000000 in
theorem rm0 (l : Launch) (Z : State) (a0 : Array Value) (hw : ∀ d ∈ tables_1, d.before a0 Z = true) (ws : List Jvm.Cond) (p1 : Int32) (p2 : Int32) (p3 : Int32) (p4 : Int32) (h0 : Heap) (n0 : Nat) (Z0 : n0 ≤ h0.size) {cs : Int32} {G : Value} (SCS : Sta Z h0 "java/lang/String" "COMPACT_STRINGS" "Z" (.int cs)) (PCS : ¬ cs = 0) (SSG : Sta Z h0 "jdk/internal/util/Preconditions" "SIOOBE_FORMATTER" "Ljava/util/function/BiFunction;" G) (rG : G.isRef = true) (HZ : Z.heap = h0) (Hn : n0 = h0.size) (H27 : Jvm.Lit.constHeld Z "com/example/count_changes/countchanges/model/Tenancy" 27) (H28 : Jvm.Lit.constHeld Z "com/example/count_changes/countchanges/model/Tenancy" 28) (HCW : Jvm.Lit.compactW.before a0 Z = true) :
    MetFree l x (head1 (Jvm.Cond.code x code maxLocals ret :: ws) room_1) (fun a U => a = #[.int p1, .int p2, .int p3, .int p4] ∧ (Z.Warmed39 U.vm ∧ IB Z U.vm []) ∧ U.heap = h0) (fun _ _ _ _ _ => True) (fun _ U o U' => ∃ v L, o = .returned v ∧ own_Q0 n0 v U'.heap L ∧ FramedW U o U' L 24 2176) := by
  refine MetFree.of_bodySF (plainFor_of_name own_pn20) hisR ?_
  intro p e s m args below meth c s₁ Bd hml0 hP hK
  obtain ⟨rfl, ⟨hZ, hIB⟩, hh⟩ := hP
  have hx := Bd.exec
  have hby := Bd.bytes
  have hml : c.maxLocals = 10 := hml0
  have hown : s.vm.findClass "com/example/count_changes/countchanges/model/TenancyCheckServicePathPinLaw" = some m.cls := findClass_of_methodNamed Bd.named
  have hnm := (name_of_methodNamed Bd.named Bd.method).1
  have hlk : meth.locks = false := BodyLoose.notSynchronized Bd
  have X0 : Stand p l e room_1 s m #[.int p1, .int p2, .int p3, .int p4] below meth c s₁ [] 0 0 := Stand.of_body Bd
  have e0 : s₁.heap = h0 := by rw [← hh, Bd.state]; rfl
  have N0 := Fr.nil n0
  have own_wS : ∀ d ∈ Bundle.stringAtoms, d.before a0 Z = true := fun d hd => hw d (own_wSm d hd)
  show own_Go p e below (own_W s 24 2176 (own_Q0 n0)) (s₁.setTop (entryFrame m #[.int p1, .int p2, .int p3, .int p4] maxLocals))
  rw [own_ef0]
  refine own_iloadN X0 hx (hb hby at_0) (q := 1) rfl rfl ?_
  refine own_sipush X0 hx (v := (255 : Int32)) (hb hby at_1) (q := 4) rfl rfl ?_
  refine own_iand X0 hx (hb hby at_4) (q := 5) rfl ?_
  refine own_i2c X0 hx (hb hby at_5) (q := 6) rfl ?_
  refine own_istore (L' := #[.val (.int p1), .val (.int p2), .val (.int p3), .val (.int p4), .val (.int ((p2 &&& (255 : Int32)).toUInt32.toUInt16.toUInt32.toInt32)), .unset, .unset, .unset, .unset, .unset]) X0 hx (hb hby at_6) (q := 8) rfl rfl ?_
  refine own_iloadN X0 hx (hb hby at_8) (q := 9) rfl rfl ?_
  refine own_sipush X0 hx (v := (255 : Int32)) (hb hby at_9) (q := 12) rfl rfl ?_
  refine own_iand X0 hx (hb hby at_12) (q := 13) rfl ?_
  refine own_i2c X0 hx (hb hby at_13) (q := 14) rfl ?_
  refine own_istore (L' := #[.val (.int p1), .val (.int p2), .val (.int p3), .val (.int p4), .val (.int ((p2 &&& (255 : Int32)).toUInt32.toUInt16.toUInt32.toInt32)), .val (.int ((p3 &&& (255 : Int32)).toUInt32.toUInt16.toUInt32.toInt32)), .unset, .unset, .unset, .unset]) X0 hx (hb hby at_14) (q := 16) rfl rfl ?_
  refine own_iloadN X0 hx (hb hby at_16) (q := 17) rfl rfl ?_
  refine own_sipush X0 hx (v := (255 : Int32)) (hb hby at_17) (q := 20) rfl rfl ?_
  refine own_iand X0 hx (hb hby at_20) (q := 21) rfl ?_
  refine own_i2c X0 hx (hb hby at_21) (q := 22) rfl ?_
  refine own_istore (L' := #[.val (.int p1), .val (.int p2), .val (.int p3), .val (.int p4), .val (.int ((p2 &&& (255 : Int32)).toUInt32.toUInt16.toUInt32.toInt32)), .val (.int ((p3 &&& (255 : Int32)).toUInt32.toUInt16.toUInt32.toInt32)), .val (.int ((p4 &&& (255 : Int32)).toUInt32.toUInt16.toUInt32.toInt32)), .unset, .unset, .unset]) X0 hx (hb hby at_22) (q := 24) rfl rfl ?_
  refine own_iloadN X0 hx (hb hby at_24) (q := 25) rfl rfl ?_
  refine own_iconst X0 hx (v := (3 : Int32)) (hb hby at_25) (q := 26) rfl rfl ?_
  refine own_iand X0 hx (hb hby at_26) (q := 27) rfl ?_
  refine own_istore (L' := #[.val (.int p1), .val (.int p2), .val (.int p3), .val (.int p4), .val (.int ((p2 &&& (255 : Int32)).toUInt32.toUInt16.toUInt32.toInt32)), .val (.int ((p3 &&& (255 : Int32)).toUInt32.toUInt16.toUInt32.toInt32)), .val (.int ((p4 &&& (255 : Int32)).toUInt32.toUInt16.toUInt32.toInt32)), .val (.int (p1 &&& (3 : Int32))), .unset, .unset]) X0 hx (hb hby at_27) (q := 29) rfl rfl ?_
  refine own_iload X0 hx (hb hby at_29) (q := 31) rfl rfl ?_
  refine own_if0M X0 hx (hb hby at_31) (cd := .ne) (x := p1 &&& (3 : Int32)) (pt := 54) (q := 34) (by decide) (by decide) rfl rfl (fun (c1 : ¬ ((p1 &&& (3 : Int32)) = (0 : Int32))) => ?_) (fun (c1 : (p1 &&& (3 : Int32)) = (0 : Int32)) => ?_)
  · refine own_iload X0 hx (hb hby at_54) (q := 56) rfl rfl ?_
    refine own_iconst X0 hx (v := (1 : Int32)) (hb hby at_56) (q := 57) rfl rfl ?_
    refine own_icmpM X0 hx (hb hby at_57) (cd := .ne) (x := p1 &&& (3 : Int32)) (y := (1 : Int32)) (pt := 85) (q := 60) (by decide) (by decide) rfl rfl (fun (c2 : ¬ ((p1 &&& (3 : Int32)) = (1 : Int32))) => ?_) (fun (c2 : (p1 &&& (3 : Int32)) = (1 : Int32)) => ?_)
    · refine own_iload X0 hx (hb hby at_85) (q := 87) rfl rfl ?_
      refine own_iconst X0 hx (v := (2 : Int32)) (hb hby at_87) (q := 88) rfl rfl ?_
      refine own_icmpM X0 hx (hb hby at_88) (cd := .ne) (x := p1 &&& (3 : Int32)) (y := (2 : Int32)) (pt := 121) (q := 91) (by decide) (by decide) rfl rfl (fun (c3 : ¬ ((p1 &&& (3 : Int32)) = (2 : Int32))) => ?_) (fun (c3 : (p1 &&& (3 : Int32)) = (2 : Int32)) => ?_)
      · refine own_new X0 hx hZ hown (hw _ (List.mem_of_getElem? (i := 0) rfl)) (hw _ (List.mem_of_getElem? (i := 1) rfl)) (hw _ (List.mem_of_getElem? (i := 2) rfl)) e0 (hb hby at_121) (by decide) (by decide) (q := 124) rfl (fun T417 h420 a421 X418 e419 g422 E423 A424 D425 => ?_)
        have S426 := Sta.ext E423 SCS
        have S427 := Sta.ext E423 SSG
        have Z428 : n0 ≤ a421 := by rw [g422]; exact Z0
        have Z429 : n0 ≤ h420.size := Nat.le_trans Z0 E423.1
        have F430 : Fld Z h420 a421 "java/lang/String" "coder" "B" (.int (0 : Int32)) := D425 (Or.inr (hw _ (List.mem_of_getElem? (i := 27) rfl))) (ty := .byte) (by decide)
        have F431 : Fld Z h420 a421 "java/lang/String" "value" "[B" (.null) := D425 (Or.inr (hw _ (List.mem_of_getElem? (i := 29) rfl))) (ty := (.array .byte)) (by decide)
        refine own_dup X418 hx (hb hby at_124) (q := 125) rfl rfl ?_
        refine own_iconst X418 hx (v := (4 : Int32)) (hb hby at_125) (q := 126) rfl rfl ?_
        refine own_newA X418 hx hZ (aty := .char) (ty := .char) (k := 4) (cap := 4) rfl (hw _ (List.mem_of_getElem? (i := 3) rfl)) e419 (by decide) (by decide) (by decide) (by decide) (by decide) (by decide) (hb hby at_126) (q := 128) rfl (fun T432 h435 a436 X433 e434 g437 E438 A439 => ?_)
        have S440 := Sta.ext E438 S426
        have S441 := Sta.ext E438 S427
        have A442 := Exa.ext E438 A424
        have F443 := Fld.ext E438 F430
        have F444 := Fld.ext E438 F431
        have ne445 : a421 ≠ a436 := by rw [g437]; exact Nat.ne_of_lt A424.lt
        have Z446 : n0 ≤ a436 := by rw [g437]; exact Z429
        have Z447 : n0 ≤ h435.size := Nat.le_trans Z429 E438.1
        replace A439 : own_A Z h435 a436 .char [.int (0 : Int32), .int (0 : Int32), .int (0 : Int32), .int (0 : Int32)] := A439
        refine own_dup X433 hx (hb hby at_128) (q := 129) rfl rfl ?_
        refine own_iconst X433 hx (v := (0 : Int32)) (hb hby at_129) (q := 130) rfl rfl ?_
        refine own_bipush X433 hx (v := (47 : Int32)) (hb hby at_130) (q := 132) rfl rfl ?_
        refine own_castore X433 hx hZ (i := 0) e434 A439 (by decide) (by decide) (Nat.le_of_ble_eq_true rfl) (hb hby at_132) (q := 133) rfl (fun T448 h451 X449 e450 W452 A453 => ?_)
        replace A453 : own_A Z h451 a436 .char [.int (47 : Int32), .int (0 : Int32), .int (0 : Int32), .int (0 : Int32)] := A453
        have S454 := Sta.wr W452 S440
        have S455 := Sta.wr W452 S441
        have A456 := Exa.wr W452 A442
        have F457 := Fld.other W452 F443 (Or.inl ne445)
        have F458 := Fld.other W452 F444 (Or.inl ne445)
        have Z459 : n0 ≤ h451.size := W452.size ▸ Z447
        have N460 := Fr.snoc X449 N0 Z446
        refine own_dup X449 hx (hb hby at_133) (q := 134) rfl rfl ?_
        refine own_iconst X449 hx (v := (1 : Int32)) (hb hby at_134) (q := 135) rfl rfl ?_
        refine own_iload X449 hx (hb hby at_135) (q := 137) rfl rfl ?_
        refine own_castore X449 hx hZ (i := 1) e450 A453 (by decide) (by decide) (Nat.le_of_ble_eq_true rfl) (hb hby at_137) (q := 138) rfl (fun T461 h464 X462 e463 W465 A466 => ?_)
        replace A466 : own_A Z h464 a436 .char [.int (47 : Int32), .int (nar .char ((p2 &&& (255 : Int32)).toUInt32.toUInt16.toUInt32.toInt32)), .int (0 : Int32), .int (0 : Int32)] := A466
        have S467 := Sta.wr W465 S454
        have S468 := Sta.wr W465 S455
        have A469 := Exa.wr W465 A456
        have F470 := Fld.other W465 F457 (Or.inl ne445)
        have F471 := Fld.other W465 F458 (Or.inl ne445)
        have Z472 : n0 ≤ h464.size := W465.size ▸ Z459
        have N473 := Fr.snoc X462 N460 Z446
        refine own_dup X462 hx (hb hby at_138) (q := 139) rfl rfl ?_
        refine own_iconst X462 hx (v := (2 : Int32)) (hb hby at_139) (q := 140) rfl rfl ?_
        refine own_iload X462 hx (hb hby at_140) (q := 142) rfl rfl ?_
        refine own_castore X462 hx hZ (i := 2) e463 A466 (by decide) (by decide) (Nat.le_of_ble_eq_true rfl) (hb hby at_142) (q := 143) rfl (fun T474 h477 X475 e476 W478 A479 => ?_)
        replace A479 : own_A Z h477 a436 .char [.int (47 : Int32), .int (nar .char ((p2 &&& (255 : Int32)).toUInt32.toUInt16.toUInt32.toInt32)), .int (nar .char ((p3 &&& (255 : Int32)).toUInt32.toUInt16.toUInt32.toInt32)), .int (0 : Int32)] := A479
        have S480 := Sta.wr W478 S467
        have S481 := Sta.wr W478 S468
        have A482 := Exa.wr W478 A469
        have F483 := Fld.other W478 F470 (Or.inl ne445)
        have F484 := Fld.other W478 F471 (Or.inl ne445)
        have Z485 : n0 ≤ h477.size := W478.size ▸ Z472
        have N486 := Fr.snoc X475 N473 Z446
        refine own_dup X475 hx (hb hby at_143) (q := 144) rfl rfl ?_
        refine own_iconst X475 hx (v := (3 : Int32)) (hb hby at_144) (q := 145) rfl rfl ?_
        refine own_iload X475 hx (hb hby at_145) (q := 147) rfl rfl ?_
        refine own_castore X475 hx hZ (i := 3) e476 A479 (by decide) (by decide) (Nat.le_of_ble_eq_true rfl) (hb hby at_147) (q := 148) rfl (fun T487 h490 X488 e489 W491 A492 => ?_)
        replace A492 : own_A Z h490 a436 .char [.int (47 : Int32), .int (nar .char ((p2 &&& (255 : Int32)).toUInt32.toUInt16.toUInt32.toInt32)), .int (nar .char ((p3 &&& (255 : Int32)).toUInt32.toUInt16.toUInt32.toInt32)), .int (nar .char ((p4 &&& (255 : Int32)).toUInt32.toUInt16.toUInt32.toInt32))] := A492
        have S493 := Sta.wr W491 S480
        have S494 := Sta.wr W491 S481
        have A495 := Exa.wr W491 A482
        have F496 := Fld.other W491 F483 (Or.inl ne445)
        have F497 := Fld.other W491 F484 (Or.inl ne445)
        have Z498 : n0 ≤ h490.size := W491.size ▸ Z485
        have N499 := Fr.snoc X488 N486 Z446
        obtain ⟨k503, Kv504⟩ : ∃ k, Arv Z h490 a436 k .char (4 : Int32) [.int (47 : Int32), .int (nar .char ((p2 &&& (255 : Int32)).toUInt32.toUInt16.toUInt32.toInt32)), .int (nar .char ((p3 &&& (255 : Int32)).toUInt32.toUInt16.toUInt32.toInt32)), .int (nar .char ((p4 &&& (255 : Int32)).toUInt32.toUInt16.toUInt32.toInt32))] (.int 0) := A492.arv rfl (by decide) (by
          intro v hv; simp only [List.mem_cons, List.not_mem_nil, or_false] at hv; rcases hv with rfl | rfl | rfl | rfl
          · rfl
          · exact fits_nar_char _
          · exact fits_nar_char _
          · exact fits_nar_char _)
        have hp505 : ∀ c ∈ ([(47 : Int32), nar .char ((p2 &&& (255 : Int32)).toUInt32.toUInt16.toUInt32.toInt32), nar .char ((p3 &&& (255 : Int32)).toUInt32.toUInt16.toUInt32.toInt32), nar .char ((p4 &&& (255 : Int32)).toUInt32.toUInt16.toUInt32.toInt32)] : List Int32), ¬ c < 0 ∧ ¬ (255 : Int32) < c := by
          intro c hc; simp only [List.mem_cons, List.not_mem_nil, or_false] at hc; rcases hc with rfl | rfl | rfl | rfl
          · decide
          · exact own_ch _
          · exact own_ch _
          · exact own_ch _
        refine own_callCB X488 hx hZ hown rfl (hw _ (List.mem_of_getElem? (i := 4) rfl)) (hw _ (List.mem_of_getElem? (i := 5) rfl)) (hw _ (List.mem_of_getElem? (i := 6) rfl)) (by decide) (StrChars.Road.backV (W := 1) hZ (fun d hd => hw d (own_ws d hd)) (kI := 4) (hw _ (List.mem_of_getElem? (i := 1) rfl)) Z428 Z498 A495 F497 F496 Kv504 S493 PCS (cs := [(47 : Int32), nar .char ((p2 &&& (255 : Int32)).toUInt32.toUInt16.toUInt32.toInt32), nar .char ((p3 &&& (255 : Int32)).toUInt32.toUInt16.toUInt32.toInt32), nar .char ((p4 &&& (255 : Int32)).toUInt32.toUInt16.toUInt32.toInt32)]) (n := 4) rfl rfl (by decide) (by decide) hp505 rfl (by decide) (by decide)) own_pd10 rfl e489 (by rw [hml]; rfl) (argsL := [.ref a436]) (st := [.ref a421]) rfl (Nat.le_of_eq rfl) (by decide) (by decide) (hb hby at_148) (q := 151) rfl (fun v506 T507 L508 X509 hQ510 => ?_)
        obtain ⟨rfl, N511, K512, E514, F515, a516, kb517, G518, G519, G520, F521, A522⟩ := hQ510
        have S523 := own_staKeep S493 K512 (allS (own_exaPlain A495) all0)
        have S524 := own_staKeep S494 K512 (allS (own_exaPlain A495) all0)
        have A525 := A492.keep K512 (ninS (Ne.symm ne445) nin0)
        have Z526 : n0 ≤ T507.heap.size := Nat.le_trans Z498 K512.1
        have N513 := Fr.app N499 N511
        have A522b : own_A Z T507.heap a516 .byte [.int (47 : Int32), .int ((nar .char ((p2 &&& (255 : Int32)).toUInt32.toUInt16.toUInt32.toInt32)).toInt8.toInt32), .int ((nar .char ((p3 &&& (255 : Int32)).toUInt32.toUInt16.toUInt32.toInt32)).toInt8.toInt32), .int ((nar .char ((p4 &&& (255 : Int32)).toUInt32.toUInt16.toUInt32.toInt32)).toInt8.toInt32)] := own_A.of_arv A522 rfl
        have ne527 : a421 ≠ a516 := Nat.ne_of_lt (Nat.lt_of_lt_of_le A495.lt G519)
        have ne528 : a436 ≠ a516 := Nat.ne_of_lt (Nat.lt_of_lt_of_le A492.lt G519)
        show own_Go p e below (own_W s 24 2176 (own_Q0 n0)) (T507.setTop (mkF m 151 #[.val (.int p1), .val (.int p2), .val (.int p3), .val (.int p4), .val (.int ((p2 &&& (255 : Int32)).toUInt32.toUInt16.toUInt32.toInt32)), .val (.int ((p3 &&& (255 : Int32)).toUInt32.toUInt16.toUInt32.toInt32)), .val (.int ((p4 &&& (255 : Int32)).toUInt32.toUInt16.toUInt32.toInt32)), .val (.int (p1 &&& (3 : Int32))), .unset, .unset] [.ref a421]))
        refine own_astore (L' := #[.val (.int p1), .val (.int p2), .val (.int p3), .val (.int p4), .val (.int ((p2 &&& (255 : Int32)).toUInt32.toUInt16.toUInt32.toInt32)), .val (.int ((p3 &&& (255 : Int32)).toUInt32.toUInt16.toUInt32.toInt32)), .val (.int ((p4 &&& (255 : Int32)).toUInt32.toUInt16.toUInt32.toInt32)), .val (.int (p1 &&& (3 : Int32))), .val (.ref a421), .unset]) X509 hx (hb hby at_151) (q := 153) rfl rfl rfl ?_
        refine own_aload X509 hx (hb hby at_153) (q := 155) rfl rfl rfl ?_
        have HK544 : ∀ (b : Addr) (cl : Cell), Z.heap[b]? = some cl → T507.heap[b]? = some cl := fun b cl q => by
          exact oldF X509 (by rw [hh, ← Hn]; exact N513) b cl (by rw [hh, ← HZ]; exact q)
        refine own_callSS X509 hx hZ hown hIB (hw _ (List.mem_of_getElem? (i := 30) rfl)) (hw _ (List.mem_of_getElem? (i := 31) rfl)) (hw _ (List.mem_of_getElem? (i := 32) rfl)) (hw _ (List.mem_of_getElem? (i := 33) rfl)) (by decide) (rm7_4 l Z a0 hw [] a421 cs a516 ((nar .char ((p2 &&& (255 : Int32)).toUInt32.toUInt16.toUInt32.toInt32)).toInt8.toInt32) ((nar .char ((p3 &&& (255 : Int32)).toUInt32.toUInt16.toUInt32.toInt32)).toInt8.toInt32) ((nar .char ((p4 &&& (255 : Int32)).toUInt32.toUInt16.toUInt32.toInt32)).toInt8.toInt32) T507.heap n0 S523 E514 F521 F515 A522b HK544 H27 H28 HCW PCS) own_pd11 rfl rfl (by rw [hml]; rfl) (argsL := [.ref a421]) (st := []) rfl (W := 0) (Nat.le_of_eq rfl) (by decide) (by decide) (by decide) (by decide) (hb hby at_155) (q := 158) rfl (fun v535 T536 L537 X538 hS543 hZ hown hQ539 => ?_)
        obtain ⟨rfl, N540, K541⟩ := hQ539
        have S545 := own_staKeep S523 K541 all0
        have S546 := own_staKeep S524 K541 all0
        have E547 := E514.keep K541
        have F548 := F515.keep K541 nin0
        have F549 := F521.keep K541 nin0
        have A550 := A525.keep K541 nin0
        have A551 := A522b.keep K541 nin0
        have Z552 : n0 ≤ T536.heap.size := Nat.le_trans Z526 K541.1
        have N542 := Fr.app N513 N540
        show own_Go p e below (own_W s 24 2176 (own_Q0 n0)) (T536.setTop (mkF m 158 #[.val (.int p1), .val (.int p2), .val (.int p3), .val (.int p4), .val (.int ((p2 &&& (255 : Int32)).toUInt32.toUInt16.toUInt32.toInt32)), .val (.int ((p3 &&& (255 : Int32)).toUInt32.toUInt16.toUInt32.toInt32)), .val (.int ((p4 &&& (255 : Int32)).toUInt32.toUInt16.toUInt32.toInt32)), .val (.int (p1 &&& (3 : Int32))), .val (.ref a421), .unset] [.ref a421]))
        refine own_astore (L' := #[.val (.int p1), .val (.int p2), .val (.int p3), .val (.int p4), .val (.int ((p2 &&& (255 : Int32)).toUInt32.toUInt16.toUInt32.toInt32)), .val (.int ((p3 &&& (255 : Int32)).toUInt32.toUInt16.toUInt32.toInt32)), .val (.int ((p4 &&& (255 : Int32)).toUInt32.toUInt16.toUInt32.toInt32)), .val (.int (p1 &&& (3 : Int32))), .val (.ref a421), .val (.ref a421)]) X538 hx (hb hby at_158) (q := 160) rfl rfl rfl ?_
        refine own_aload X538 hx (hb hby at_160) (q := 162) rfl rfl rfl ?_
        refine own_aload X538 hx (hb hby at_162) (q := 164) rfl rfl rfl ?_
        refine own_acmp X538 hx (cd := .ne) (v := .ref a421) (w := .ref a421) (same := true) rfl rfl (hb hby at_164) (decide_eq_true rfl) (by decide) (q := 167) (by decide) ?_
        refine own_aload X538 hx (hb hby at_167) (q := 169) rfl rfl rfl ?_
        refine own_aload X538 hx (hb hby at_169) (q := 171) rfl rfl rfl ?_
        refine own_callVP X538 hx hZ hown (hw _ (List.mem_of_getElem? (i := 66) rfl)) (hw _ (List.mem_of_getElem? (i := 67) rfl)) (hw _ (List.mem_of_getElem? (i := 69) rfl)) (hw _ (List.mem_of_getElem? (i := 69) rfl)) (hw _ (List.mem_of_getElem? (i := 68) rfl)) (hw _ (List.mem_of_getElem? (i := 2) rfl)) (hw _ (List.mem_of_getElem? (i := 70) rfl)) E547 (by decide) (rm14 l Z a0 hw [] a421 a421 T536.heap  rfl) own_pd12 rfl rfl (by rw [hml]; rfl) (argsL := [.ref a421]) (st := []) rfl (W := 0) (Nat.le_of_eq rfl) (by decide) (by decide) (by decide) (by decide) (hb hby at_171) (q := 174) rfl (fun T553 X554 e555 => ?_)
        rw [show (own_f14  : Int32) = (1 : Int32) from rfl]
        refine own_if0P X554 hx (hb hby at_174) (cd := .eq) (x := (1 : Int32)) (pt := 204) (q := 177) (by decide) (by decide) rfl rfl (fun h => False.elim (((by decide) : ¬ ((1 : Int32) = (0 : Int32))) h)) (fun _ => ?_)
        refine own_aload X554 hx (hb hby at_177) (q := 179) rfl rfl rfl ?_
        refine own_callVP X554 hx hZ hown (hw _ (List.mem_of_getElem? (i := 71) rfl)) (hw _ (List.mem_of_getElem? (i := 53) rfl)) (hw _ (List.mem_of_getElem? (i := 55) rfl)) (hw _ (List.mem_of_getElem? (i := 55) rfl)) (hw _ (List.mem_of_getElem? (i := 54) rfl)) (hw _ (List.mem_of_getElem? (i := 2) rfl)) (hw _ (List.mem_of_getElem? (i := 56) rfl)) E547 (by decide) (rm11_4 l Z a0 hw [] a421 cs a516 ((nar .char ((p2 &&& (255 : Int32)).toUInt32.toUInt16.toUInt32.toInt32)).toInt8.toInt32) ((nar .char ((p3 &&& (255 : Int32)).toUInt32.toUInt16.toUInt32.toInt32)).toInt8.toInt32) ((nar .char ((p4 &&& (255 : Int32)).toUInt32.toUInt16.toUInt32.toInt32)).toInt8.toInt32) T536.heap S545 E547 F549 F548 A551 PCS) own_pd1 rfl e555 (by rw [hml]; rfl) (argsL := []) (st := []) rfl (W := 0) (Nat.le_of_eq rfl) (by decide) (by decide) (by decide) (by decide) (hb hby at_179) (q := 182) rfl (fun T556 X557 e558 => ?_)
        rw [show (own_f11_4 cs a516 ((nar .char ((p2 &&& (255 : Int32)).toUInt32.toUInt16.toUInt32.toInt32)).toInt8.toInt32) ((nar .char ((p3 &&& (255 : Int32)).toUInt32.toUInt16.toUInt32.toInt32)).toInt8.toInt32) ((nar .char ((p4 &&& (255 : Int32)).toUInt32.toUInt16.toUInt32.toInt32)).toInt8.toInt32) : Int32) = (4 : Int32) from rfl]
        refine own_iload X557 hx (hb hby at_182) (q := 184) rfl rfl ?_
        refine own_iconst X557 hx (v := (1 : Int32)) (hb hby at_184) (q := 185) rfl rfl ?_
        refine own_iadd X557 hx (hb hby at_185) (q := 186) rfl ?_
        refine own_icmpM X557 hx (hb hby at_186) (cd := .ne) (x := (4 : Int32)) (y := (p1 &&& (3 : Int32)) + (1 : Int32)) (pt := 204) (q := 189) (by decide) (by decide) rfl rfl (fun h => False.elim (h ((by rw [own_k3 c1 c2 c3]; decide) : (4 : Int32) = ((p1 &&& (3 : Int32)) + (1 : Int32))))) (fun _ => ?_)
        refine own_aload X557 hx (hb hby at_189) (q := 191) rfl rfl rfl ?_
        refine own_iconst X557 hx (v := (0 : Int32)) (hb hby at_191) (q := 192) rfl rfl ?_
        refine own_callVP X557 hx hZ hown (hw _ (List.mem_of_getElem? (i := 72) rfl)) (hw _ (List.mem_of_getElem? (i := 73) rfl)) (hw _ (List.mem_of_getElem? (i := 75) rfl)) (hw _ (List.mem_of_getElem? (i := 75) rfl)) (hw _ (List.mem_of_getElem? (i := 74) rfl)) (hw _ (List.mem_of_getElem? (i := 2) rfl)) (hw _ (List.mem_of_getElem? (i := 76) rfl)) E547 (by decide) (rm15_4 l Z a0 hw [] a421 cs G a516 ((nar .char ((p2 &&& (255 : Int32)).toUInt32.toUInt16.toUInt32.toInt32)).toInt8.toInt32) ((nar .char ((p3 &&& (255 : Int32)).toUInt32.toUInt16.toUInt32.toInt32)).toInt8.toInt32) ((nar .char ((p4 &&& (255 : Int32)).toUInt32.toUInt16.toUInt32.toInt32)).toInt8.toInt32) T536.heap S545 S546 E547 F549 F548 A551 PCS rG) own_pd13 rfl e558 (by rw [hml]; rfl) (argsL := [.int (0 : Int32)]) (st := []) rfl (W := 0) (Nat.le_of_eq rfl) (by decide) (by decide) (by decide) (by decide) (hb hby at_192) (q := 195) rfl (fun T559 X560 e561 => ?_)
        rw [show (own_f15_4 cs G a516 ((nar .char ((p2 &&& (255 : Int32)).toUInt32.toUInt16.toUInt32.toInt32)).toInt8.toInt32) ((nar .char ((p3 &&& (255 : Int32)).toUInt32.toUInt16.toUInt32.toInt32)).toInt8.toInt32) ((nar .char ((p4 &&& (255 : Int32)).toUInt32.toUInt16.toUInt32.toInt32)).toInt8.toInt32) : Int32) = (47 : Int32) from rfl]
        refine own_bipush X560 hx (v := (47 : Int32)) (hb hby at_195) (q := 197) rfl rfl ?_
        refine own_icmpM X560 hx (hb hby at_197) (cd := .ne) (x := (47 : Int32)) (y := (47 : Int32)) (pt := 204) (q := 200) (by decide) (by decide) rfl rfl (fun h => False.elim (h ((by decide) : (47 : Int32) = (47 : Int32)))) (fun _ => ?_)
        refine own_iconst X560 hx (v := (1 : Int32)) (hb hby at_200) (q := 201) rfl rfl ?_
        refine own_goto X560 hx (hb hby at_201) (q := 205) (by decide) (by decide) ?_
        refine own_mono (fun o t h => own_EW' hS543 h) ?_
        refine own_retN X560 hx hlk (t := .boolean) (by simp) Bd.returns (hb hby at_205) ?_ (by decide) (by decide)
        exact ⟨⟨rfl, N542⟩, e561 ▸ (Nat.le_refl _)⟩
      · refine own_new X0 hx hZ hown (hw _ (List.mem_of_getElem? (i := 0) rfl)) (hw _ (List.mem_of_getElem? (i := 1) rfl)) (hw _ (List.mem_of_getElem? (i := 2) rfl)) e0 (hb hby at_91) (by decide) (by decide) (q := 94) rfl (fun T562 h565 a566 X563 e564 g567 E568 A569 D570 => ?_)
        have S571 := Sta.ext E568 SCS
        have S572 := Sta.ext E568 SSG
        have Z573 : n0 ≤ a566 := by rw [g567]; exact Z0
        have Z574 : n0 ≤ h565.size := Nat.le_trans Z0 E568.1
        have F575 : Fld Z h565 a566 "java/lang/String" "coder" "B" (.int (0 : Int32)) := D570 (Or.inr (hw _ (List.mem_of_getElem? (i := 27) rfl))) (ty := .byte) (by decide)
        have F576 : Fld Z h565 a566 "java/lang/String" "value" "[B" (.null) := D570 (Or.inr (hw _ (List.mem_of_getElem? (i := 29) rfl))) (ty := (.array .byte)) (by decide)
        refine own_dup X563 hx (hb hby at_94) (q := 95) rfl rfl ?_
        refine own_iconst X563 hx (v := (3 : Int32)) (hb hby at_95) (q := 96) rfl rfl ?_
        refine own_newA X563 hx hZ (aty := .char) (ty := .char) (k := 3) (cap := 3) rfl (hw _ (List.mem_of_getElem? (i := 3) rfl)) e564 (by decide) (by decide) (by decide) (by decide) (by decide) (by decide) (hb hby at_96) (q := 98) rfl (fun T577 h580 a581 X578 e579 g582 E583 A584 => ?_)
        have S585 := Sta.ext E583 S571
        have S586 := Sta.ext E583 S572
        have A587 := Exa.ext E583 A569
        have F588 := Fld.ext E583 F575
        have F589 := Fld.ext E583 F576
        have ne590 : a566 ≠ a581 := by rw [g582]; exact Nat.ne_of_lt A569.lt
        have Z591 : n0 ≤ a581 := by rw [g582]; exact Z574
        have Z592 : n0 ≤ h580.size := Nat.le_trans Z574 E583.1
        replace A584 : own_A Z h580 a581 .char [.int (0 : Int32), .int (0 : Int32), .int (0 : Int32)] := A584
        refine own_dup X578 hx (hb hby at_98) (q := 99) rfl rfl ?_
        refine own_iconst X578 hx (v := (0 : Int32)) (hb hby at_99) (q := 100) rfl rfl ?_
        refine own_bipush X578 hx (v := (47 : Int32)) (hb hby at_100) (q := 102) rfl rfl ?_
        refine own_castore X578 hx hZ (i := 0) e579 A584 (by decide) (by decide) (Nat.le_of_ble_eq_true rfl) (hb hby at_102) (q := 103) rfl (fun T593 h596 X594 e595 W597 A598 => ?_)
        replace A598 : own_A Z h596 a581 .char [.int (47 : Int32), .int (0 : Int32), .int (0 : Int32)] := A598
        have S599 := Sta.wr W597 S585
        have S600 := Sta.wr W597 S586
        have A601 := Exa.wr W597 A587
        have F602 := Fld.other W597 F588 (Or.inl ne590)
        have F603 := Fld.other W597 F589 (Or.inl ne590)
        have Z604 : n0 ≤ h596.size := W597.size ▸ Z592
        have N605 := Fr.snoc X594 N0 Z591
        refine own_dup X594 hx (hb hby at_103) (q := 104) rfl rfl ?_
        refine own_iconst X594 hx (v := (1 : Int32)) (hb hby at_104) (q := 105) rfl rfl ?_
        refine own_iload X594 hx (hb hby at_105) (q := 107) rfl rfl ?_
        refine own_castore X594 hx hZ (i := 1) e595 A598 (by decide) (by decide) (Nat.le_of_ble_eq_true rfl) (hb hby at_107) (q := 108) rfl (fun T606 h609 X607 e608 W610 A611 => ?_)
        replace A611 : own_A Z h609 a581 .char [.int (47 : Int32), .int (nar .char ((p2 &&& (255 : Int32)).toUInt32.toUInt16.toUInt32.toInt32)), .int (0 : Int32)] := A611
        have S612 := Sta.wr W610 S599
        have S613 := Sta.wr W610 S600
        have A614 := Exa.wr W610 A601
        have F615 := Fld.other W610 F602 (Or.inl ne590)
        have F616 := Fld.other W610 F603 (Or.inl ne590)
        have Z617 : n0 ≤ h609.size := W610.size ▸ Z604
        have N618 := Fr.snoc X607 N605 Z591
        refine own_dup X607 hx (hb hby at_108) (q := 109) rfl rfl ?_
        refine own_iconst X607 hx (v := (2 : Int32)) (hb hby at_109) (q := 110) rfl rfl ?_
        refine own_iload X607 hx (hb hby at_110) (q := 112) rfl rfl ?_
        refine own_castore X607 hx hZ (i := 2) e608 A611 (by decide) (by decide) (Nat.le_of_ble_eq_true rfl) (hb hby at_112) (q := 113) rfl (fun T619 h622 X620 e621 W623 A624 => ?_)
        replace A624 : own_A Z h622 a581 .char [.int (47 : Int32), .int (nar .char ((p2 &&& (255 : Int32)).toUInt32.toUInt16.toUInt32.toInt32)), .int (nar .char ((p3 &&& (255 : Int32)).toUInt32.toUInt16.toUInt32.toInt32))] := A624
        have S625 := Sta.wr W623 S612
        have S626 := Sta.wr W623 S613
        have A627 := Exa.wr W623 A614
        have F628 := Fld.other W623 F615 (Or.inl ne590)
        have F629 := Fld.other W623 F616 (Or.inl ne590)
        have Z630 : n0 ≤ h622.size := W623.size ▸ Z617
        have N631 := Fr.snoc X620 N618 Z591
        obtain ⟨k635, Kv636⟩ : ∃ k, Arv Z h622 a581 k .char (3 : Int32) [.int (47 : Int32), .int (nar .char ((p2 &&& (255 : Int32)).toUInt32.toUInt16.toUInt32.toInt32)), .int (nar .char ((p3 &&& (255 : Int32)).toUInt32.toUInt16.toUInt32.toInt32))] (.int 0) := A624.arv rfl (by decide) (by
          intro v hv; simp only [List.mem_cons, List.not_mem_nil, or_false] at hv; rcases hv with rfl | rfl | rfl
          · rfl
          · exact fits_nar_char _
          · exact fits_nar_char _)
        have hp637 : ∀ c ∈ ([(47 : Int32), nar .char ((p2 &&& (255 : Int32)).toUInt32.toUInt16.toUInt32.toInt32), nar .char ((p3 &&& (255 : Int32)).toUInt32.toUInt16.toUInt32.toInt32)] : List Int32), ¬ c < 0 ∧ ¬ (255 : Int32) < c := by
          intro c hc; simp only [List.mem_cons, List.not_mem_nil, or_false] at hc; rcases hc with rfl | rfl | rfl
          · decide
          · exact own_ch _
          · exact own_ch _
        refine own_callCB X620 hx hZ hown rfl (hw _ (List.mem_of_getElem? (i := 4) rfl)) (hw _ (List.mem_of_getElem? (i := 5) rfl)) (hw _ (List.mem_of_getElem? (i := 6) rfl)) (by decide) (StrChars.Road.backV (W := 1) hZ (fun d hd => hw d (own_ws d hd)) (kI := 4) (hw _ (List.mem_of_getElem? (i := 1) rfl)) Z573 Z630 A627 F629 F628 Kv636 S625 PCS (cs := [(47 : Int32), nar .char ((p2 &&& (255 : Int32)).toUInt32.toUInt16.toUInt32.toInt32), nar .char ((p3 &&& (255 : Int32)).toUInt32.toUInt16.toUInt32.toInt32)]) (n := 3) rfl rfl (by decide) (by decide) hp637 rfl (by decide) (by decide)) own_pd10 rfl e621 (by rw [hml]; rfl) (argsL := [.ref a581]) (st := [.ref a566]) rfl (Nat.le_of_eq rfl) (by decide) (by decide) (hb hby at_113) (q := 116) rfl (fun v638 T639 L640 X641 hQ642 => ?_)
        obtain ⟨rfl, N643, K644, E646, F647, a648, kb649, G650, G651, G652, F653, A654⟩ := hQ642
        have S655 := own_staKeep S625 K644 (allS (own_exaPlain A627) all0)
        have S656 := own_staKeep S626 K644 (allS (own_exaPlain A627) all0)
        have A657 := A624.keep K644 (ninS (Ne.symm ne590) nin0)
        have Z658 : n0 ≤ T639.heap.size := Nat.le_trans Z630 K644.1
        have N645 := Fr.app N631 N643
        have A654b : own_A Z T639.heap a648 .byte [.int (47 : Int32), .int ((nar .char ((p2 &&& (255 : Int32)).toUInt32.toUInt16.toUInt32.toInt32)).toInt8.toInt32), .int ((nar .char ((p3 &&& (255 : Int32)).toUInt32.toUInt16.toUInt32.toInt32)).toInt8.toInt32)] := own_A.of_arv A654 rfl
        have ne659 : a566 ≠ a648 := Nat.ne_of_lt (Nat.lt_of_lt_of_le A627.lt G651)
        have ne660 : a581 ≠ a648 := Nat.ne_of_lt (Nat.lt_of_lt_of_le A624.lt G651)
        show own_Go p e below (own_W s 24 2176 (own_Q0 n0)) (T639.setTop (mkF m 116 #[.val (.int p1), .val (.int p2), .val (.int p3), .val (.int p4), .val (.int ((p2 &&& (255 : Int32)).toUInt32.toUInt16.toUInt32.toInt32)), .val (.int ((p3 &&& (255 : Int32)).toUInt32.toUInt16.toUInt32.toInt32)), .val (.int ((p4 &&& (255 : Int32)).toUInt32.toUInt16.toUInt32.toInt32)), .val (.int (p1 &&& (3 : Int32))), .unset, .unset] [.ref a566]))
        refine own_astore (L' := #[.val (.int p1), .val (.int p2), .val (.int p3), .val (.int p4), .val (.int ((p2 &&& (255 : Int32)).toUInt32.toUInt16.toUInt32.toInt32)), .val (.int ((p3 &&& (255 : Int32)).toUInt32.toUInt16.toUInt32.toInt32)), .val (.int ((p4 &&& (255 : Int32)).toUInt32.toUInt16.toUInt32.toInt32)), .val (.int (p1 &&& (3 : Int32))), .val (.ref a566), .unset]) X641 hx (hb hby at_116) (q := 118) rfl rfl rfl ?_
        refine own_goto X641 hx (hb hby at_118) (q := 153) (by decide) (by decide) ?_
        refine own_aload X641 hx (hb hby at_153) (q := 155) rfl rfl rfl ?_
        have HK676 : ∀ (b : Addr) (cl : Cell), Z.heap[b]? = some cl → T639.heap[b]? = some cl := fun b cl q => by
          exact oldF X641 (by rw [hh, ← Hn]; exact N645) b cl (by rw [hh, ← HZ]; exact q)
        refine own_callSS X641 hx hZ hown hIB (hw _ (List.mem_of_getElem? (i := 30) rfl)) (hw _ (List.mem_of_getElem? (i := 31) rfl)) (hw _ (List.mem_of_getElem? (i := 32) rfl)) (hw _ (List.mem_of_getElem? (i := 33) rfl)) (by decide) (rm7_3 l Z a0 hw [] a566 cs a648 ((nar .char ((p2 &&& (255 : Int32)).toUInt32.toUInt16.toUInt32.toInt32)).toInt8.toInt32) ((nar .char ((p3 &&& (255 : Int32)).toUInt32.toUInt16.toUInt32.toInt32)).toInt8.toInt32) T639.heap n0 S655 E646 F653 F647 A654b HK676 H27 H28 HCW PCS) own_pd11 rfl rfl (by rw [hml]; rfl) (argsL := [.ref a566]) (st := []) rfl (W := 0) (Nat.le_of_eq rfl) (by decide) (by decide) (by decide) (by decide) (hb hby at_155) (q := 158) rfl (fun v667 T668 L669 X670 hS675 hZ hown hQ671 => ?_)
        obtain ⟨rfl, N672, K673⟩ := hQ671
        have S677 := own_staKeep S655 K673 all0
        have S678 := own_staKeep S656 K673 all0
        have E679 := E646.keep K673
        have F680 := F647.keep K673 nin0
        have F681 := F653.keep K673 nin0
        have A682 := A657.keep K673 nin0
        have A683 := A654b.keep K673 nin0
        have Z684 : n0 ≤ T668.heap.size := Nat.le_trans Z658 K673.1
        have N674 := Fr.app N645 N672
        show own_Go p e below (own_W s 24 2176 (own_Q0 n0)) (T668.setTop (mkF m 158 #[.val (.int p1), .val (.int p2), .val (.int p3), .val (.int p4), .val (.int ((p2 &&& (255 : Int32)).toUInt32.toUInt16.toUInt32.toInt32)), .val (.int ((p3 &&& (255 : Int32)).toUInt32.toUInt16.toUInt32.toInt32)), .val (.int ((p4 &&& (255 : Int32)).toUInt32.toUInt16.toUInt32.toInt32)), .val (.int (p1 &&& (3 : Int32))), .val (.ref a566), .unset] [.ref a566]))
        refine own_astore (L' := #[.val (.int p1), .val (.int p2), .val (.int p3), .val (.int p4), .val (.int ((p2 &&& (255 : Int32)).toUInt32.toUInt16.toUInt32.toInt32)), .val (.int ((p3 &&& (255 : Int32)).toUInt32.toUInt16.toUInt32.toInt32)), .val (.int ((p4 &&& (255 : Int32)).toUInt32.toUInt16.toUInt32.toInt32)), .val (.int (p1 &&& (3 : Int32))), .val (.ref a566), .val (.ref a566)]) X670 hx (hb hby at_158) (q := 160) rfl rfl rfl ?_
        refine own_aload X670 hx (hb hby at_160) (q := 162) rfl rfl rfl ?_
        refine own_aload X670 hx (hb hby at_162) (q := 164) rfl rfl rfl ?_
        refine own_acmp X670 hx (cd := .ne) (v := .ref a566) (w := .ref a566) (same := true) rfl rfl (hb hby at_164) (decide_eq_true rfl) (by decide) (q := 167) (by decide) ?_
        refine own_aload X670 hx (hb hby at_167) (q := 169) rfl rfl rfl ?_
        refine own_aload X670 hx (hb hby at_169) (q := 171) rfl rfl rfl ?_
        refine own_callVP X670 hx hZ hown (hw _ (List.mem_of_getElem? (i := 66) rfl)) (hw _ (List.mem_of_getElem? (i := 67) rfl)) (hw _ (List.mem_of_getElem? (i := 69) rfl)) (hw _ (List.mem_of_getElem? (i := 69) rfl)) (hw _ (List.mem_of_getElem? (i := 68) rfl)) (hw _ (List.mem_of_getElem? (i := 2) rfl)) (hw _ (List.mem_of_getElem? (i := 70) rfl)) E679 (by decide) (rm14 l Z a0 hw [] a566 a566 T668.heap  rfl) own_pd12 rfl rfl (by rw [hml]; rfl) (argsL := [.ref a566]) (st := []) rfl (W := 0) (Nat.le_of_eq rfl) (by decide) (by decide) (by decide) (by decide) (hb hby at_171) (q := 174) rfl (fun T685 X686 e687 => ?_)
        rw [show (own_f14  : Int32) = (1 : Int32) from rfl]
        refine own_if0P X686 hx (hb hby at_174) (cd := .eq) (x := (1 : Int32)) (pt := 204) (q := 177) (by decide) (by decide) rfl rfl (fun h => False.elim (((by decide) : ¬ ((1 : Int32) = (0 : Int32))) h)) (fun _ => ?_)
        refine own_aload X686 hx (hb hby at_177) (q := 179) rfl rfl rfl ?_
        refine own_callVP X686 hx hZ hown (hw _ (List.mem_of_getElem? (i := 71) rfl)) (hw _ (List.mem_of_getElem? (i := 53) rfl)) (hw _ (List.mem_of_getElem? (i := 55) rfl)) (hw _ (List.mem_of_getElem? (i := 55) rfl)) (hw _ (List.mem_of_getElem? (i := 54) rfl)) (hw _ (List.mem_of_getElem? (i := 2) rfl)) (hw _ (List.mem_of_getElem? (i := 56) rfl)) E679 (by decide) (rm11_3 l Z a0 hw [] a566 cs a648 ((nar .char ((p2 &&& (255 : Int32)).toUInt32.toUInt16.toUInt32.toInt32)).toInt8.toInt32) ((nar .char ((p3 &&& (255 : Int32)).toUInt32.toUInt16.toUInt32.toInt32)).toInt8.toInt32) T668.heap S677 E679 F681 F680 A683 PCS) own_pd1 rfl e687 (by rw [hml]; rfl) (argsL := []) (st := []) rfl (W := 0) (Nat.le_of_eq rfl) (by decide) (by decide) (by decide) (by decide) (hb hby at_179) (q := 182) rfl (fun T688 X689 e690 => ?_)
        rw [show (own_f11_3 cs a648 ((nar .char ((p2 &&& (255 : Int32)).toUInt32.toUInt16.toUInt32.toInt32)).toInt8.toInt32) ((nar .char ((p3 &&& (255 : Int32)).toUInt32.toUInt16.toUInt32.toInt32)).toInt8.toInt32) : Int32) = (3 : Int32) from rfl]
        refine own_iload X689 hx (hb hby at_182) (q := 184) rfl rfl ?_
        refine own_iconst X689 hx (v := (1 : Int32)) (hb hby at_184) (q := 185) rfl rfl ?_
        refine own_iadd X689 hx (hb hby at_185) (q := 186) rfl ?_
        refine own_icmpM X689 hx (hb hby at_186) (cd := .ne) (x := (3 : Int32)) (y := (p1 &&& (3 : Int32)) + (1 : Int32)) (pt := 204) (q := 189) (by decide) (by decide) rfl rfl (fun h => False.elim (h ((by rw [c3]; decide) : (3 : Int32) = ((p1 &&& (3 : Int32)) + (1 : Int32))))) (fun _ => ?_)
        refine own_aload X689 hx (hb hby at_189) (q := 191) rfl rfl rfl ?_
        refine own_iconst X689 hx (v := (0 : Int32)) (hb hby at_191) (q := 192) rfl rfl ?_
        refine own_callVP X689 hx hZ hown (hw _ (List.mem_of_getElem? (i := 72) rfl)) (hw _ (List.mem_of_getElem? (i := 73) rfl)) (hw _ (List.mem_of_getElem? (i := 75) rfl)) (hw _ (List.mem_of_getElem? (i := 75) rfl)) (hw _ (List.mem_of_getElem? (i := 74) rfl)) (hw _ (List.mem_of_getElem? (i := 2) rfl)) (hw _ (List.mem_of_getElem? (i := 76) rfl)) E679 (by decide) (rm15_3 l Z a0 hw [] a566 cs G a648 ((nar .char ((p2 &&& (255 : Int32)).toUInt32.toUInt16.toUInt32.toInt32)).toInt8.toInt32) ((nar .char ((p3 &&& (255 : Int32)).toUInt32.toUInt16.toUInt32.toInt32)).toInt8.toInt32) T668.heap S677 S678 E679 F681 F680 A683 PCS rG) own_pd13 rfl e690 (by rw [hml]; rfl) (argsL := [.int (0 : Int32)]) (st := []) rfl (W := 0) (Nat.le_of_eq rfl) (by decide) (by decide) (by decide) (by decide) (hb hby at_192) (q := 195) rfl (fun T691 X692 e693 => ?_)
        rw [show (own_f15_3 cs G a648 ((nar .char ((p2 &&& (255 : Int32)).toUInt32.toUInt16.toUInt32.toInt32)).toInt8.toInt32) ((nar .char ((p3 &&& (255 : Int32)).toUInt32.toUInt16.toUInt32.toInt32)).toInt8.toInt32) : Int32) = (47 : Int32) from rfl]
        refine own_bipush X692 hx (v := (47 : Int32)) (hb hby at_195) (q := 197) rfl rfl ?_
        refine own_icmpM X692 hx (hb hby at_197) (cd := .ne) (x := (47 : Int32)) (y := (47 : Int32)) (pt := 204) (q := 200) (by decide) (by decide) rfl rfl (fun h => False.elim (h ((by decide) : (47 : Int32) = (47 : Int32)))) (fun _ => ?_)
        refine own_iconst X692 hx (v := (1 : Int32)) (hb hby at_200) (q := 201) rfl rfl ?_
        refine own_goto X692 hx (hb hby at_201) (q := 205) (by decide) (by decide) ?_
        refine own_mono (fun o t h => own_EW' hS675 h) ?_
        refine own_retN X692 hx hlk (t := .boolean) (by simp) Bd.returns (hb hby at_205) ?_ (by decide) (by decide)
        exact ⟨⟨rfl, N674⟩, e693 ▸ (Nat.le_refl _)⟩
    · refine own_new X0 hx hZ hown (hw _ (List.mem_of_getElem? (i := 0) rfl)) (hw _ (List.mem_of_getElem? (i := 1) rfl)) (hw _ (List.mem_of_getElem? (i := 2) rfl)) e0 (hb hby at_60) (by decide) (by decide) (q := 63) rfl (fun T694 h697 a698 X695 e696 g699 E700 A701 D702 => ?_)
      have S703 := Sta.ext E700 SCS
      have S704 := Sta.ext E700 SSG
      have Z705 : n0 ≤ a698 := by rw [g699]; exact Z0
      have Z706 : n0 ≤ h697.size := Nat.le_trans Z0 E700.1
      have F707 : Fld Z h697 a698 "java/lang/String" "coder" "B" (.int (0 : Int32)) := D702 (Or.inr (hw _ (List.mem_of_getElem? (i := 27) rfl))) (ty := .byte) (by decide)
      have F708 : Fld Z h697 a698 "java/lang/String" "value" "[B" (.null) := D702 (Or.inr (hw _ (List.mem_of_getElem? (i := 29) rfl))) (ty := (.array .byte)) (by decide)
      refine own_dup X695 hx (hb hby at_63) (q := 64) rfl rfl ?_
      refine own_iconst X695 hx (v := (2 : Int32)) (hb hby at_64) (q := 65) rfl rfl ?_
      refine own_newA X695 hx hZ (aty := .char) (ty := .char) (k := 2) (cap := 2) rfl (hw _ (List.mem_of_getElem? (i := 3) rfl)) e696 (by decide) (by decide) (by decide) (by decide) (by decide) (by decide) (hb hby at_65) (q := 67) rfl (fun T709 h712 a713 X710 e711 g714 E715 A716 => ?_)
      have S717 := Sta.ext E715 S703
      have S718 := Sta.ext E715 S704
      have A719 := Exa.ext E715 A701
      have F720 := Fld.ext E715 F707
      have F721 := Fld.ext E715 F708
      have ne722 : a698 ≠ a713 := by rw [g714]; exact Nat.ne_of_lt A701.lt
      have Z723 : n0 ≤ a713 := by rw [g714]; exact Z706
      have Z724 : n0 ≤ h712.size := Nat.le_trans Z706 E715.1
      replace A716 : own_A Z h712 a713 .char [.int (0 : Int32), .int (0 : Int32)] := A716
      refine own_dup X710 hx (hb hby at_67) (q := 68) rfl rfl ?_
      refine own_iconst X710 hx (v := (0 : Int32)) (hb hby at_68) (q := 69) rfl rfl ?_
      refine own_bipush X710 hx (v := (47 : Int32)) (hb hby at_69) (q := 71) rfl rfl ?_
      refine own_castore X710 hx hZ (i := 0) e711 A716 (by decide) (by decide) (Nat.le_of_ble_eq_true rfl) (hb hby at_71) (q := 72) rfl (fun T725 h728 X726 e727 W729 A730 => ?_)
      replace A730 : own_A Z h728 a713 .char [.int (47 : Int32), .int (0 : Int32)] := A730
      have S731 := Sta.wr W729 S717
      have S732 := Sta.wr W729 S718
      have A733 := Exa.wr W729 A719
      have F734 := Fld.other W729 F720 (Or.inl ne722)
      have F735 := Fld.other W729 F721 (Or.inl ne722)
      have Z736 : n0 ≤ h728.size := W729.size ▸ Z724
      have N737 := Fr.snoc X726 N0 Z723
      refine own_dup X726 hx (hb hby at_72) (q := 73) rfl rfl ?_
      refine own_iconst X726 hx (v := (1 : Int32)) (hb hby at_73) (q := 74) rfl rfl ?_
      refine own_iload X726 hx (hb hby at_74) (q := 76) rfl rfl ?_
      refine own_castore X726 hx hZ (i := 1) e727 A730 (by decide) (by decide) (Nat.le_of_ble_eq_true rfl) (hb hby at_76) (q := 77) rfl (fun T738 h741 X739 e740 W742 A743 => ?_)
      replace A743 : own_A Z h741 a713 .char [.int (47 : Int32), .int (nar .char ((p2 &&& (255 : Int32)).toUInt32.toUInt16.toUInt32.toInt32))] := A743
      have S744 := Sta.wr W742 S731
      have S745 := Sta.wr W742 S732
      have A746 := Exa.wr W742 A733
      have F747 := Fld.other W742 F734 (Or.inl ne722)
      have F748 := Fld.other W742 F735 (Or.inl ne722)
      have Z749 : n0 ≤ h741.size := W742.size ▸ Z736
      have N750 := Fr.snoc X739 N737 Z723
      obtain ⟨k754, Kv755⟩ : ∃ k, Arv Z h741 a713 k .char (2 : Int32) [.int (47 : Int32), .int (nar .char ((p2 &&& (255 : Int32)).toUInt32.toUInt16.toUInt32.toInt32))] (.int 0) := A743.arv rfl (by decide) (by
        intro v hv; simp only [List.mem_cons, List.not_mem_nil, or_false] at hv; rcases hv with rfl | rfl
        · rfl
        · exact fits_nar_char _)
      have hp756 : ∀ c ∈ ([(47 : Int32), nar .char ((p2 &&& (255 : Int32)).toUInt32.toUInt16.toUInt32.toInt32)] : List Int32), ¬ c < 0 ∧ ¬ (255 : Int32) < c := by
        intro c hc; simp only [List.mem_cons, List.not_mem_nil, or_false] at hc; rcases hc with rfl | rfl
        · decide
        · exact own_ch _
      refine own_callCB X739 hx hZ hown rfl (hw _ (List.mem_of_getElem? (i := 4) rfl)) (hw _ (List.mem_of_getElem? (i := 5) rfl)) (hw _ (List.mem_of_getElem? (i := 6) rfl)) (by decide) (StrChars.Road.backV (W := 1) hZ (fun d hd => hw d (own_ws d hd)) (kI := 4) (hw _ (List.mem_of_getElem? (i := 1) rfl)) Z705 Z749 A746 F748 F747 Kv755 S744 PCS (cs := [(47 : Int32), nar .char ((p2 &&& (255 : Int32)).toUInt32.toUInt16.toUInt32.toInt32)]) (n := 2) rfl rfl (by decide) (by decide) hp756 rfl (by decide) (by decide)) own_pd10 rfl e740 (by rw [hml]; rfl) (argsL := [.ref a713]) (st := [.ref a698]) rfl (Nat.le_of_eq rfl) (by decide) (by decide) (hb hby at_77) (q := 80) rfl (fun v757 T758 L759 X760 hQ761 => ?_)
      obtain ⟨rfl, N762, K763, E765, F766, a767, kb768, G769, G770, G771, F772, A773⟩ := hQ761
      have S774 := own_staKeep S744 K763 (allS (own_exaPlain A746) all0)
      have S775 := own_staKeep S745 K763 (allS (own_exaPlain A746) all0)
      have A776 := A743.keep K763 (ninS (Ne.symm ne722) nin0)
      have Z777 : n0 ≤ T758.heap.size := Nat.le_trans Z749 K763.1
      have N764 := Fr.app N750 N762
      have A773b : own_A Z T758.heap a767 .byte [.int (47 : Int32), .int ((nar .char ((p2 &&& (255 : Int32)).toUInt32.toUInt16.toUInt32.toInt32)).toInt8.toInt32)] := own_A.of_arv A773 rfl
      have ne778 : a698 ≠ a767 := Nat.ne_of_lt (Nat.lt_of_lt_of_le A746.lt G770)
      have ne779 : a713 ≠ a767 := Nat.ne_of_lt (Nat.lt_of_lt_of_le A743.lt G770)
      show own_Go p e below (own_W s 24 2176 (own_Q0 n0)) (T758.setTop (mkF m 80 #[.val (.int p1), .val (.int p2), .val (.int p3), .val (.int p4), .val (.int ((p2 &&& (255 : Int32)).toUInt32.toUInt16.toUInt32.toInt32)), .val (.int ((p3 &&& (255 : Int32)).toUInt32.toUInt16.toUInt32.toInt32)), .val (.int ((p4 &&& (255 : Int32)).toUInt32.toUInt16.toUInt32.toInt32)), .val (.int (p1 &&& (3 : Int32))), .unset, .unset] [.ref a698]))
      refine own_astore (L' := #[.val (.int p1), .val (.int p2), .val (.int p3), .val (.int p4), .val (.int ((p2 &&& (255 : Int32)).toUInt32.toUInt16.toUInt32.toInt32)), .val (.int ((p3 &&& (255 : Int32)).toUInt32.toUInt16.toUInt32.toInt32)), .val (.int ((p4 &&& (255 : Int32)).toUInt32.toUInt16.toUInt32.toInt32)), .val (.int (p1 &&& (3 : Int32))), .val (.ref a698), .unset]) X760 hx (hb hby at_80) (q := 82) rfl rfl rfl ?_
      refine own_goto X760 hx (hb hby at_82) (q := 153) (by decide) (by decide) ?_
      refine own_aload X760 hx (hb hby at_153) (q := 155) rfl rfl rfl ?_
      have HK795 : ∀ (b : Addr) (cl : Cell), Z.heap[b]? = some cl → T758.heap[b]? = some cl := fun b cl q => by
        exact oldF X760 (by rw [hh, ← Hn]; exact N764) b cl (by rw [hh, ← HZ]; exact q)
      refine own_callSS X760 hx hZ hown hIB (hw _ (List.mem_of_getElem? (i := 30) rfl)) (hw _ (List.mem_of_getElem? (i := 31) rfl)) (hw _ (List.mem_of_getElem? (i := 32) rfl)) (hw _ (List.mem_of_getElem? (i := 33) rfl)) (by decide) (rm7_2 l Z a0 hw [] a698 cs a767 ((nar .char ((p2 &&& (255 : Int32)).toUInt32.toUInt16.toUInt32.toInt32)).toInt8.toInt32) T758.heap n0 S774 E765 F772 F766 A773b HK795 H27 H28 HCW PCS) own_pd11 rfl rfl (by rw [hml]; rfl) (argsL := [.ref a698]) (st := []) rfl (W := 0) (Nat.le_of_eq rfl) (by decide) (by decide) (by decide) (by decide) (hb hby at_155) (q := 158) rfl (fun v786 T787 L788 X789 hS794 hZ hown hQ790 => ?_)
      obtain ⟨rfl, N791, K792⟩ := hQ790
      have S796 := own_staKeep S774 K792 all0
      have S797 := own_staKeep S775 K792 all0
      have E798 := E765.keep K792
      have F799 := F766.keep K792 nin0
      have F800 := F772.keep K792 nin0
      have A801 := A776.keep K792 nin0
      have A802 := A773b.keep K792 nin0
      have Z803 : n0 ≤ T787.heap.size := Nat.le_trans Z777 K792.1
      have N793 := Fr.app N764 N791
      show own_Go p e below (own_W s 24 2176 (own_Q0 n0)) (T787.setTop (mkF m 158 #[.val (.int p1), .val (.int p2), .val (.int p3), .val (.int p4), .val (.int ((p2 &&& (255 : Int32)).toUInt32.toUInt16.toUInt32.toInt32)), .val (.int ((p3 &&& (255 : Int32)).toUInt32.toUInt16.toUInt32.toInt32)), .val (.int ((p4 &&& (255 : Int32)).toUInt32.toUInt16.toUInt32.toInt32)), .val (.int (p1 &&& (3 : Int32))), .val (.ref a698), .unset] [.ref a698]))
      refine own_astore (L' := #[.val (.int p1), .val (.int p2), .val (.int p3), .val (.int p4), .val (.int ((p2 &&& (255 : Int32)).toUInt32.toUInt16.toUInt32.toInt32)), .val (.int ((p3 &&& (255 : Int32)).toUInt32.toUInt16.toUInt32.toInt32)), .val (.int ((p4 &&& (255 : Int32)).toUInt32.toUInt16.toUInt32.toInt32)), .val (.int (p1 &&& (3 : Int32))), .val (.ref a698), .val (.ref a698)]) X789 hx (hb hby at_158) (q := 160) rfl rfl rfl ?_
      refine own_aload X789 hx (hb hby at_160) (q := 162) rfl rfl rfl ?_
      refine own_aload X789 hx (hb hby at_162) (q := 164) rfl rfl rfl ?_
      refine own_acmp X789 hx (cd := .ne) (v := .ref a698) (w := .ref a698) (same := true) rfl rfl (hb hby at_164) (decide_eq_true rfl) (by decide) (q := 167) (by decide) ?_
      refine own_aload X789 hx (hb hby at_167) (q := 169) rfl rfl rfl ?_
      refine own_aload X789 hx (hb hby at_169) (q := 171) rfl rfl rfl ?_
      refine own_callVP X789 hx hZ hown (hw _ (List.mem_of_getElem? (i := 66) rfl)) (hw _ (List.mem_of_getElem? (i := 67) rfl)) (hw _ (List.mem_of_getElem? (i := 69) rfl)) (hw _ (List.mem_of_getElem? (i := 69) rfl)) (hw _ (List.mem_of_getElem? (i := 68) rfl)) (hw _ (List.mem_of_getElem? (i := 2) rfl)) (hw _ (List.mem_of_getElem? (i := 70) rfl)) E798 (by decide) (rm14 l Z a0 hw [] a698 a698 T787.heap  rfl) own_pd12 rfl rfl (by rw [hml]; rfl) (argsL := [.ref a698]) (st := []) rfl (W := 0) (Nat.le_of_eq rfl) (by decide) (by decide) (by decide) (by decide) (hb hby at_171) (q := 174) rfl (fun T804 X805 e806 => ?_)
      rw [show (own_f14  : Int32) = (1 : Int32) from rfl]
      refine own_if0P X805 hx (hb hby at_174) (cd := .eq) (x := (1 : Int32)) (pt := 204) (q := 177) (by decide) (by decide) rfl rfl (fun h => False.elim (((by decide) : ¬ ((1 : Int32) = (0 : Int32))) h)) (fun _ => ?_)
      refine own_aload X805 hx (hb hby at_177) (q := 179) rfl rfl rfl ?_
      refine own_callVP X805 hx hZ hown (hw _ (List.mem_of_getElem? (i := 71) rfl)) (hw _ (List.mem_of_getElem? (i := 53) rfl)) (hw _ (List.mem_of_getElem? (i := 55) rfl)) (hw _ (List.mem_of_getElem? (i := 55) rfl)) (hw _ (List.mem_of_getElem? (i := 54) rfl)) (hw _ (List.mem_of_getElem? (i := 2) rfl)) (hw _ (List.mem_of_getElem? (i := 56) rfl)) E798 (by decide) (rm11_2 l Z a0 hw [] a698 cs a767 ((nar .char ((p2 &&& (255 : Int32)).toUInt32.toUInt16.toUInt32.toInt32)).toInt8.toInt32) T787.heap S796 E798 F800 F799 A802 PCS) own_pd1 rfl e806 (by rw [hml]; rfl) (argsL := []) (st := []) rfl (W := 0) (Nat.le_of_eq rfl) (by decide) (by decide) (by decide) (by decide) (hb hby at_179) (q := 182) rfl (fun T807 X808 e809 => ?_)
      rw [show (own_f11_2 cs a767 ((nar .char ((p2 &&& (255 : Int32)).toUInt32.toUInt16.toUInt32.toInt32)).toInt8.toInt32) : Int32) = (2 : Int32) from rfl]
      refine own_iload X808 hx (hb hby at_182) (q := 184) rfl rfl ?_
      refine own_iconst X808 hx (v := (1 : Int32)) (hb hby at_184) (q := 185) rfl rfl ?_
      refine own_iadd X808 hx (hb hby at_185) (q := 186) rfl ?_
      refine own_icmpM X808 hx (hb hby at_186) (cd := .ne) (x := (2 : Int32)) (y := (p1 &&& (3 : Int32)) + (1 : Int32)) (pt := 204) (q := 189) (by decide) (by decide) rfl rfl (fun h => False.elim (h ((by rw [c2]; decide) : (2 : Int32) = ((p1 &&& (3 : Int32)) + (1 : Int32))))) (fun _ => ?_)
      refine own_aload X808 hx (hb hby at_189) (q := 191) rfl rfl rfl ?_
      refine own_iconst X808 hx (v := (0 : Int32)) (hb hby at_191) (q := 192) rfl rfl ?_
      refine own_callVP X808 hx hZ hown (hw _ (List.mem_of_getElem? (i := 72) rfl)) (hw _ (List.mem_of_getElem? (i := 73) rfl)) (hw _ (List.mem_of_getElem? (i := 75) rfl)) (hw _ (List.mem_of_getElem? (i := 75) rfl)) (hw _ (List.mem_of_getElem? (i := 74) rfl)) (hw _ (List.mem_of_getElem? (i := 2) rfl)) (hw _ (List.mem_of_getElem? (i := 76) rfl)) E798 (by decide) (rm15_2 l Z a0 hw [] a698 cs G a767 ((nar .char ((p2 &&& (255 : Int32)).toUInt32.toUInt16.toUInt32.toInt32)).toInt8.toInt32) T787.heap S796 S797 E798 F800 F799 A802 PCS rG) own_pd13 rfl e809 (by rw [hml]; rfl) (argsL := [.int (0 : Int32)]) (st := []) rfl (W := 0) (Nat.le_of_eq rfl) (by decide) (by decide) (by decide) (by decide) (hb hby at_192) (q := 195) rfl (fun T810 X811 e812 => ?_)
      rw [show (own_f15_2 cs G a767 ((nar .char ((p2 &&& (255 : Int32)).toUInt32.toUInt16.toUInt32.toInt32)).toInt8.toInt32) : Int32) = (47 : Int32) from rfl]
      refine own_bipush X811 hx (v := (47 : Int32)) (hb hby at_195) (q := 197) rfl rfl ?_
      refine own_icmpM X811 hx (hb hby at_197) (cd := .ne) (x := (47 : Int32)) (y := (47 : Int32)) (pt := 204) (q := 200) (by decide) (by decide) rfl rfl (fun h => False.elim (h ((by decide) : (47 : Int32) = (47 : Int32)))) (fun _ => ?_)
      refine own_iconst X811 hx (v := (1 : Int32)) (hb hby at_200) (q := 201) rfl rfl ?_
      refine own_goto X811 hx (hb hby at_201) (q := 205) (by decide) (by decide) ?_
      refine own_mono (fun o t h => own_EW' hS794 h) ?_
      refine own_retN X811 hx hlk (t := .boolean) (by simp) Bd.returns (hb hby at_205) ?_ (by decide) (by decide)
      exact ⟨⟨rfl, N793⟩, e812 ▸ (Nat.le_refl _)⟩
  · refine own_new X0 hx hZ hown (hw _ (List.mem_of_getElem? (i := 0) rfl)) (hw _ (List.mem_of_getElem? (i := 1) rfl)) (hw _ (List.mem_of_getElem? (i := 2) rfl)) e0 (hb hby at_34) (by decide) (by decide) (q := 37) rfl (fun T813 h816 a817 X814 e815 g818 E819 A820 D821 => ?_)
    have S822 := Sta.ext E819 SCS
    have S823 := Sta.ext E819 SSG
    have Z824 : n0 ≤ a817 := by rw [g818]; exact Z0
    have Z825 : n0 ≤ h816.size := Nat.le_trans Z0 E819.1
    have F826 : Fld Z h816 a817 "java/lang/String" "coder" "B" (.int (0 : Int32)) := D821 (Or.inr (hw _ (List.mem_of_getElem? (i := 27) rfl))) (ty := .byte) (by decide)
    have F827 : Fld Z h816 a817 "java/lang/String" "value" "[B" (.null) := D821 (Or.inr (hw _ (List.mem_of_getElem? (i := 29) rfl))) (ty := (.array .byte)) (by decide)
    refine own_dup X814 hx (hb hby at_37) (q := 38) rfl rfl ?_
    refine own_iconst X814 hx (v := (1 : Int32)) (hb hby at_38) (q := 39) rfl rfl ?_
    refine own_newA X814 hx hZ (aty := .char) (ty := .char) (k := 1) (cap := 1) rfl (hw _ (List.mem_of_getElem? (i := 3) rfl)) e815 (by decide) (by decide) (by decide) (by decide) (by decide) (by decide) (hb hby at_39) (q := 41) rfl (fun T828 h831 a832 X829 e830 g833 E834 A835 => ?_)
    have S836 := Sta.ext E834 S822
    have S837 := Sta.ext E834 S823
    have A838 := Exa.ext E834 A820
    have F839 := Fld.ext E834 F826
    have F840 := Fld.ext E834 F827
    have ne841 : a817 ≠ a832 := by rw [g833]; exact Nat.ne_of_lt A820.lt
    have Z842 : n0 ≤ a832 := by rw [g833]; exact Z825
    have Z843 : n0 ≤ h831.size := Nat.le_trans Z825 E834.1
    replace A835 : own_A Z h831 a832 .char [.int (0 : Int32)] := A835
    refine own_dup X829 hx (hb hby at_41) (q := 42) rfl rfl ?_
    refine own_iconst X829 hx (v := (0 : Int32)) (hb hby at_42) (q := 43) rfl rfl ?_
    refine own_bipush X829 hx (v := (47 : Int32)) (hb hby at_43) (q := 45) rfl rfl ?_
    refine own_castore X829 hx hZ (i := 0) e830 A835 (by decide) (by decide) (Nat.le_of_ble_eq_true rfl) (hb hby at_45) (q := 46) rfl (fun T844 h847 X845 e846 W848 A849 => ?_)
    replace A849 : own_A Z h847 a832 .char [.int (47 : Int32)] := A849
    have S850 := Sta.wr W848 S836
    have S851 := Sta.wr W848 S837
    have A852 := Exa.wr W848 A838
    have F853 := Fld.other W848 F839 (Or.inl ne841)
    have F854 := Fld.other W848 F840 (Or.inl ne841)
    have Z855 : n0 ≤ h847.size := W848.size ▸ Z843
    have N856 := Fr.snoc X845 N0 Z842
    obtain ⟨k860, Kv861⟩ : ∃ k, Arv Z h847 a832 k .char (1 : Int32) [.int (47 : Int32)] (.int 0) := A849.arv rfl (by decide) (by
      intro v hv; simp only [List.mem_cons, List.not_mem_nil, or_false] at hv; rcases hv with rfl
      · rfl)
    have hp862 : ∀ c ∈ ([(47 : Int32)] : List Int32), ¬ c < 0 ∧ ¬ (255 : Int32) < c := by
      intro c hc; simp only [List.mem_cons, List.not_mem_nil, or_false] at hc; rcases hc with rfl
      · decide
    refine own_callCB X845 hx hZ hown rfl (hw _ (List.mem_of_getElem? (i := 4) rfl)) (hw _ (List.mem_of_getElem? (i := 5) rfl)) (hw _ (List.mem_of_getElem? (i := 6) rfl)) (by decide) (StrChars.Road.backV (W := 1) hZ (fun d hd => hw d (own_ws d hd)) (kI := 4) (hw _ (List.mem_of_getElem? (i := 1) rfl)) Z824 Z855 A852 F854 F853 Kv861 S850 PCS (cs := [(47 : Int32)]) (n := 1) rfl rfl (by decide) (by decide) hp862 rfl (by decide) (by decide)) own_pd10 rfl e846 (by rw [hml]; rfl) (argsL := [.ref a832]) (st := [.ref a817]) rfl (Nat.le_of_eq rfl) (by decide) (by decide) (hb hby at_46) (q := 49) rfl (fun v863 T864 L865 X866 hQ867 => ?_)
    obtain ⟨rfl, N868, K869, E871, F872, a873, kb874, G875, G876, G877, F878, A879⟩ := hQ867
    have S880 := own_staKeep S850 K869 (allS (own_exaPlain A852) all0)
    have S881 := own_staKeep S851 K869 (allS (own_exaPlain A852) all0)
    have A882 := A849.keep K869 (ninS (Ne.symm ne841) nin0)
    have Z883 : n0 ≤ T864.heap.size := Nat.le_trans Z855 K869.1
    have N870 := Fr.app N856 N868
    have A879b : own_A Z T864.heap a873 .byte [.int (47 : Int32)] := own_A.of_arv A879 rfl
    have ne884 : a817 ≠ a873 := Nat.ne_of_lt (Nat.lt_of_lt_of_le A852.lt G876)
    have ne885 : a832 ≠ a873 := Nat.ne_of_lt (Nat.lt_of_lt_of_le A849.lt G876)
    show own_Go p e below (own_W s 24 2176 (own_Q0 n0)) (T864.setTop (mkF m 49 #[.val (.int p1), .val (.int p2), .val (.int p3), .val (.int p4), .val (.int ((p2 &&& (255 : Int32)).toUInt32.toUInt16.toUInt32.toInt32)), .val (.int ((p3 &&& (255 : Int32)).toUInt32.toUInt16.toUInt32.toInt32)), .val (.int ((p4 &&& (255 : Int32)).toUInt32.toUInt16.toUInt32.toInt32)), .val (.int (p1 &&& (3 : Int32))), .unset, .unset] [.ref a817]))
    refine own_astore (L' := #[.val (.int p1), .val (.int p2), .val (.int p3), .val (.int p4), .val (.int ((p2 &&& (255 : Int32)).toUInt32.toUInt16.toUInt32.toInt32)), .val (.int ((p3 &&& (255 : Int32)).toUInt32.toUInt16.toUInt32.toInt32)), .val (.int ((p4 &&& (255 : Int32)).toUInt32.toUInt16.toUInt32.toInt32)), .val (.int (p1 &&& (3 : Int32))), .val (.ref a817), .unset]) X866 hx (hb hby at_49) (q := 51) rfl rfl rfl ?_
    refine own_goto X866 hx (hb hby at_51) (q := 153) (by decide) (by decide) ?_
    refine own_aload X866 hx (hb hby at_153) (q := 155) rfl rfl rfl ?_
    have HK901 : ∀ (b : Addr) (cl : Cell), Z.heap[b]? = some cl → T864.heap[b]? = some cl := fun b cl q => by
      exact oldF X866 (by rw [hh, ← Hn]; exact N870) b cl (by rw [hh, ← HZ]; exact q)
    refine own_callSS X866 hx hZ hown hIB (hw _ (List.mem_of_getElem? (i := 30) rfl)) (hw _ (List.mem_of_getElem? (i := 31) rfl)) (hw _ (List.mem_of_getElem? (i := 32) rfl)) (hw _ (List.mem_of_getElem? (i := 33) rfl)) (by decide) (rm7_1 l Z a0 hw [] a817 cs a873 T864.heap n0 S880 E871 F878 F872 A879b HK901 H27 H28 HCW PCS) own_pd11 rfl rfl (by rw [hml]; rfl) (argsL := [.ref a817]) (st := []) rfl (W := 0) (Nat.le_of_eq rfl) (by decide) (by decide) (by decide) (by decide) (hb hby at_155) (q := 158) rfl (fun v892 T893 L894 X895 hS900 hZ hown hQ896 => ?_)
    obtain ⟨rfl, N897, K898⟩ := hQ896
    have S902 := own_staKeep S880 K898 all0
    have S903 := own_staKeep S881 K898 all0
    have E904 := E871.keep K898
    have F905 := F872.keep K898 nin0
    have F906 := F878.keep K898 nin0
    have A907 := A882.keep K898 nin0
    have A908 := A879b.keep K898 nin0
    have Z909 : n0 ≤ T893.heap.size := Nat.le_trans Z883 K898.1
    have N899 := Fr.app N870 N897
    show own_Go p e below (own_W s 24 2176 (own_Q0 n0)) (T893.setTop (mkF m 158 #[.val (.int p1), .val (.int p2), .val (.int p3), .val (.int p4), .val (.int ((p2 &&& (255 : Int32)).toUInt32.toUInt16.toUInt32.toInt32)), .val (.int ((p3 &&& (255 : Int32)).toUInt32.toUInt16.toUInt32.toInt32)), .val (.int ((p4 &&& (255 : Int32)).toUInt32.toUInt16.toUInt32.toInt32)), .val (.int (p1 &&& (3 : Int32))), .val (.ref a817), .unset] [.ref a817]))
    refine own_astore (L' := #[.val (.int p1), .val (.int p2), .val (.int p3), .val (.int p4), .val (.int ((p2 &&& (255 : Int32)).toUInt32.toUInt16.toUInt32.toInt32)), .val (.int ((p3 &&& (255 : Int32)).toUInt32.toUInt16.toUInt32.toInt32)), .val (.int ((p4 &&& (255 : Int32)).toUInt32.toUInt16.toUInt32.toInt32)), .val (.int (p1 &&& (3 : Int32))), .val (.ref a817), .val (.ref a817)]) X895 hx (hb hby at_158) (q := 160) rfl rfl rfl ?_
    refine own_aload X895 hx (hb hby at_160) (q := 162) rfl rfl rfl ?_
    refine own_aload X895 hx (hb hby at_162) (q := 164) rfl rfl rfl ?_
    refine own_acmp X895 hx (cd := .ne) (v := .ref a817) (w := .ref a817) (same := true) rfl rfl (hb hby at_164) (decide_eq_true rfl) (by decide) (q := 167) (by decide) ?_
    refine own_aload X895 hx (hb hby at_167) (q := 169) rfl rfl rfl ?_
    refine own_aload X895 hx (hb hby at_169) (q := 171) rfl rfl rfl ?_
    refine own_callVP X895 hx hZ hown (hw _ (List.mem_of_getElem? (i := 66) rfl)) (hw _ (List.mem_of_getElem? (i := 67) rfl)) (hw _ (List.mem_of_getElem? (i := 69) rfl)) (hw _ (List.mem_of_getElem? (i := 69) rfl)) (hw _ (List.mem_of_getElem? (i := 68) rfl)) (hw _ (List.mem_of_getElem? (i := 2) rfl)) (hw _ (List.mem_of_getElem? (i := 70) rfl)) E904 (by decide) (rm14 l Z a0 hw [] a817 a817 T893.heap  rfl) own_pd12 rfl rfl (by rw [hml]; rfl) (argsL := [.ref a817]) (st := []) rfl (W := 0) (Nat.le_of_eq rfl) (by decide) (by decide) (by decide) (by decide) (hb hby at_171) (q := 174) rfl (fun T910 X911 e912 => ?_)
    rw [show (own_f14  : Int32) = (1 : Int32) from rfl]
    refine own_if0P X911 hx (hb hby at_174) (cd := .eq) (x := (1 : Int32)) (pt := 204) (q := 177) (by decide) (by decide) rfl rfl (fun h => False.elim (((by decide) : ¬ ((1 : Int32) = (0 : Int32))) h)) (fun _ => ?_)
    refine own_aload X911 hx (hb hby at_177) (q := 179) rfl rfl rfl ?_
    refine own_callVP X911 hx hZ hown (hw _ (List.mem_of_getElem? (i := 71) rfl)) (hw _ (List.mem_of_getElem? (i := 53) rfl)) (hw _ (List.mem_of_getElem? (i := 55) rfl)) (hw _ (List.mem_of_getElem? (i := 55) rfl)) (hw _ (List.mem_of_getElem? (i := 54) rfl)) (hw _ (List.mem_of_getElem? (i := 2) rfl)) (hw _ (List.mem_of_getElem? (i := 56) rfl)) E904 (by decide) (rm11_1 l Z a0 hw [] a817 cs a873 T893.heap S902 E904 F906 F905 A908 PCS) own_pd1 rfl e912 (by rw [hml]; rfl) (argsL := []) (st := []) rfl (W := 0) (Nat.le_of_eq rfl) (by decide) (by decide) (by decide) (by decide) (hb hby at_179) (q := 182) rfl (fun T913 X914 e915 => ?_)
    rw [show (own_f11_1 cs a873 : Int32) = (1 : Int32) from rfl]
    refine own_iload X914 hx (hb hby at_182) (q := 184) rfl rfl ?_
    refine own_iconst X914 hx (v := (1 : Int32)) (hb hby at_184) (q := 185) rfl rfl ?_
    refine own_iadd X914 hx (hb hby at_185) (q := 186) rfl ?_
    refine own_icmpM X914 hx (hb hby at_186) (cd := .ne) (x := (1 : Int32)) (y := (p1 &&& (3 : Int32)) + (1 : Int32)) (pt := 204) (q := 189) (by decide) (by decide) rfl rfl (fun h => False.elim (h ((by rw [c1]; decide) : (1 : Int32) = ((p1 &&& (3 : Int32)) + (1 : Int32))))) (fun _ => ?_)
    refine own_aload X914 hx (hb hby at_189) (q := 191) rfl rfl rfl ?_
    refine own_iconst X914 hx (v := (0 : Int32)) (hb hby at_191) (q := 192) rfl rfl ?_
    refine own_callVP X914 hx hZ hown (hw _ (List.mem_of_getElem? (i := 72) rfl)) (hw _ (List.mem_of_getElem? (i := 73) rfl)) (hw _ (List.mem_of_getElem? (i := 75) rfl)) (hw _ (List.mem_of_getElem? (i := 75) rfl)) (hw _ (List.mem_of_getElem? (i := 74) rfl)) (hw _ (List.mem_of_getElem? (i := 2) rfl)) (hw _ (List.mem_of_getElem? (i := 76) rfl)) E904 (by decide) (rm15_1 l Z a0 hw [] a817 cs G a873 T893.heap S902 S903 E904 F906 F905 A908 PCS rG) own_pd13 rfl e915 (by rw [hml]; rfl) (argsL := [.int (0 : Int32)]) (st := []) rfl (W := 0) (Nat.le_of_eq rfl) (by decide) (by decide) (by decide) (by decide) (hb hby at_192) (q := 195) rfl (fun T916 X917 e918 => ?_)
    rw [show (own_f15_1 cs G a873 : Int32) = (47 : Int32) from rfl]
    refine own_bipush X917 hx (v := (47 : Int32)) (hb hby at_195) (q := 197) rfl rfl ?_
    refine own_icmpM X917 hx (hb hby at_197) (cd := .ne) (x := (47 : Int32)) (y := (47 : Int32)) (pt := 204) (q := 200) (by decide) (by decide) rfl rfl (fun h => False.elim (h ((by decide) : (47 : Int32) = (47 : Int32)))) (fun _ => ?_)
    refine own_iconst X917 hx (v := (1 : Int32)) (hb hby at_200) (q := 201) rfl rfl ?_
    refine own_goto X917 hx (hb hby at_201) (q := 205) (by decide) (by decide) ?_
    refine own_mono (fun o t h => own_EW' hS900 h) ?_
    refine own_retN X917 hx hlk (t := .boolean) (by simp) Bd.returns (hb hby at_205) ?_ (by decide) (by decide)
    exact ⟨⟨rfl, N899⟩, e918 ▸ (Nat.le_refl _)⟩
set_option maxRecDepth 65536 in
set_option maxHeartbeats 40000000 in
theorem comes_1 {Post : Tables → Env → Array Value → State → Outcome → State → Prop} (hpost : ∀ tb e args s v u, (limb_1_1.after args s (.returned v) u = true ∧ limb_1_2.after args s (.returned v) u = true ∧ True) → FramedW s (.returned v) u (Jvm.fieldLocs frame_1_writes args s ++ Jvm.arrayLocs frame_1_arrays args s ++ Jvm.staticLocs frame_1_statics s) 24 2176 → Post tb e args s (.returned v) u) :
    ArmFor flags0 classFile x code maxLocals ret World_1 tables_1 room_1 Calls_1 rest_1 Pre_1 Post := by
  intro l hfl _ _ p e ha hc hk s m args below hf hA hF happ hP
  obtain ⟨hcalls, hrest, hpre⟩ := hP
  obtain ⟨-, -, -, hnamed, -, -, -, hat⟩ := (Spec.applies_iff hf).mp happ
  obtain ⟨hg, hn⟩ := and_e (Cond.before_iff.mp (show (Jvm.Cond.and given_1 narrow_1).before args s = true from hpre))
  obtain ⟨h1, g0⟩ := and_e hg
  obtain ⟨k0, g1⟩ := and_e g0
  obtain ⟨k1, g2⟩ := and_e g1
  obtain ⟨k2, g3⟩ := and_e g2
  have k3 := g3
  obtain ⟨w0, w1, w2, w3, rfl⟩ : ∃ w0 w1 w2 w3 : Value, args = #[w0, w1, w2, w3] := by
    have hs : args.size = 4 := by simpa [Cond.value, given_1] using h1
    obtain ⟨L⟩ := args
    match L, hs with
    | [w0, w1, w2, w3], _ => exact ⟨w0, w1, w2, w3, rfl⟩
  have hw := fun d (hd : d ∈ tables_1) => atoms_spec (ws := Jvm.Cond.code x code maxLocals ret :: tables_1) hat d (List.mem_cons_of_mem _ hd)
  have hfit : Fit s := fun {y c} hc i hi => by
    obtain ⟨ha, rfl⟩ := Array.getElem?_eq_some_iff.mp hc
    have q := List.all_eq_true.mp ((Array.all_eq_true_iff_forall_mem.mp hF) _ (Array.getElem_mem ha)) i (List.mem_range.mpr hi)
    simpa [Array.getElem?_eq_getElem hi] using q
  obtain ⟨i0, e0⟩ := is_v k0
  obtain rfl : w0 = (.int i0) := Option.some.inj e0
  obtain ⟨i1, e1⟩ := is_v k1
  obtain rfl : w1 = (.int i1) := Option.some.inj e1
  obtain ⟨i2, e2⟩ := is_v k2
  obtain rfl : w2 = (.int i2) := Option.some.inj e2
  obtain ⟨i3, e3⟩ := is_v k3
  obtain rfl : w3 = (.int i3) := Option.some.inj e3
  obtain ⟨hsets, hown0⟩ := atoms_of _ (rest_1_c_eq ▸ (show rest_1_c.before _ s = true from hrest))
  have n5 := not_v (Cond.before_iff.mp (hsets _ (List.mem_of_getElem? (i := 2) rfl)))
  obtain ⟨cs, ecs⟩ := is_v (Cond.before_iff.mp (hsets _ (List.mem_of_getElem? (i := 1) rfl)))
  have SCS : Sta s s.heap "java/lang/String" "COMPACT_STRINGS" "Z" (.int cs) := Sta.start ecs (Or.inl (hsets _ (List.mem_of_getElem? (i := 0) rfl)))
  have PCS : ¬ (cs = (0 : Int32)) := gotF (Cond.eq_ints ecs (Term.int_eval (0))) n5
  obtain ⟨G, eG, rG⟩ := isR_v (Cond.before_iff.mp (hsets _ (List.mem_of_getElem? (i := 8) rfl)))
  have SSG : Sta s s.heap "jdk/internal/util/Preconditions" "SIOOBE_FORMATTER" "Ljava/util/function/BiFunction;" G := Sta.start eG (Or.inl (hsets _ (List.mem_of_getElem? (i := 7) rfl)))
  have H27 : Jvm.Lit.constHeld s "com/example/count_changes/countchanges/model/Tenancy" 27 := hcalls.1 _ (List.mem_of_getElem? (i := 0) rfl)
  have H28 : Jvm.Lit.constHeld s "com/example/count_changes/countchanges/model/Tenancy" 28 := hcalls.1 _ (List.mem_of_getElem? (i := 1) rfl)
  have HCW := hsets _ (List.mem_of_getElem? (i := 2) rfl)
  obtain ⟨n, o, h1, h2, h3, _, L, rfl, ⟨rfl, N⟩, hq⟩ := rm0 l s _ hw tables_1 i0 i1 i2 i3 s.heap s.heap.size (Nat.le_refl _) SCS PCS SSG rG rfl rfl H27 H28 HCW p e ha hc hk s m _ below hf ((Spec.applies_iff_loose hf).mp happ).1 ⟨rfl, ⟨State.Warmed39.refl s, IB.start⟩, rfl⟩ trivial
  refine ⟨n, _, h1, h2, h3, hpost _ _ _ _ _ _ ⟨Cond.after_iff.mpr rfl, Cond.after_iff.mpr (eq_i res_at (Term.int_eval (1)) rfl), trivial⟩ ⟨hq.1, hq.2.1, hq.2.2.1, (hq.2.2.2.sift fun y hy => Or.inr (N y hy)).mono (by decide) (by decide)⟩⟩
theorem main_1_1 : Claimed_1_1 := comes_1 fun _ _ _ _ _ _ h hF => ⟨h.1, hF⟩
theorem main_1_2 : Claimed_1_2 := comes_1 fun _ _ _ _ _ _ h hF => ⟨h.2.1, hF⟩
end Jvm.Pilot.@@N@@
namespace Jvm.Pilot.@@N@@
open Jvm Jvm.ClassFile Sem Op Lib Jvm.Free Jvm.Stand Jvm.Pilot.@@N@@.Jvm.D
/-! MADE BY PROGRAM (witnessworld.py) out of the Statement's table words and the real class files: 22 classes; the members and pool entries that the words name. The judged class is class 1, her method 1. -/
namespace start1
open Jvm.ClassFile
def u (s : String) : CpInfo := .utf8 (stringToUtf16 s)
/-- a pool by its gaps: so many unusable entries, then the entry; so many at the end -/
def gap : Nat → List CpInfo → List CpInfo
  | 0, r => r
  | n + 1, r => .unusable :: gap n r
def poolList (es : List (Nat × CpInfo)) (last : Nat) : List CpInfo := es.foldr (fun e r => gap e.1 (e.2 :: r)) (gap last [])
def pool (es : List (Nat × CpInfo)) (last : Nat) : Array CpInfo := ⟨poolList es last⟩
def fileOf (pool : Array CpInfo) (this : Nat) (attrs : Array Attribute := #[]) (ms : Array MethodInfo := #[]) (fl : Nat := 33) (sup : Nat := 0) (ifs : Array Nat := #[]) (fds : Array FieldInfo := #[]) : ClassFile where
  minorVersion := 0
  majorVersion := 65
  constantPool := pool
  accessFlags := fl
  thisClass := this
  superClass := sup
  interfaces := ifs
  fields := fds
  methods := ms
  attributes := attrs
def plain (name : String) (sup : Option ClassId) : Class where
  name := name
  kind := .ordinary
  loader := none
  accessFlags := 33
  super := sup
  interfaces := #[]
  cf := none
  fields := #[]
  methods := #[]
  instanceTypes := #[]
  staticTypes := #[]
  resolved := #[]
  callSites := []
  init := .initialized
  statics := none
  mirror := none

def pool0 : Array CpInfo := pool [(5, u "<init>"), (0, u "()V"), (1, .class_ 10), (1, u "java/lang/Object")] 113

def k0c0 : Code := { maxStack := 0, maxLocals := 1, code := object_method_1_code, exceptionTable := #[], attributes := #[] }
def k0m0 : Method := { name := "<init>", desc := "()V", sig := { parameters := [], returnType := none }, accessFlags := 1, code := some k0c0 }
/-- java/lang/Object -/
def k0 : Class := { plain "java/lang/Object" none with
  accessFlags := 33
  interfaces := #[]
  cf := some (fileOf pool0 8 #[] #[{ accessFlags := 1, nameIndex := 5, descriptorIndex := 6, attributes := #[] }] 33 0 #[] #[])
  fields := #[]
  methods := #[k0m0]
  instanceTypes := #[]
  staticTypes := #[]
  resolved := Array.replicate 124 none
  statics := none }

def pool1 : Array CpInfo := pool [(2, .class_ 4), (1, u "java/lang/Object"), (0, u "<init>"), (0, u "()V"), (0, .class_ 8), (0, u "java/lang/String"), (0, .methodref 7 10), (0, .nameAndType 5 11), (0, u "([C)V"), (0, .methodref 13 14), (0, .class_ 15), (0, .nameAndType 16 17), (0, u "com/example/count_changes/countchanges/model/Tenancy"), (0, u "checkServicePath"), (0, u "(Ljava/lang/String;)Ljava/lang/String;"), (0, .methodref 7 19), (0, .nameAndType 20 21), (0, u "equals"), (0, u "(Ljava/lang/Object;)Z"), (0, .methodref 7 23), (0, .nameAndType 24 25), (0, u "length"), (0, u "()I"), (0, .methodref 7 27), (0, .nameAndType 28 29), (0, u "charAt"), (0, u "(I)C"), (0, .class_ 31), (0, u "com/example/count_changes/countchanges/model/TenancyCheckServicePathPinLaw"), (2, u "law"), (0, u "(IIII)Z")] 3

def k1m0 : Method := { name := "<init>", desc := "()V", sig := { parameters := [], returnType := none }, accessFlags := 1, code := none }
def k1c1 : Code := { maxStack := 6, maxLocals := 10, code := code, exceptionTable := #[], attributes := #[] }
def k1m1 : Method := { name := "law", desc := "(IIII)Z", sig := { parameters := [.int, .int, .int, .int], returnType := some .boolean }, accessFlags := 9, code := some k1c1 }
/-- com/example/count_changes/countchanges/model/TenancyCheckServicePathPinLaw -/
def k1 : Class := { plain "com/example/count_changes/countchanges/model/TenancyCheckServicePathPinLaw" (some 0) with
  accessFlags := 49
  interfaces := #[]
  cf := some (fileOf pool1 30 #[] #[{ accessFlags := 1, nameIndex := 5, descriptorIndex := 6, attributes := #[] }, { accessFlags := 9, nameIndex := 34, descriptorIndex := 35, attributes := #[] }] 49 2 #[] #[])
  fields := #[]
  methods := #[k1m0, k1m1]
  instanceTypes := #[]
  staticTypes := #[]
  resolved := Array.replicate 39 none
  statics := none }

def pool2 : Array CpInfo := pool [(1, .class_ 2), (0, u "java/io/Serializable"), (0, .class_ 4), (0, u "java/lang/Object")] 2

/-- java/io/Serializable -/
def k2 : Class := { plain "java/io/Serializable" (some 0) with
  accessFlags := 1537
  interfaces := #[]
  cf := some (fileOf pool2 1 #[] #[] 1537 3 #[] #[])
  fields := #[]
  methods := #[]
  instanceTypes := #[]
  staticTypes := #[]
  resolved := Array.replicate 7 none
  statics := none }

def pool3 : Array CpInfo := pool [(1, .class_ 2), (0, u "java/lang/Comparable"), (0, .class_ 4), (0, u "java/lang/Object")] 7

/-- java/lang/Comparable -/
def k3 : Class := { plain "java/lang/Comparable" (some 0) with
  accessFlags := 1537
  interfaces := #[]
  cf := some (fileOf pool3 1 #[] #[] 1537 3 #[] #[])
  fields := #[]
  methods := #[]
  instanceTypes := #[]
  staticTypes := #[]
  resolved := Array.replicate 12 none
  statics := none }

def pool4 : Array CpInfo := pool [(2, .class_ 4), (1, u "java/lang/CharSequence"), (42, .class_ 48), (0, u "java/lang/CharSequence$1CodePointIterator"), (10, .class_ 60), (0, u "java/lang/CharSequence$1CharIterator"), (5, .class_ 67), (0, u "java/lang/Object")] 63

/-- java/lang/CharSequence -/
def k4 : Class := { plain "java/lang/CharSequence" (some 0) with
  accessFlags := 1537
  interfaces := #[]
  cf := some (fileOf pool4 2 #[.nestMembers #[47, 59]] #[] 1537 66 #[] #[])
  fields := #[]
  methods := #[]
  instanceTypes := #[]
  staticTypes := #[]
  resolved := Array.replicate 131 none
  statics := none }

def pool5 : Array CpInfo := pool [(1, .class_ 2), (0, u "java/lang/constant/Constable"), (0, .class_ 4), (0, u "java/lang/Object")] 6

/-- java/lang/constant/Constable -/
def k5 : Class := { plain "java/lang/constant/Constable" (some 0) with
  accessFlags := 1537
  interfaces := #[]
  cf := some (fileOf pool5 1 #[] #[] 1537 3 #[] #[])
  fields := #[]
  methods := #[]
  instanceTypes := #[]
  staticTypes := #[]
  resolved := Array.replicate 11 none
  statics := none }

def pool6 : Array CpInfo := pool [(1, .class_ 2), (0, u "java/lang/constant/ConstantDesc"), (0, .class_ 4), (0, u "java/lang/Object")] 32

/-- java/lang/constant/ConstantDesc -/
def k6 : Class := { plain "java/lang/constant/ConstantDesc" (some 0) with
  accessFlags := 1537
  interfaces := #[]
  cf := some (fileOf pool6 1 #[] #[] 1537 3 #[] #[])
  fields := #[]
  methods := #[]
  instanceTypes := #[]
  staticTypes := #[]
  resolved := Array.replicate 37 none
  statics := none }

def pool7 : Array CpInfo := pool [(1, .methodref 2 3), (0, .class_ 4), (0, .nameAndType 5 6), (0, u "java/lang/Object"), (0, u "<init>"), (0, u "()V"), (2, .fieldref 10 11), (0, .class_ 12), (0, .nameAndType 13 14), (0, u "java/lang/String"), (0, u "value"), (0, u "[B"), (0, .fieldref 10 16), (0, .nameAndType 17 18), (0, u "coder"), (0, u "B"), (2, u "hash"), (0, u "I"), (2, u "hashIsZero"), (0, u "Z"), (0, .methodref 10 28), (0, .nameAndType 5 29), (0, u "([CIILjava/lang/Void;)V"), (8, .fieldref 10 39), (0, .nameAndType 40 26), (0, u "COMPACT_STRINGS"), (1, .class_ 44), (1, u "java/lang/StringUTF16"), (0, u "compress"), (1, .methodref 42 48), (0, .nameAndType 49 50), (0, u "coderFromArrayLen"), (0, u "([BI)B"), (56, .class_ 109), (1, u "java/lang/StringLatin1"), (32, u "()Z"), (34, .methodref 42 178), (0, .nameAndType 45 179), (0, u "([CII)[B"), (154, u "()I"), (0, .methodref 10 336), (0, .nameAndType 17 337), (0, u "()B"), (25, u "([BI)C"), (12, u "([BI[BII)I"), (14, u "(II)V"), (35, u "(I)C"), (64, .methodref 10 493), (0, .nameAndType 494 142), (0, u "isLatin1"), (0, .methodref 107 496), (0, .nameAndType 497 363), (0, u "charAt"), (3, u "checkIndex"), (3, .methodref 10 506), (0, .nameAndType 507 334), (0, u "length"), (35, u "equals"), (15, .class_ 561), (1, u "jdk/internal/util/ArraysSupport"), (0, u "mismatch"), (10, u "(Ljava/lang/Object;)Z"), (1, .class_ 576), (0, u "java/lang/CharSequence"), (22, u "CASE_INSENSITIVE_ORDER"), (0, u "Ljava/util/Comparator;"), (6, .methodref 559 608), (0, .nameAndType 562 376), (15, .methodref 10 625), (0, .nameAndType 626 627), (0, u "startsWith"), (0, u "(Ljava/lang/String;I)Z"), (382, u "([C)V"), (42, .fieldref 1054 1055), (0, .class_ 1056), (0, .nameAndType 1057 1058), (0, u "jdk/internal/util/Preconditions"), (0, u "SIOOBE_FORMATTER"), (0, u "Ljava/util/function/BiFunction;"), (0, .methodref 1054 1060), (0, .nameAndType 501 1061), (0, u "(IILjava/util/function/BiFunction;)I"), (39, u "serialPersistentFields"), (0, u "[Ljava/io/ObjectStreamField;"), (0, .class_ 1104), (0, u "java/lang/String$CaseInsensitiveComparator"), (1, .class_ 1107), (0, u "java/io/Serializable"), (0, .class_ 1109), (0, u "java/lang/Comparable"), (0, .class_ 1111), (0, u "java/lang/constant/Constable"), (0, .class_ 1113), (0, u "java/lang/constant/ConstantDesc"), (2, u "serialVersionUID"), (0, u "J"), (3, u "REPL"), (0, u "C"), (2, u "LATIN1"), (1, u "UTF16"), (129, u "(Ljava/lang/String;)Z")] 193

def k7m0 : Method := { name := "<init>", desc := "()V", sig := { parameters := [], returnType := none }, accessFlags := 1, code := none }
def k7c1 : Code := { maxStack := 5, maxLocals := 2, code := jdk_42_method_3_code, exceptionTable := #[], attributes := #[] }
def k7m1 : Method := { name := "<init>", desc := "([C)V", sig := { parameters := [(.array .char)], returnType := none }, accessFlags := 1, code := some k7c1 }
def k7c2 : Code := { maxStack := 2, maxLocals := 1, code := jdk_42_method_54_code, exceptionTable := #[], attributes := #[] }
def k7m2 : Method := { name := "length", desc := "()I", sig := { parameters := [], returnType := some .int }, accessFlags := 1, code := some k7c2 }
def k7c3 : Code := { maxStack := 2, maxLocals := 2, code := jdk_42_method_56_code, exceptionTable := #[], attributes := #[] }
def k7m3 : Method := { name := "charAt", desc := "(I)C", sig := { parameters := [.int], returnType := some .char }, accessFlags := 1, code := some k7c3 }
def k7c4 : Code := { maxStack := 2, maxLocals := 3, code := jdk_42_method_66_code, exceptionTable := #[], attributes := #[] }
def k7m4 : Method := { name := "equals", desc := "(Ljava/lang/Object;)Z", sig := { parameters := [(.object "java/lang/Object")], returnType := some .boolean }, accessFlags := 1, code := some k7c4 }
def k7c5 : Code := { maxStack := 5, maxLocals := 8, code := jdk_42_method_75_code, exceptionTable := #[], attributes := #[] }
def k7m5 : Method := { name := "startsWith", desc := "(Ljava/lang/String;I)Z", sig := { parameters := [(.object "java/lang/String"), .int], returnType := some .boolean }, accessFlags := 1, code := some k7c5 }
def k7c6 : Code := { maxStack := 3, maxLocals := 2, code := jdk_42_method_76_code, exceptionTable := #[], attributes := #[] }
def k7m6 : Method := { name := "startsWith", desc := "(Ljava/lang/String;)Z", sig := { parameters := [(.object "java/lang/String")], returnType := some .boolean }, accessFlags := 1, code := some k7c6 }
def k7c7 : Code := { maxStack := 4, maxLocals := 6, code := jdk_42_method_149_code, exceptionTable := #[], attributes := #[] }
def k7m7 : Method := { name := "<init>", desc := "([CIILjava/lang/Void;)V", sig := { parameters := [(.array .char), .int, .int, (.object "java/lang/Void")], returnType := none }, accessFlags := 2, code := some k7c7 }
def k7c8 : Code := { maxStack := 1, maxLocals := 1, code := jdk_42_method_152_code, exceptionTable := #[], attributes := #[] }
def k7m8 : Method := { name := "coder", desc := "()B", sig := { parameters := [], returnType := some .byte }, accessFlags := 0, code := some k7c8 }
def k7c9 : Code := { maxStack := 1, maxLocals := 1, code := jdk_42_method_154_code, exceptionTable := #[], attributes := #[] }
def k7m9 : Method := { name := "isLatin1", desc := "()Z", sig := { parameters := [], returnType := some .boolean }, accessFlags := 0, code := some k7c9 }
def k7c10 : Code := { maxStack := 3, maxLocals := 2, code := jdk_42_method_155_code, exceptionTable := #[], attributes := #[] }
def k7m10 : Method := { name := "checkIndex", desc := "(II)V", sig := { parameters := [.int, .int], returnType := none }, accessFlags := 8, code := some k7c10 }
/-- java/lang/String -/
def k7 : Class := { plain "java/lang/String" (some 0) with
  accessFlags := 49
  interfaces := #[2, 3, 4, 5, 6]
  cf := some (fileOf pool7 10 #[.nestMembers #[1103]] #[{ accessFlags := 1, nameIndex := 5, descriptorIndex := 6, attributes := #[] }, { accessFlags := 1, nameIndex := 5, descriptorIndex := 1010, attributes := #[] }, { accessFlags := 1, nameIndex := 507, descriptorIndex := 334, attributes := #[] }, { accessFlags := 1, nameIndex := 497, descriptorIndex := 427, attributes := #[] }, { accessFlags := 1, nameIndex := 543, descriptorIndex := 573, attributes := #[] }, { accessFlags := 1, nameIndex := 626, descriptorIndex := 627, attributes := #[] }, { accessFlags := 1, nameIndex := 626, descriptorIndex := 1257, attributes := #[] }, { accessFlags := 2, nameIndex := 5, descriptorIndex := 29, attributes := #[] }, { accessFlags := 0, nameIndex := 17, descriptorIndex := 337, attributes := #[] }, { accessFlags := 0, nameIndex := 494, descriptorIndex := 142, attributes := #[] }, { accessFlags := 8, nameIndex := 501, descriptorIndex := 391, attributes := #[] }] 49 2 #[1106, 1108, 575, 1110, 1112] #[{ accessFlags := 18, nameIndex := 13, descriptorIndex := 14, attributes := #[] }, { accessFlags := 18, nameIndex := 17, descriptorIndex := 18, attributes := #[] }, { accessFlags := 2, nameIndex := 21, descriptorIndex := 22, attributes := #[] }, { accessFlags := 2, nameIndex := 25, descriptorIndex := 26, attributes := #[] }, { accessFlags := 26, nameIndex := 1116, descriptorIndex := 1117, attributes := #[] }, { accessFlags := 24, nameIndex := 40, descriptorIndex := 26, attributes := #[] }, { accessFlags := 26, nameIndex := 1101, descriptorIndex := 1102, attributes := #[] }, { accessFlags := 26, nameIndex := 1121, descriptorIndex := 1122, attributes := #[] }, { accessFlags := 25, nameIndex := 599, descriptorIndex := 600, attributes := #[] }, { accessFlags := 24, nameIndex := 1125, descriptorIndex := 18, attributes := #[] }, { accessFlags := 24, nameIndex := 1127, descriptorIndex := 18, attributes := #[] }])
  fields := #[{ name := "value", type := (.array .byte), accessFlags := 18, slot := 0, constantValue := 0 }, { name := "coder", type := .byte, accessFlags := 18, slot := 1, constantValue := 0 }, { name := "hash", type := .int, accessFlags := 2, slot := 2, constantValue := 0 }, { name := "hashIsZero", type := .boolean, accessFlags := 2, slot := 3, constantValue := 0 }, { name := "serialVersionUID", type := .long, accessFlags := 26, slot := 0, constantValue := 0 }, { name := "COMPACT_STRINGS", type := .boolean, accessFlags := 24, slot := 1, constantValue := 0 }, { name := "serialPersistentFields", type := (.array (.object "java/io/ObjectStreamField")), accessFlags := 26, slot := 2, constantValue := 0 }, { name := "REPL", type := .char, accessFlags := 26, slot := 3, constantValue := 0 }, { name := "CASE_INSENSITIVE_ORDER", type := (.object "java/util/Comparator"), accessFlags := 25, slot := 4, constantValue := 0 }, { name := "LATIN1", type := .byte, accessFlags := 24, slot := 5, constantValue := 0 }, { name := "UTF16", type := .byte, accessFlags := 24, slot := 6, constantValue := 0 }]
  methods := #[k7m0, k7m1, k7m2, k7m3, k7m4, k7m5, k7m6, k7m7, k7m8, k7m9, k7m10]
  instanceTypes := #[(.array .byte), .byte, .int, .boolean]
  staticTypes := #[.long, .boolean, (.array (.object "java/io/ObjectStreamField")), .char, (.object "java/util/Comparator"), .byte, .byte]
  resolved := Array.replicate 1451 none
  statics := some 0 }

def pool8 : Array CpInfo := pool [(6, .class_ 8), (1, u "java/lang/Object"), (0, u "<init>"), (0, u "()V"), (1, .class_ 14), (1, u "java/lang/StringUTF16"), (31, u "$assertionsDisabled"), (0, u "Z"), (13, u "HI_BYTE_SHIFT"), (0, u "I"), (2, u "LO_BYTE_SHIFT"), (49, .methodref 12 116), (0, .nameAndType 117 118), (0, u "compress"), (0, u "([CI[BII)I"), (3, u "([CII)[B"), (138, u "coderFromArrayLen"), (0, u "([BI)B"), (106, .class_ 371), (1, u "java/lang/StringUTF16$LinesSpliterator"), (58, u "MAX_LENGTH"), (196, .class_ 628), (0, u "java/lang/StringUTF16$CodePointsSpliterator"), (0, .class_ 630), (0, u "java/lang/StringUTF16$CharsSpliterator")] 4

def k8m0 : Method := { name := "<init>", desc := "()V", sig := { parameters := [], returnType := none }, accessFlags := 0, code := none }
def k8c1 : Code := { maxStack := 2, maxLocals := 2, code := jdk_52_method_15_code, exceptionTable := #[], attributes := #[] }
def k8m1 : Method := { name := "coderFromArrayLen", desc := "([BI)B", sig := { parameters := [(.array .byte), .int], returnType := some .byte }, accessFlags := 8, code := some k8c1 }
def k8c2 : Code := { maxStack := 5, maxLocals := 6, code := jdk_52_method_16_code, exceptionTable := #[], attributes := #[] }
def k8m2 : Method := { name := "compress", desc := "([CII)[B", sig := { parameters := [(.array .char), .int, .int], returnType := some (.array .byte) }, accessFlags := 9, code := some k8c2 }
def k8c3 : Code := { maxStack := 3, maxLocals := 7, code := jdk_52_method_21_code, exceptionTable := #[], attributes := #[] }
def k8m3 : Method := { name := "compress", desc := "([CI[BII)I", sig := { parameters := [(.array .char), .int, (.array .byte), .int, .int], returnType := some .int }, accessFlags := 9, code := some k8c3 }
/-- java/lang/StringUTF16 -/
def k8 : Class := { plain "java/lang/StringUTF16" (some 0) with
  accessFlags := 48
  interfaces := #[]
  cf := some (fileOf pool8 12 #[.nestMembers #[627, 629, 369]] #[{ accessFlags := 0, nameIndex := 9, descriptorIndex := 10, attributes := #[] }, { accessFlags := 8, nameIndex := 261, descriptorIndex := 262, attributes := #[] }, { accessFlags := 9, nameIndex := 117, descriptorIndex := 122, attributes := #[] }, { accessFlags := 9, nameIndex := 117, descriptorIndex := 118, attributes := #[] }] 48 6 #[] #[{ accessFlags := 26, nameIndex := 61, descriptorIndex := 62, attributes := #[] }, { accessFlags := 26, nameIndex := 65, descriptorIndex := 62, attributes := #[] }, { accessFlags := 24, nameIndex := 430, descriptorIndex := 62, attributes := #[] }, { accessFlags := 4120, nameIndex := 46, descriptorIndex := 47, attributes := #[] }])
  fields := #[{ name := "HI_BYTE_SHIFT", type := .int, accessFlags := 26, slot := 0, constantValue := 0 }, { name := "LO_BYTE_SHIFT", type := .int, accessFlags := 26, slot := 1, constantValue := 0 }, { name := "MAX_LENGTH", type := .int, accessFlags := 24, slot := 2, constantValue := 0 }, { name := "$assertionsDisabled", type := .boolean, accessFlags := 4120, slot := 3, constantValue := 0 }]
  methods := #[k8m0, k8m1, k8m2, k8m3]
  instanceTypes := #[]
  staticTypes := #[.int, .int, .int, .boolean]
  resolved := Array.replicate 635 none
  statics := none }

def pool9 : Array CpInfo := pool [(2, .class_ 4), (1, u "java/lang/Object"), (0, u "<init>"), (0, u "()V"), (0, .class_ 8), (0, u "java/lang/Record")] 13

def k9m0 : Method := { name := "<init>", desc := "()V", sig := { parameters := [], returnType := none }, accessFlags := 4, code := none }
/-- java/lang/Record -/
def k9 : Class := { plain "java/lang/Record" (some 0) with
  accessFlags := 1057
  interfaces := #[]
  cf := some (fileOf pool9 7 #[] #[{ accessFlags := 4, nameIndex := 5, descriptorIndex := 6, attributes := #[] }] 1057 2 #[] #[])
  fields := #[]
  methods := #[k9m0]
  instanceTypes := #[]
  staticTypes := #[]
  resolved := Array.replicate 22 none
  statics := none }

def pool10 : Array CpInfo := pool [(2, .class_ 4), (1, u "java/lang/Record"), (3, u "service"), (0, .methodref 10 11), (0, .class_ 12), (0, .nameAndType 13 14), (0, u "java/util/Objects"), (0, u "requireNonNull"), (0, u "(Ljava/lang/Object;Ljava/lang/String;)Ljava/lang/Object;"), (1, .class_ 18), (1, u "com/example/count_changes/countchanges/model/Tenancy"), (0, u "checkServicePath"), (0, u "(Ljava/lang/String;)Ljava/lang/String;"), (2, u "Ljava/lang/String;"), (2, u "servicePath"), (0, .string 26), (0, .string 29), (0, u "/"), (0, .methodref 31 32), (0, .class_ 33), (0, .nameAndType 34 35), (0, u "java/lang/String"), (0, u "startsWith"), (0, u "(Ljava/lang/String;)Z")] 57

def k10c0 : Code := { maxStack := 3, maxLocals := 1, code := prog_10_method_2_code, exceptionTable := #[], attributes := #[] }
def k10m0 : Method := { name := "checkServicePath", desc := "(Ljava/lang/String;)Ljava/lang/String;", sig := { parameters := [(.object "java/lang/String")], returnType := some (.object "java/lang/String") }, accessFlags := 9, code := some k10c0 }
/-- com/example/count_changes/countchanges/model/Tenancy -/
def k10 : Class := { plain "com/example/count_changes/countchanges/model/Tenancy" (some 9) with
  accessFlags := 49
  interfaces := #[]
  cf := some (fileOf pool10 16 #[] #[{ accessFlags := 9, nameIndex := 19, descriptorIndex := 20, attributes := #[] }] 49 2 #[] #[{ accessFlags := 18, nameIndex := 8, descriptorIndex := 23, attributes := #[] }, { accessFlags := 18, nameIndex := 26, descriptorIndex := 23, attributes := #[] }])
  fields := #[{ name := "service", type := (.object "java/lang/String"), accessFlags := 18, slot := 0, constantValue := 0 }, { name := "servicePath", type := (.object "java/lang/String"), accessFlags := 18, slot := 1, constantValue := 0 }]
  methods := #[k10m0]
  instanceTypes := #[(.object "java/lang/String"), (.object "java/lang/String")]
  staticTypes := #[]
  resolved := Array.replicate 93 none
  statics := none }

def pool11 : Array CpInfo := pool [(2, .class_ 4), (1, u "java/lang/Object"), (0, u "<init>"), (0, u "()V"), (35, .class_ 44), (1, u "java/util/Objects"), (0, u "requireNonNull"), (48, u "(Ljava/lang/Object;Ljava/lang/String;)Ljava/lang/Object;")] 89

def k11m0 : Method := { name := "<init>", desc := "()V", sig := { parameters := [], returnType := none }, accessFlags := 2, code := none }
def k11c1 : Code := { maxStack := 3, maxLocals := 2, code := jdk_31_method_11_code, exceptionTable := #[], attributes := #[] }
def k11m1 : Method := { name := "requireNonNull", desc := "(Ljava/lang/Object;Ljava/lang/String;)Ljava/lang/Object;", sig := { parameters := [(.object "java/lang/Object"), (.object "java/lang/String")], returnType := some (.object "java/lang/Object") }, accessFlags := 9, code := some k11c1 }
/-- java/util/Objects -/
def k11 : Class := { plain "java/util/Objects" (some 0) with
  accessFlags := 49
  interfaces := #[]
  cf := some (fileOf pool11 42 #[] #[{ accessFlags := 2, nameIndex := 5, descriptorIndex := 6, attributes := #[] }, { accessFlags := 9, nameIndex := 45, descriptorIndex := 94, attributes := #[] }] 49 2 #[] #[])
  fields := #[]
  methods := #[k11m0, k11m1]
  instanceTypes := #[]
  staticTypes := #[]
  resolved := Array.replicate 184 none
  statics := none }

def pool12 : Array CpInfo := pool [(9, u "<init>"), (6, .class_ 18), (1, u "java/lang/Object"), (0, u "()V"), (1, .class_ 23), (1, u "jdk/internal/util/ArraysSupport"), (0, u "LOG2_ARRAY_LONG_INDEX_SCALE"), (0, u "I"), (2, u "U"), (0, u "Ljdk/internal/misc/Unsafe;"), (8, u "BIG_ENDIAN"), (0, u "Z"), (8, u "LOG2_BYTE_BIT_SIZE"), (4, u "LOG2_ARRAY_INT_INDEX_SCALE"), (54, u "JLA"), (0, u "Ljdk/internal/access/JavaLangAccess;"), (11, u "LOG2_ARRAY_BOOLEAN_INDEX_SCALE"), (9, u "LOG2_ARRAY_BYTE_INDEX_SCALE"), (5, u "LOG2_ARRAY_CHAR_INDEX_SCALE"), (5, u "LOG2_ARRAY_SHORT_INDEX_SCALE"), (5, u "mismatch"), (12, u "LOG2_ARRAY_FLOAT_INDEX_SCALE"), (24, u "LOG2_ARRAY_DOUBLE_INDEX_SCALE"), (89, u "T_BOOLEAN"), (2, u "T_CHAR"), (1, u "T_FLOAT"), (1, u "T_DOUBLE"), (1, u "T_BYTE"), (1, u "T_SHORT"), (1, u "T_INT"), (1, u "T_LONG"), (1, u "SOFT_MAX_ARRAY_LENGTH"), (42, u "([BI[BII)I")] 40

def k12m0 : Method := { name := "<init>", desc := "()V", sig := { parameters := [], returnType := none }, accessFlags := 2, code := none }
def k12c1 : Code := { maxStack := 8, maxLocals := 8, code := jdk_48_method_14_code, exceptionTable := #[], attributes := #[] }
def k12m1 : Method := { name := "mismatch", desc := "([BI[BII)I", sig := { parameters := [(.array .byte), .int, (.array .byte), .int, .int], returnType := some .int }, accessFlags := 9, code := some k12c1 }
/-- jdk/internal/util/ArraysSupport -/
def k12 : Class := { plain "jdk/internal/util/ArraysSupport" (some 0) with
  accessFlags := 33
  interfaces := #[]
  cf := some (fileOf pool12 21 #[] #[{ accessFlags := 2, nameIndex := 9, descriptorIndex := 19, attributes := #[] }, { accessFlags := 9, nameIndex := 149, descriptorIndex := 337, attributes := #[] }] 33 16 #[] #[{ accessFlags := 24, nameIndex := 28, descriptorIndex := 29, attributes := #[] }, { accessFlags := 26, nameIndex := 38, descriptorIndex := 39, attributes := #[] }, { accessFlags := 25, nameIndex := 121, descriptorIndex := 25, attributes := #[] }, { accessFlags := 25, nameIndex := 131, descriptorIndex := 25, attributes := #[] }, { accessFlags := 25, nameIndex := 137, descriptorIndex := 25, attributes := #[] }, { accessFlags := 25, nameIndex := 143, descriptorIndex := 25, attributes := #[] }, { accessFlags := 25, nameIndex := 53, descriptorIndex := 25, attributes := #[] }, { accessFlags := 25, nameIndex := 24, descriptorIndex := 25, attributes := #[] }, { accessFlags := 25, nameIndex := 162, descriptorIndex := 25, attributes := #[] }, { accessFlags := 25, nameIndex := 187, descriptorIndex := 25, attributes := #[] }, { accessFlags := 26, nameIndex := 48, descriptorIndex := 25, attributes := #[] }, { accessFlags := 25, nameIndex := 277, descriptorIndex := 25, attributes := #[] }, { accessFlags := 25, nameIndex := 280, descriptorIndex := 25, attributes := #[] }, { accessFlags := 25, nameIndex := 282, descriptorIndex := 25, attributes := #[] }, { accessFlags := 25, nameIndex := 284, descriptorIndex := 25, attributes := #[] }, { accessFlags := 25, nameIndex := 286, descriptorIndex := 25, attributes := #[] }, { accessFlags := 25, nameIndex := 288, descriptorIndex := 25, attributes := #[] }, { accessFlags := 25, nameIndex := 290, descriptorIndex := 25, attributes := #[] }, { accessFlags := 25, nameIndex := 292, descriptorIndex := 25, attributes := #[] }, { accessFlags := 26, nameIndex := 108, descriptorIndex := 109, attributes := #[] }, { accessFlags := 25, nameIndex := 294, descriptorIndex := 25, attributes := #[] }])
  fields := #[{ name := "U", type := (.object "jdk/internal/misc/Unsafe"), accessFlags := 24, slot := 0, constantValue := 0 }, { name := "BIG_ENDIAN", type := .boolean, accessFlags := 26, slot := 1, constantValue := 0 }, { name := "LOG2_ARRAY_BOOLEAN_INDEX_SCALE", type := .int, accessFlags := 25, slot := 2, constantValue := 0 }, { name := "LOG2_ARRAY_BYTE_INDEX_SCALE", type := .int, accessFlags := 25, slot := 3, constantValue := 0 }, { name := "LOG2_ARRAY_CHAR_INDEX_SCALE", type := .int, accessFlags := 25, slot := 4, constantValue := 0 }, { name := "LOG2_ARRAY_SHORT_INDEX_SCALE", type := .int, accessFlags := 25, slot := 5, constantValue := 0 }, { name := "LOG2_ARRAY_INT_INDEX_SCALE", type := .int, accessFlags := 25, slot := 6, constantValue := 0 }, { name := "LOG2_ARRAY_LONG_INDEX_SCALE", type := .int, accessFlags := 25, slot := 7, constantValue := 0 }, { name := "LOG2_ARRAY_FLOAT_INDEX_SCALE", type := .int, accessFlags := 25, slot := 8, constantValue := 0 }, { name := "LOG2_ARRAY_DOUBLE_INDEX_SCALE", type := .int, accessFlags := 25, slot := 9, constantValue := 0 }, { name := "LOG2_BYTE_BIT_SIZE", type := .int, accessFlags := 26, slot := 10, constantValue := 0 }, { name := "T_BOOLEAN", type := .int, accessFlags := 25, slot := 11, constantValue := 0 }, { name := "T_CHAR", type := .int, accessFlags := 25, slot := 12, constantValue := 0 }, { name := "T_FLOAT", type := .int, accessFlags := 25, slot := 13, constantValue := 0 }, { name := "T_DOUBLE", type := .int, accessFlags := 25, slot := 14, constantValue := 0 }, { name := "T_BYTE", type := .int, accessFlags := 25, slot := 15, constantValue := 0 }, { name := "T_SHORT", type := .int, accessFlags := 25, slot := 16, constantValue := 0 }, { name := "T_INT", type := .int, accessFlags := 25, slot := 17, constantValue := 0 }, { name := "T_LONG", type := .int, accessFlags := 25, slot := 18, constantValue := 0 }, { name := "JLA", type := (.object "jdk/internal/access/JavaLangAccess"), accessFlags := 26, slot := 19, constantValue := 0 }, { name := "SOFT_MAX_ARRAY_LENGTH", type := .int, accessFlags := 25, slot := 20, constantValue := 0 }]
  methods := #[k12m0, k12m1]
  instanceTypes := #[]
  staticTypes := #[(.object "jdk/internal/misc/Unsafe"), .boolean, .int, .int, .int, .int, .int, .int, .int, .int, .int, .int, .int, .int, .int, .int, .int, .int, .int, (.object "jdk/internal/access/JavaLangAccess"), .int]
  resolved := Array.replicate 378 none
  statics := none }

def pool13 : Array CpInfo := pool [(1, .class_ 2), (0, u "java/lang/String"), (1, .class_ 6), (1, u "java/lang/Object"), (0, u "<init>"), (0, u "()V"), (0, .methodref 1 10), (0, .nameAndType 11 12), (0, u "checkIndex"), (0, u "(II)V"), (1, .class_ 16), (1, u "java/lang/StringLatin1"), (36, u "([BI)C"), (67, u "$assertionsDisabled"), (0, u "Z"), (98, .class_ 223), (1, u "java/lang/StringLatin1$LinesSpliterator"), (28, u "charAt"), (137, .class_ 391), (0, u "java/lang/StringLatin1$CharsSpliterator")] 3

def k13m0 : Method := { name := "<init>", desc := "()V", sig := { parameters := [], returnType := none }, accessFlags := 0, code := none }
def k13c1 : Code := { maxStack := 2, maxLocals := 2, code := jdk_43_method_2_code, exceptionTable := #[], attributes := #[] }
def k13m1 : Method := { name := "charAt", desc := "([BI)C", sig := { parameters := [(.array .byte), .int], returnType := some .char }, accessFlags := 9, code := some k13c1 }
/-- java/lang/StringLatin1 -/
def k13 : Class := { plain "java/lang/StringLatin1" (some 0) with
  accessFlags := 48
  interfaces := #[]
  cf := some (fileOf pool13 14 #[.nestMembers #[390, 221]] #[{ accessFlags := 0, nameIndex := 7, descriptorIndex := 8, attributes := #[] }, { accessFlags := 9, nameIndex := 252, descriptorIndex := 53, attributes := #[] }] 48 4 #[] #[{ accessFlags := 4120, nameIndex := 121, descriptorIndex := 122, attributes := #[] }])
  fields := #[{ name := "$assertionsDisabled", type := .boolean, accessFlags := 4120, slot := 0, constantValue := 0 }]
  methods := #[k13m0, k13m1]
  instanceTypes := #[]
  staticTypes := #[.boolean]
  resolved := Array.replicate 395 none
  statics := none }

def pool14 : Array CpInfo := pool [(2, .class_ 4), (1, u "java/lang/Object"), (0, u "<init>"), (0, u "()V"), (17, .class_ 26), (1, u "jdk/internal/util/Preconditions"), (6, u "checkIndex"), (21, .class_ 56), (0, u "jdk/internal/util/Preconditions$4"), (57, .class_ 115), (0, u "jdk/internal/util/Preconditions$1"), (7, u "SIOOBE_FORMATTER"), (0, u "Ljava/util/function/BiFunction;"), (0, .class_ 126), (0, u "jdk/internal/util/Preconditions$2"), (3, u "AIOOBE_FORMATTER"), (0, .class_ 132), (0, u "jdk/internal/util/Preconditions$3"), (3, u "IOOBE_FORMATTER"), (41, u "(IILjava/util/function/BiFunction;)I")] 15

def k14m0 : Method := { name := "<init>", desc := "()V", sig := { parameters := [], returnType := none }, accessFlags := 1, code := none }
def k14c1 : Code := { maxStack := 3, maxLocals := 3, code := jdk_41_method_11_code, exceptionTable := #[], attributes := #[] }
def k14m1 : Method := { name := "checkIndex", desc := "(IILjava/util/function/BiFunction;)I", sig := { parameters := [.int, .int, (.object "java/util/function/BiFunction")], returnType := some .int }, accessFlags := 9, code := some k14c1 }
/-- jdk/internal/util/Preconditions -/
def k14 : Class := { plain "jdk/internal/util/Preconditions" (some 0) with
  accessFlags := 33
  interfaces := #[]
  cf := some (fileOf pool14 24 #[.nestMembers #[55, 131, 125, 114]] #[{ accessFlags := 1, nameIndex := 5, descriptorIndex := 6, attributes := #[] }, { accessFlags := 9, nameIndex := 33, descriptorIndex := 178, attributes := #[] }] 33 2 #[] #[{ accessFlags := 25, nameIndex := 123, descriptorIndex := 124, attributes := #[] }, { accessFlags := 25, nameIndex := 130, descriptorIndex := 124, attributes := #[] }, { accessFlags := 25, nameIndex := 136, descriptorIndex := 124, attributes := #[] }])
  fields := #[{ name := "SIOOBE_FORMATTER", type := (.object "java/util/function/BiFunction"), accessFlags := 25, slot := 0, constantValue := 0 }, { name := "AIOOBE_FORMATTER", type := (.object "java/util/function/BiFunction"), accessFlags := 25, slot := 1, constantValue := 0 }, { name := "IOOBE_FORMATTER", type := (.object "java/util/function/BiFunction"), accessFlags := 25, slot := 2, constantValue := 0 }]
  methods := #[k14m0, k14m1]
  instanceTypes := #[]
  staticTypes := #[(.object "java/util/function/BiFunction"), (.object "java/util/function/BiFunction"), (.object "java/util/function/BiFunction")]
  resolved := Array.replicate 194 none
  statics := some 1 }

def pool15 : Array CpInfo := pool [(1, u "java/lang/Cloneable"), (0, .class_ 1), (0, u "java/lang/Object"), (0, .class_ 3)] 3

/-- java/lang/Cloneable -/
def k15 : Class := { plain "java/lang/Cloneable" (some 0) with
  accessFlags := 1537
  interfaces := #[]
  cf := some (fileOf pool15 2 #[] #[] 1537 4 #[] #[])
  fields := #[]
  methods := #[]
  instanceTypes := #[]
  staticTypes := #[]
  resolved := Array.replicate 8 none
  statics := none }

/-- the primitive byte -/
def k16 : Class := { plain "byte" none with kind := .primitive 'B', accessFlags := 0x411 }
/-- [B -/
def k17 : Class := { plain "[B" (some 0) with kind := .array 16 .byte, interfaces := #[15, 2], accessFlags := 1041 }

/-- the primitive char -/
def k18 : Class := { plain "char" none with kind := .primitive 'C', accessFlags := 0x411 }
/-- [C -/
def k19 : Class := { plain "[C" (some 0) with kind := .array 18 .char, interfaces := #[15, 2], accessFlags := 1041 }

/-- the primitive int -/
def k20 : Class := { plain "int" none with kind := .primitive 'I', accessFlags := 0x411 }
/-- [I -/
def k21 : Class := { plain "[I" (some 0) with kind := .array 20 .int, interfaces := #[15, 2], accessFlags := 1041 }

def heap : Heap := #[{ cls := 7, slots := #[.long 0, .int 1, .null, .int 0, .null, .int 0, .int 0], vm := .statics 7 },
  { cls := 14, slots := #[.null, .null, .null], vm := .statics 14 }]
def classes : Array Class := #[k0, k1, k2, k3, k4, k5, k6, k7, k8, k9, k10, k11, k12, k13, k14, k15, k16, k17, k18, k19, k20, k21]
def interned : List (Array UInt16 × Addr) := []
def slotsUsed : Nat := 10
def theMethod : MethodId := ⟨1, 1⟩
def args0 : Array Value := #[.int 5, .int 5, .int 5, .int 5]
def aboutOver (below : List Frame) : State where
  vm := { classes := classes, interned := interned.toArray }
  heap := heap
  slotsUsed := slotsUsed
  threads := #[{ frames := .invoking theMethod args0 :: below }]
def below0 : List Frame := [.native { method := ⟨0, 0⟩, args := #[] }]
def about1 : State := aboutOver below0
def p0 : Program := .bare "" "" ""
def e0 : Env := launch0.env 0 0 0
theorem w_frames : about1.frames = Frame.invoking theMethod args0 :: below0 := rfl
set_option maxRecDepth 65536 in
theorem w_args : argsFit about1.vm theMethod args0 = true := by decide +kernel
set_option maxRecDepth 65536 in
theorem w_heap : heapFits about1 = true := by decide +kernel
set_option maxRecDepth 65536 in
theorem w_runnable : about1.curStatus? = some .runnable := by decide +kernel
set_option maxRecDepth 65536 in
theorem w_alone : about1.alone = true := by decide +kernel
set_option maxRecDepth 65536 in
theorem w_named : about1.methodNamed? x = some theMethod := by decide +kernel
set_option maxRecDepth 65536 in
theorem w_hears : about1.hears theMethod below0 = true := by decide +kernel
set_option maxRecDepth 65536 in
theorem w_ripe : about1.ripe theMethod args0 below0 = true := by decide +kernel
theorem w_running : about1.status = .running := rfl
set_option maxRecDepth 65536 in
theorem w_room : about1.hasRoom e0.platform room_1 = true :=
  launch0.hasRoom_least _ room_1 (by decide +kernel) (by decide +kernel) (by decide +kernel) (by decide +kernel) (by decide +kernel) (by decide +kernel)
theorem allAtoms_all (ts : List Jvm.Cond) (a : Array Jvm.Value) (st : Jvm.State) : (allAtoms ts).before a st = ts.all (fun c => c.before a st) := by
  induction ts with
  | nil => rfl
  | cons c t ih =>
    show (Jvm.Cond.and c (allAtoms t)).before a st = _
    rw [Jvm.Cond.before_and, ih, List.all_cons]
def words1 : List Jvm.Cond := Jvm.Cond.code x code maxLocals ret :: tables_1
/-- a 'code' word, met by the world's own term for the bytes: nothing is compared byte by byte -/
theorem code_word {y : MethodName} {bytes : ByteArray} {mx : Nat} {rt : Option FieldType} {a : Array Value} {s : State} {m : MethodId} {meth : Method} {c : Code} (h1 : s.methodNamed? y = some m) (h2 : s.vm.method? m = some meth) (h3 : meth.code = some c) (h4 : c.code = bytes)
    (h5 : (c.maxLocals == mx && c.exceptionTable.isEmpty && decide (c.maxStack ≤ mostOperands) && decide (meth.sig.returnType = rt) && !meth.locks && decide (parseMethodDescriptor y.desc = some meth.sig)) = true) : (Jvm.Cond.code y bytes mx rt).before a s = true := by
  simp only [Bool.and_eq_true, beq_iff_eq, Bool.not_eq_true', decide_eq_true_eq] at h5
  obtain ⟨⟨⟨⟨⟨g1, g2⟩, g3⟩, g4⟩, g5⟩, g6⟩ := h5
  simp [Cond.before, Cond.holds, Cond.value, h1, h2, h3, h4, g1, g2, g3, g4, g5, g6]
def isCode : Jvm.Cond → Bool
  | .code _ _ _ _ => true
  | _ => false
theorem all_split {L : List Jvm.Cond} {P : Jvm.Cond → Bool} (h1 : L.all (fun c => isCode c || P c) = true) (h2 : ∀ c ∈ L.filter isCode, P c = true) : L.all P = true := by
  refine List.all_eq_true.mpr fun c hc => ?_
  have h := List.all_eq_true.mp h1 c hc
  rcases Bool.eq_false_or_eq_true (isCode c) with hi | hi
  · exact h2 c (List.mem_filter.mpr ⟨hc, hi⟩)
  · simpa [hi] using h
set_option maxRecDepth 65536 in
theorem w_c0 : (Jvm.Cond.code x code maxLocals ret).before args0 about1 = true := code_word (m := ⟨1, 1⟩) (meth := k1m1) (c := k1c1) (by decide +kernel) rfl rfl rfl (by decide +kernel)
set_option maxRecDepth 65536 in
theorem w_c1 : (Jvm.Cond.code ({ cls := "java/lang/String", name := "<init>", desc := "([C)V" } : Jvm.MethodName) jdk_42_method_3_code (2 : Nat) (Option.none : Option Jvm.ClassFile.FieldType)).before args0 about1 = true := code_word (m := ⟨7, 1⟩) (meth := k7m1) (c := k7c1) (by decide +kernel) rfl rfl rfl (by decide +kernel)
set_option maxRecDepth 65536 in
theorem w_c2 : (Jvm.Cond.code ({ cls := "java/lang/String", name := "<init>", desc := "([CIILjava/lang/Void;)V" } : Jvm.MethodName) jdk_42_method_149_code (6 : Nat) (Option.none : Option Jvm.ClassFile.FieldType)).before args0 about1 = true := code_word (m := ⟨7, 7⟩) (meth := k7m7) (c := k7c7) (by decide +kernel) rfl rfl rfl (by decide +kernel)
set_option maxRecDepth 65536 in
theorem w_c3 : (Jvm.Cond.code ({ cls := "java/lang/Object", name := "<init>", desc := "()V" } : Jvm.MethodName) object_method_1_code (1 : Nat) (Option.none : Option Jvm.ClassFile.FieldType)).before args0 about1 = true := code_word (m := ⟨0, 0⟩) (meth := k0m0) (c := k0c0) (by decide +kernel) rfl rfl rfl (by decide +kernel)
set_option maxRecDepth 65536 in
theorem w_c4 : (Jvm.Cond.code ({ cls := "java/lang/StringUTF16", name := "compress", desc := "([CII)[B" } : Jvm.MethodName) jdk_52_method_16_code (6 : Nat) (Option.some (Jvm.ClassFile.FieldType.array Jvm.ClassFile.FieldType.byte))).before args0 about1 = true := code_word (m := ⟨8, 2⟩) (meth := k8m2) (c := k8c2) (by decide +kernel) rfl rfl rfl (by decide +kernel)
set_option maxRecDepth 65536 in
theorem w_c5 : (Jvm.Cond.code ({ cls := "java/lang/StringUTF16", name := "compress", desc := "([CI[BII)I" } : Jvm.MethodName) jdk_52_method_21_code (7 : Nat) (Option.some Jvm.ClassFile.FieldType.int)).before args0 about1 = true := code_word (m := ⟨8, 3⟩) (meth := k8m3) (c := k8c3) (by decide +kernel) rfl rfl rfl (by decide +kernel)
set_option maxRecDepth 65536 in
theorem w_c6 : (Jvm.Cond.code ({ cls := "java/lang/StringUTF16", name := "coderFromArrayLen", desc := "([BI)B" } : Jvm.MethodName) jdk_52_method_15_code (2 : Nat) (Option.some Jvm.ClassFile.FieldType.byte)).before args0 about1 = true := code_word (m := ⟨8, 1⟩) (meth := k8m1) (c := k8c1) (by decide +kernel) rfl rfl rfl (by decide +kernel)
set_option maxRecDepth 65536 in
theorem w_c7 : (Jvm.Cond.code ({ cls := "com/example/count_changes/countchanges/model/Tenancy", name := "checkServicePath", desc := "(Ljava/lang/String;)Ljava/lang/String;" } : Jvm.MethodName) prog_10_method_2_code (1 : Nat) (Option.some (Jvm.ClassFile.FieldType.object "java/lang/String"))).before args0 about1 = true := code_word (m := ⟨10, 0⟩) (meth := k10m0) (c := k10c0) (by decide +kernel) rfl rfl rfl (by decide +kernel)
set_option maxRecDepth 65536 in
theorem w_c8 : (Jvm.Cond.code ({ cls := "java/util/Objects", name := "requireNonNull", desc := "(Ljava/lang/Object;Ljava/lang/String;)Ljava/lang/Object;" } : Jvm.MethodName) jdk_31_method_11_code (2 : Nat) (Option.some (Jvm.ClassFile.FieldType.object "java/lang/Object"))).before args0 about1 = true := code_word (m := ⟨11, 1⟩) (meth := k11m1) (c := k11c1) (by decide +kernel) rfl rfl rfl (by decide +kernel)
set_option maxRecDepth 65536 in
theorem w_c9 : (Jvm.Cond.code ({ cls := "java/lang/String", name := "startsWith", desc := "(Ljava/lang/String;)Z" } : Jvm.MethodName) jdk_42_method_76_code (2 : Nat) (Option.some Jvm.ClassFile.FieldType.boolean)).before args0 about1 = true := code_word (m := ⟨7, 6⟩) (meth := k7m6) (c := k7c6) (by decide +kernel) rfl rfl rfl (by decide +kernel)
set_option maxRecDepth 65536 in
theorem w_c10 : (Jvm.Cond.code ({ cls := "java/lang/String", name := "startsWith", desc := "(Ljava/lang/String;I)Z" } : Jvm.MethodName) jdk_42_method_75_code (8 : Nat) (Option.some Jvm.ClassFile.FieldType.boolean)).before args0 about1 = true := code_word (m := ⟨7, 5⟩) (meth := k7m5) (c := k7c5) (by decide +kernel) rfl rfl rfl (by decide +kernel)
set_option maxRecDepth 65536 in
theorem w_c11 : (Jvm.Cond.code ({ cls := "java/lang/String", name := "length", desc := "()I" } : Jvm.MethodName) jdk_42_method_54_code (1 : Nat) (Option.some Jvm.ClassFile.FieldType.int)).before args0 about1 = true := code_word (m := ⟨7, 2⟩) (meth := k7m2) (c := k7c2) (by decide +kernel) rfl rfl rfl (by decide +kernel)
set_option maxRecDepth 65536 in
theorem w_c12 : (Jvm.Cond.code ({ cls := "java/lang/String", name := "coder", desc := "()B" } : Jvm.MethodName) jdk_42_method_152_code (1 : Nat) (Option.some Jvm.ClassFile.FieldType.byte)).before args0 about1 = true := code_word (m := ⟨7, 8⟩) (meth := k7m8) (c := k7c8) (by decide +kernel) rfl rfl rfl (by decide +kernel)
set_option maxRecDepth 65536 in
theorem w_c13 : (Jvm.Cond.code ({ cls := "jdk/internal/util/ArraysSupport", name := "mismatch", desc := "([BI[BII)I" } : Jvm.MethodName) jdk_48_method_14_code (8 : Nat) (Option.some Jvm.ClassFile.FieldType.int)).before args0 about1 = true := code_word (m := ⟨12, 1⟩) (meth := k12m1) (c := k12c1) (by decide +kernel) rfl rfl rfl (by decide +kernel)
set_option maxRecDepth 65536 in
theorem w_c14 : (Jvm.Cond.code ({ cls := "java/lang/String", name := "equals", desc := "(Ljava/lang/Object;)Z" } : Jvm.MethodName) jdk_42_method_66_code (3 : Nat) (Option.some Jvm.ClassFile.FieldType.boolean)).before args0 about1 = true := code_word (m := ⟨7, 4⟩) (meth := k7m4) (c := k7c4) (by decide +kernel) rfl rfl rfl (by decide +kernel)
set_option maxRecDepth 65536 in
theorem w_c15 : (Jvm.Cond.code ({ cls := "java/lang/String", name := "charAt", desc := "(I)C" } : Jvm.MethodName) jdk_42_method_56_code (2 : Nat) (Option.some Jvm.ClassFile.FieldType.char)).before args0 about1 = true := code_word (m := ⟨7, 3⟩) (meth := k7m3) (c := k7c3) (by decide +kernel) rfl rfl rfl (by decide +kernel)
set_option maxRecDepth 65536 in
theorem w_c16 : (Jvm.Cond.code ({ cls := "java/lang/String", name := "isLatin1", desc := "()Z" } : Jvm.MethodName) jdk_42_method_154_code (1 : Nat) (Option.some Jvm.ClassFile.FieldType.boolean)).before args0 about1 = true := code_word (m := ⟨7, 9⟩) (meth := k7m9) (c := k7c9) (by decide +kernel) rfl rfl rfl (by decide +kernel)
set_option maxRecDepth 65536 in
theorem w_c17 : (Jvm.Cond.code ({ cls := "java/lang/StringLatin1", name := "charAt", desc := "([BI)C" } : Jvm.MethodName) jdk_43_method_2_code (2 : Nat) (Option.some Jvm.ClassFile.FieldType.char)).before args0 about1 = true := code_word (m := ⟨13, 1⟩) (meth := k13m1) (c := k13c1) (by decide +kernel) rfl rfl rfl (by decide +kernel)
set_option maxRecDepth 65536 in
theorem w_c18 : (Jvm.Cond.code ({ cls := "java/lang/String", name := "checkIndex", desc := "(II)V" } : Jvm.MethodName) jdk_42_method_155_code (2 : Nat) (Option.none : Option Jvm.ClassFile.FieldType)).before args0 about1 = true := code_word (m := ⟨7, 10⟩) (meth := k7m10) (c := k7c10) (by decide +kernel) rfl rfl rfl (by decide +kernel)
set_option maxRecDepth 65536 in
theorem w_c19 : (Jvm.Cond.code ({ cls := "jdk/internal/util/Preconditions", name := "checkIndex", desc := "(IILjava/util/function/BiFunction;)I" } : Jvm.MethodName) jdk_41_method_11_code (3 : Nat) (Option.some Jvm.ClassFile.FieldType.int)).before args0 about1 = true := code_word (m := ⟨14, 1⟩) (meth := k14m1) (c := k14c1) (by decide +kernel) rfl rfl rfl (by decide +kernel)
def codes1 : List Jvm.Cond := [Jvm.Cond.code x code maxLocals ret, Jvm.Cond.code ({ cls := "java/lang/String", name := "<init>", desc := "([C)V" } : Jvm.MethodName) jdk_42_method_3_code (2 : Nat) (Option.none : Option Jvm.ClassFile.FieldType), Jvm.Cond.code ({ cls := "java/lang/String", name := "<init>", desc := "([CIILjava/lang/Void;)V" } : Jvm.MethodName) jdk_42_method_149_code (6 : Nat) (Option.none : Option Jvm.ClassFile.FieldType), Jvm.Cond.code ({ cls := "java/lang/Object", name := "<init>", desc := "()V" } : Jvm.MethodName) object_method_1_code (1 : Nat) (Option.none : Option Jvm.ClassFile.FieldType), Jvm.Cond.code ({ cls := "java/lang/StringUTF16", name := "compress", desc := "([CII)[B" } : Jvm.MethodName) jdk_52_method_16_code (6 : Nat) (Option.some (Jvm.ClassFile.FieldType.array Jvm.ClassFile.FieldType.byte)), Jvm.Cond.code ({ cls := "java/lang/StringUTF16", name := "compress", desc := "([CI[BII)I" } : Jvm.MethodName) jdk_52_method_21_code (7 : Nat) (Option.some Jvm.ClassFile.FieldType.int), Jvm.Cond.code ({ cls := "java/lang/StringUTF16", name := "coderFromArrayLen", desc := "([BI)B" } : Jvm.MethodName) jdk_52_method_15_code (2 : Nat) (Option.some Jvm.ClassFile.FieldType.byte), Jvm.Cond.code ({ cls := "com/example/count_changes/countchanges/model/Tenancy", name := "checkServicePath", desc := "(Ljava/lang/String;)Ljava/lang/String;" } : Jvm.MethodName) prog_10_method_2_code (1 : Nat) (Option.some (Jvm.ClassFile.FieldType.object "java/lang/String")), Jvm.Cond.code ({ cls := "java/util/Objects", name := "requireNonNull", desc := "(Ljava/lang/Object;Ljava/lang/String;)Ljava/lang/Object;" } : Jvm.MethodName) jdk_31_method_11_code (2 : Nat) (Option.some (Jvm.ClassFile.FieldType.object "java/lang/Object")), Jvm.Cond.code ({ cls := "java/lang/String", name := "startsWith", desc := "(Ljava/lang/String;)Z" } : Jvm.MethodName) jdk_42_method_76_code (2 : Nat) (Option.some Jvm.ClassFile.FieldType.boolean), Jvm.Cond.code ({ cls := "java/lang/String", name := "startsWith", desc := "(Ljava/lang/String;I)Z" } : Jvm.MethodName) jdk_42_method_75_code (8 : Nat) (Option.some Jvm.ClassFile.FieldType.boolean), Jvm.Cond.code ({ cls := "java/lang/String", name := "length", desc := "()I" } : Jvm.MethodName) jdk_42_method_54_code (1 : Nat) (Option.some Jvm.ClassFile.FieldType.int), Jvm.Cond.code ({ cls := "java/lang/String", name := "coder", desc := "()B" } : Jvm.MethodName) jdk_42_method_152_code (1 : Nat) (Option.some Jvm.ClassFile.FieldType.byte), Jvm.Cond.code ({ cls := "jdk/internal/util/ArraysSupport", name := "mismatch", desc := "([BI[BII)I" } : Jvm.MethodName) jdk_48_method_14_code (8 : Nat) (Option.some Jvm.ClassFile.FieldType.int), Jvm.Cond.code ({ cls := "java/lang/String", name := "equals", desc := "(Ljava/lang/Object;)Z" } : Jvm.MethodName) jdk_42_method_66_code (3 : Nat) (Option.some Jvm.ClassFile.FieldType.boolean), Jvm.Cond.code ({ cls := "java/lang/String", name := "charAt", desc := "(I)C" } : Jvm.MethodName) jdk_42_method_56_code (2 : Nat) (Option.some Jvm.ClassFile.FieldType.char), Jvm.Cond.code ({ cls := "java/lang/String", name := "isLatin1", desc := "()Z" } : Jvm.MethodName) jdk_42_method_154_code (1 : Nat) (Option.some Jvm.ClassFile.FieldType.boolean), Jvm.Cond.code ({ cls := "java/lang/StringLatin1", name := "charAt", desc := "([BI)C" } : Jvm.MethodName) jdk_43_method_2_code (2 : Nat) (Option.some Jvm.ClassFile.FieldType.char), Jvm.Cond.code ({ cls := "java/lang/String", name := "checkIndex", desc := "(II)V" } : Jvm.MethodName) jdk_42_method_155_code (2 : Nat) (Option.none : Option Jvm.ClassFile.FieldType), Jvm.Cond.code ({ cls := "jdk/internal/util/Preconditions", name := "checkIndex", desc := "(IILjava/util/function/BiFunction;)I" } : Jvm.MethodName) jdk_41_method_11_code (3 : Nat) (Option.some Jvm.ClassFile.FieldType.int)]
set_option maxRecDepth 65536 in
theorem codes_eq : words1.filter isCode = codes1 := rfl
theorem w_codes : ∀ c ∈ words1.filter isCode, c.before args0 about1 = true := by
  rw [codes_eq]
  intro c hc
  simp only [codes1, List.mem_cons, List.not_mem_nil, or_false] at hc
  rcases hc with rfl | rfl | rfl | rfl | rfl | rfl | rfl | rfl | rfl | rfl | rfl | rfl | rfl | rfl | rfl | rfl | rfl | rfl | rfl | rfl
  · exact w_c0
  · exact w_c1
  · exact w_c2
  · exact w_c3
  · exact w_c4
  · exact w_c5
  · exact w_c6
  · exact w_c7
  · exact w_c8
  · exact w_c9
  · exact w_c10
  · exact w_c11
  · exact w_c12
  · exact w_c13
  · exact w_c14
  · exact w_c15
  · exact w_c16
  · exact w_c17
  · exact w_c18
  · exact w_c19
set_option maxRecDepth 65536 in
theorem w_t1 : (words1.take 24).all (fun c => isCode c || c.before args0 about1) = true := by decide +kernel
set_option maxRecDepth 65536 in
theorem w_t2 : ((words1.drop 24).take 24).all (fun c => isCode c || c.before args0 about1) = true := by decide +kernel
set_option maxRecDepth 65536 in
theorem w_t3 : (((words1.drop 24).drop 24).take 24).all (fun c => isCode c || c.before args0 about1) = true := by decide +kernel
set_option maxRecDepth 65536 in
theorem w_t4 : (((words1.drop 24).drop 24).drop 24).all (fun c => isCode c || c.before args0 about1) = true := by decide +kernel
theorem w_tables : (allAtoms (Jvm.Cond.code x code maxLocals ret :: tables_1)).before args0 about1 = true := by
  rw [allAtoms_all]
  show words1.all (fun c => c.before args0 about1) = true
  refine all_split ?_ w_codes
  rw [← List.take_append_drop 24 words1, List.all_append, w_t1, ← List.take_append_drop 24 (words1.drop 24), List.all_append, w_t2, ← List.take_append_drop 24 ((words1.drop 24).drop 24), List.all_append, w_t3, w_t4]
  rfl
set_option maxRecDepth 65536 in
theorem w_rest : rest_1_c.before args0 about1 = true := by decide +kernel
set_option maxRecDepth 65536 in
theorem w_case : (Jvm.Cond.and given_1 narrow_1).before args0 about1 = true := by decide +kernel
set_option maxRecDepth 65536 in
theorem w_consts : constsHeld consts_1 about1 := Jvm.Lit.constsHeldB_iff.mp (by decide +kernel)
theorem w_applies : (headSpec (Jvm.Cond.code x code maxLocals ret :: tables_1) room_1).applies x e0.platform about1 = true :=
  (Spec.applies_iff w_frames).mpr ⟨w_running, w_runnable, w_alone, w_named, w_hears, w_ripe, w_room, w_tables⟩
theorem atStart : AtStart classFile x code maxLocals ret World_1 tables_1 room_1 Calls_1 rest_1 Pre_1 launch0 p0 e0 about1 theMethod args0 below0 :=
  ⟨lists_1, trivial, launch0.admits_env _ _ _, launch0.least_env, fairChoices_fair.cas, fairChoices_fair.clock, w_frames, w_args, w_heap, w_applies, ⟨w_consts, trivial⟩, w_rest, w_case⟩
end start1
theorem witness_1 : WitnessClaimed_1 := ⟨start1.p0, start1.e0, start1.about1, start1.theMethod, start1.args0, start1.below0, start1.atStart⟩
end Jvm.Pilot.@@N@@
