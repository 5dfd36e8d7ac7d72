import JvmDerived
import JvmDerived.Pilot.@@N@@Statement
import JvmDerived.Pilot.@@N@@Code
set_option linter.unusedVariables false
set_option linter.unusedSimpArgs false
/- laws to paste: Road.backV (cut by pick.py; bodies as the Statement names them) -/
namespace Jvm.Pilot.@@N@@
namespace StrChars
open Jvm Sem ClassFile Op Lib Jvm.Stand Jvm.Free.XT Jvm.Free.ALB Jvm.Free.JM Jvm.Free
open Jvm.Lib.Cold (StaticIs)
/-- a char array whose places are chars -/
def Ch (a : Addr) (A : Cell) (U : State) : Prop := Arr .char a A U ∧ Typed .char A
theorem Ch.mv {a : Addr} {A : Cell} {U U' : State} (h : Ch a A U) (hal : U.vm.Alike U'.vm) (hh : U'.heap = U.heap) : Ch a A U' := ⟨h.1.mv hal hh, h.2⟩
theorem Ch.keep {a : Addr} {A : Cell} {U U' : State} (h : Ch a A U) (hal : U.vm.Alike U'.vm) (hk : U'.heap[a]? = some A) : Ch a A U' := ⟨h.1.keep hal hk, h.2⟩
/-- what place i of a char[]'s cell holds -/
def cv (A : Cell) (i : Nat) : Int32 := match A.slots[i]? with | some (.int x) => x | _ => 0
theorem Ch.get {a : Addr} {A : Cell} {U : State} (h : Ch a A U) {i : Nat} (hi : i < A.slots.size) : A.slots[i]? = some (.int (cv A i)) := by
  have e := Array.getElem?_eq_getElem hi
  have f := h.2 i _ e
  unfold cv; rw [e]
  generalize A.slots[i] = v at f
  cases v <;> simp [fits] at f ⊢
/-- the byte that i2b leaves of a char -/
def lo8 (x : Int32) : Int32 := x.toInt8.toInt32
theorem fits_lo8 (y : Int32) : fits .byte (.int (lo8 y)) = true := by
  have h1 := y.toInt8.le_toInt
  have h2 := y.toInt8.toInt_lt
  simp only [lo8, fits, Bool.and_eq_true, decide_eq_true_eq, Int32.le_iff_toInt_le, Int8.toInt_toInt32, show (-128 : Int32).toInt = -128 from by decide, show (127 : Int32).toInt = 127 from by decide]
  omega
/-- A' is A but that each place j of lo .. hi - 1 holds f j -/
def Laid (A A' : Cell) (lo hi : Nat) (f : Nat → Value) : Prop := A'.cls = A.cls ∧ A'.vm = A.vm ∧ A'.slots.size = A.slots.size ∧ ∀ i, A'.slots[i]? = if lo ≤ i ∧ i < hi then some (f i) else A.slots[i]?
theorem Laid.zero (A : Cell) (lo : Nat) (f : Nat → Value) : Laid A A lo (lo + 0) f := ⟨rfl, rfl, rfl, fun i => by rw [if_neg (by omega)]⟩
theorem Laid.step {A Ak : Cell} {lo k : Nat} {f : Nat → Value} {v : Value} (h : Laid A Ak lo k f) (hlo : lo ≤ k) (hk : k < Ak.slots.size) (hv : v = f k) : Laid A (Ak.setSlot k v) lo (k + 1) f := by
  refine ⟨h.1, h.2.1, by simpa [Cell.setSlot] using h.2.2.1, fun i => ?_⟩
  by_cases e : k = i
  · subst e; rw [Cell.slots_setSlot_self v hk, if_pos (by omega), hv]
  · rw [Cell.slots_setSlot_ne v e, h.2.2.2 i]
    by_cases q : lo ≤ i ∧ i < k
    · rw [if_pos q, if_pos (by omega)]
    · rw [if_neg q, if_neg (by omega)]
def U16 : String := "java/lang/StringUTF16"
namespace Cmp5
def yN : MethodName := ⟨"java/lang/StringUTF16", "compress", "([CI[BII)I"⟩
abbrev yB : ByteArray := jdk_52_method_21_code
theorem d0 : decode yB 0 = .ok (.iconst 0, 1) := by decide +kernel
theorem d1 : decode yB 1 = .ok (.istore 5, 2) := by decide +kernel
theorem d3 : decode yB 3 = .ok (.iload 5, 2) := by decide +kernel
theorem d5 : decode yB 5 = .ok (.iload 4, 2) := by decide +kernel
theorem d7 : decode yB 7 = .ok (.if_icmp (.ge) 37, 3) := by decide +kernel
theorem d10 : decode yB 10 = .ok (.aload_n 0, 1) := by decide +kernel
theorem d11 : decode yB 11 = .ok (.iload_n 1, 1) := by decide +kernel
theorem d12 : decode yB 12 = .ok (.caload, 1) := by decide +kernel
theorem d13 : decode yB 13 = .ok (.istore 6, 2) := by decide +kernel
theorem d15 : decode yB 15 = .ok (.iload 6, 2) := by decide +kernel
theorem d17 : decode yB 17 = .ok (.sipush 255, 3) := by decide +kernel
theorem d20 : decode yB 20 = .ok (.if_icmp (.le) 6, 3) := by decide +kernel
theorem d26 : decode yB 26 = .ok (.aload_n 2, 1) := by decide +kernel
theorem d27 : decode yB 27 = .ok (.iload_n 3, 1) := by decide +kernel
theorem d28 : decode yB 28 = .ok (.iload 6, 2) := by decide +kernel
theorem d30 : decode yB 30 = .ok (.i2b, 1) := by decide +kernel
theorem d31 : decode yB 31 = .ok (.bastore, 1) := by decide +kernel
theorem d32 : decode yB 32 = .ok (.iinc 1 1, 3) := by decide +kernel
theorem d35 : decode yB 35 = .ok (.iinc 3 1, 3) := by decide +kernel
theorem d38 : decode yB 38 = .ok (.iinc 5 1, 3) := by decide +kernel
theorem d41 : decode yB 41 = .ok (.goto (-38), 3) := by decide +kernel
theorem d44 : decode yB 44 = .ok (.iload 4, 2) := by decide +kernel
theorem d46 : decode yB 46 = .ok (.ireturn, 1) := by decide +kernel
def site : List Cond := []
def tab : Cond := tabOf yN yB 7 (some .int) site
def P (b : Addr) (A : Cell) (d : Addr) (B : Cell) (o q len : Nat) (args : Array Value) (s : State) : Prop := args = #[.ref b, .int (Int32.ofNat o), .ref d, .int (Int32.ofNat q), .int (Int32.ofNat len)] ∧ Ch b A s ∧ Arr .byte d B s ∧ b ≠ d ∧ o + len ≤ A.slots.size ∧ q + len ≤ B.slots.size ∧ ∀ i, i < len → ¬ 255 < cv A (o + i)
def E (b : Addr) (A : Cell) (d : Addr) (B : Cell) (o q len : Nat) (r : Option Value) (s u : State) : Prop := r = some (.int (Int32.ofNat len)) ∧ ∃ B', Put d B' s u ∧ Laid B B' q (q + len) (fun j => Value.int (lo8 (cv A (o + (j - q)))))
/-- no char of the range above 255: len; the places written hold each char's low byte -/
theorem law (l : Launch) (b : Addr) (A : Cell) (d : Addr) (B : Cell) (o q len : Nat) : Law l yN 5 5 0 0 yB 7 (some .int) site (P b A d B o q len) (E b A d B o q len) (copyLocs d q len) 0 0 := by
  refine Law.of_walk (plainFor_of_name (by decide +kernel)) (by decide +kernel) (by decide +kernel) (by decide) (fun _ _ h => by rw [h.1]; rfl) (fun _ U U' hal hh h => ⟨h.1, h.2.1.mv hal hh, h.2.2.1.mv hal hh, h.2.2.2⟩) (fun r U U' V V' h1 hal h2 h => ⟨h.1, h.2.elim fun B' q => ⟨B', q.1.mv h1 h2, q.2⟩⟩) ?_
  intro p e s m args below meth c s₁ X0 hexec hbytes hml hret hlk hnm hown hh0 W hP
  obtain ⟨rfl, hA, hB, hne, l1, l2, hp⟩ := hP
  have c1 : Steps p.tables e below (s₁.setTop (entryFrame m #[.ref b, .int (Int32.ofNat o), .ref d, .int (Int32.ofNat q), .int (Int32.ofNat len)] 7)) (s₁.setTop (mkF m 0 #[.val (.ref b), .val (.int (Int32.ofNat o)), .val (.ref d), .val (.int (Int32.ofNat q)), .val (.int (Int32.ofNat len)), .unset, .unset] [])) := entry rfl
  have hA0 := hA.1.mv X0.warmed.alike hh0
  have hB0 := hB.mv X0.warmed.alike hh0
  have a31 := hA.1.2.2.2
  have c2 : Steps p.tables e below (s₁.setTop (entryFrame m #[.ref b, .int (Int32.ofNat o), .ref d, .int (Int32.ofNat q), .int (Int32.ofNat len)] 7)) (s₁.setTop (mkF m 3 #[.val (.ref b), .val (.int (Int32.ofNat o)), .val (.ref d), .val (.int (Int32.ofNat q)), .val (.int (Int32.ofNat len)), .val (.int 0), .unset] [])) := c1.trans (by
    refine iconstV X0.here hexec rfl 0 (hb hbytes d0) (by decide) ?_
    refine XS.istore X0.here hexec rfl (hb hbytes d1) rfl rfl ?_
    exact Steps.refl _)
  have loop : ∀ (r i : Nat), i + r = len → ∀ (z : Slot), (z = .unset ∨ ∃ w, z = .val w ∧ w.category = 1) → ∀ (Tl : State) (Bk : Cell), Stand p l e { frames := 0, locals := 0, cells := 0, slots := 0 } s m #[.ref b, .int (Int32.ofNat o), .ref d, .int (Int32.ofNat q), .int (Int32.ofNat len)] below meth c Tl ([] ++ copyLocs d q i) 0 0 → Put d Bk s₁ Tl → Laid B Bk q (q + i) (fun j => Value.int (lo8 (cv A (o + (j - q))))) →
      Steps p.tables e below (s₁.setTop (entryFrame m #[.ref b, .int (Int32.ofNat o), .ref d, .int (Int32.ofNat q), .int (Int32.ofNat len)] 7)) (Tl.setTop (mkF m 3 #[.val (.ref b), .val (.int (Int32.ofNat (o + i))), .val (.ref d), .val (.int (Int32.ofNat (q + i))), .val (.int (Int32.ofNat len)), .val (.int (Int32.ofNat i)), z] [])) → ∃ (T' : State) (B' : Cell) (z' : Slot), Stand p l e { frames := 0, locals := 0, cells := 0, slots := 0 } s m #[.ref b, .int (Int32.ofNat o), .ref d, .int (Int32.ofNat q), .int (Int32.ofNat len)] below meth c T' ([] ++ copyLocs d q len) 0 0 ∧ Put d B' s₁ T' ∧ Laid B B' q (q + len) (fun j => Value.int (lo8 (cv A (o + (j - q))))) ∧
      Steps p.tables e below (s₁.setTop (entryFrame m #[.ref b, .int (Int32.ofNat o), .ref d, .int (Int32.ofNat q), .int (Int32.ofNat len)] 7)) (T'.setTop (mkF m 3 #[.val (.ref b), .val (.int (Int32.ofNat (o + len))), .val (.ref d), .val (.int (Int32.ofNat (q + len))), .val (.int (Int32.ofNat len)), .val (.int (Int32.ofNat len)), z'] [])) := by
    intro r
    induction r with
    | zero =>
      intro i hi z hz Tl Bk Xl pl fl cl
      have hil : i = len := by omega
      rw [hil] at Xl fl cl
      exact ⟨Tl, Bk, z, Xl, pl, fl, cl⟩
    | succ r ih =>
      intro i hi z hz Tl Bk Xl pl fl cl
      have all := X0.warmed.alike.symm.trans Xl.warmed.alike
      have hAl := hA0.keep all (pl.other hne hA0.1)
      have hBk := hB0.like all pl.1 fl.1 fl.2.1 fl.2.2.1
      have hlt : q + i < Bk.slots.size := by rw [fl.2.2.1]; omega
      have c3 : Steps p.tables e below (s₁.setTop (entryFrame m #[.ref b, .int (Int32.ofNat o), .ref d, .int (Int32.ofNat q), .int (Int32.ofNat len)] 7)) (Tl.setTop (mkF m 12 #[.val (.ref b), .val (.int (Int32.ofNat (o + i))), .val (.ref d), .val (.int (Int32.ofNat (q + i))), .val (.int (Int32.ofNat len)), .val (.int (Int32.ofNat i)), z] [.int (Int32.ofNat (o + i)), .ref b])) := cl.trans (by
        refine XS.iload Xl.here hexec rfl (hb hbytes d3) rfl ?_
        refine XS.iload Xl.here hexec rfl (hb hbytes d5) rfl ?_
        refine XS.icmpNo Xl.here hexec rfl (hb hbytes d7) rfl (ii_ge_f (lt32 (by omega) (by omega))) ?_
        refine XS.aloadN Xl.here hexec rfl (hb hbytes d10) rfl rfl ?_
        refine XS.iloadN Xl.here hexec rfl (hb hbytes d11) rfl ?_
        exact Steps.refl _)
      have c4 : Steps p.tables e below (s₁.setTop (entryFrame m #[.ref b, .int (Int32.ofNat o), .ref d, .int (Int32.ofNat q), .int (Int32.ofNat len)] 7)) (Tl.setTop (mkF m 13 #[.val (.ref b), .val (.int (Int32.ofNat (o + i))), .val (.ref d), .val (.int (Int32.ofNat (q + i))), .val (.int (Int32.ofNat len)), .val (.int (Int32.ofNat i)), z] [.int (cv A (o + i))])) := c3.trans (by
        refine Xl.aget hexec hAl rfl (hA.get (i := o + i) (by omega)) rfl rfl (hb hbytes d12) ?_
        exact Steps.refl _)
      have c5 : Steps p.tables e below (s₁.setTop (entryFrame m #[.ref b, .int (Int32.ofNat o), .ref d, .int (Int32.ofNat q), .int (Int32.ofNat len)] 7)) (Tl.setTop (mkF m 15 #[.val (.ref b), .val (.int (Int32.ofNat (o + i))), .val (.ref d), .val (.int (Int32.ofNat (q + i))), .val (.int (Int32.ofNat len)), .val (.int (Int32.ofNat i)), .val (.int (cv A (o + i)))] [])) := c4.trans (by
        refine XS.istoreS Xl.here hexec rfl (hb hbytes d13) rfl rfl hz ?_
        exact Steps.refl _)
      have c6 : Steps p.tables e below (s₁.setTop (entryFrame m #[.ref b, .int (Int32.ofNat o), .ref d, .int (Int32.ofNat q), .int (Int32.ofNat len)] 7)) (Tl.setTop (mkF m 31 #[.val (.ref b), .val (.int (Int32.ofNat (o + i))), .val (.ref d), .val (.int (Int32.ofNat (q + i))), .val (.int (Int32.ofNat len)), .val (.int (Int32.ofNat i)), .val (.int (cv A (o + i)))] [.int (lo8 (cv A (o + i))), .int (Int32.ofNat (q + i)), .ref d])) := c5.trans (by
        refine XS.iload Xl.here hexec rfl (hb hbytes d15) rfl ?_
        refine sipushV Xl.here hexec rfl 255 (hb hbytes d17) (by decide) ?_
        refine XS.icmpYes Xl.here hexec rfl (pc0 := 20) rfl (hb hbytes d20) rfl (ii_le_t (hp i (by omega))) (by decide) rfl ?_
        refine XS.aloadN Xl.here hexec rfl (hb hbytes d26) rfl rfl ?_
        refine XS.iloadN Xl.here hexec rfl (hb hbytes d27) rfl ?_
        refine XS.iload Xl.here hexec rfl (hb hbytes d28) rfl ?_
        refine i2b Xl.here hexec rfl (hb hbytes d30) rfl ?_
        exact Steps.refl _)
      obtain ⟨T7, X7, p7, st7⟩ := Xl.aput hexec hBk rfl hlt rfl (fits_lo8 (cv A (o + i))) (g := (mkF m 31 #[.val (.ref b), .val (.int (Int32.ofNat (o + i))), .val (.ref d), .val (.int (Int32.ofNat (q + i))), .val (.int (Int32.ofNat len)), .val (.int (Int32.ofNat i)), .val (.int (cv A (o + i)))] [.int (lo8 (cv A (o + i))), .int (Int32.ofNat (q + i)), .ref d])) rfl (rest := []) rfl (hb hbytes d31)
      have c8 : Steps p.tables e below (s₁.setTop (entryFrame m #[.ref b, .int (Int32.ofNat o), .ref d, .int (Int32.ofNat q), .int (Int32.ofNat len)] 7)) (T7.setTop (mkF m 32 #[.val (.ref b), .val (.int (Int32.ofNat (o + i))), .val (.ref d), .val (.int (Int32.ofNat (q + i))), .val (.int (Int32.ofNat len)), .val (.int (Int32.ofNat i)), .val (.int (cv A (o + i)))] [])) := c6.trans (st7 _ (Steps.refl _))
      have c9 : Steps p.tables e below (s₁.setTop (entryFrame m #[.ref b, .int (Int32.ofNat o), .ref d, .int (Int32.ofNat q), .int (Int32.ofNat len)] 7)) (T7.setTop (mkF m 3 #[.val (.ref b), .val (.int (Int32.ofNat (o + i) + 1)), .val (.ref d), .val (.int (Int32.ofNat (q + i) + 1)), .val (.int (Int32.ofNat len)), .val (.int (Int32.ofNat i + 1)), .val (.int (cv A (o + i)))] [])) := c8.trans (by
        refine iincV X7.here hexec rfl 1 (hb hbytes d32) (by decide) rfl rfl ?_
        refine iincV X7.here hexec rfl 1 (hb hbytes d35) (by decide) rfl rfl ?_
        refine iincV X7.here hexec rfl 1 (hb hbytes d38) (by decide) rfl rfl ?_
        refine XS.goto X7.here hexec rfl (pc0 := 41) rfl (hb hbytes d41) (by decide) rfl ?_
        exact Steps.refl _)
      have c10 : Steps p.tables e below (s₁.setTop (entryFrame m #[.ref b, .int (Int32.ofNat o), .ref d, .int (Int32.ofNat q), .int (Int32.ofNat len)] 7)) (T7.setTop (mkF m 3 #[.val (.ref b), .val (.int (Int32.ofNat (o + (i + 1)))), .val (.ref d), .val (.int (Int32.ofNat (q + (i + 1)))), .val (.int (Int32.ofNat len)), .val (.int (Int32.ofNat (i + 1))), .val (.int (cv A (o + i)))] [])) := by
        have := c9
        rw [succ32, succ32, succ32] at this
        exact this
      exact ih (i + 1) (by omega) _ (Or.inr ⟨_, rfl, rfl⟩) T7 _ (by rw [copyLocs_step, ← List.append_assoc]; exact X7) (pl.trans p7) (fl.step (by omega) hlt (by simp)) c10
  obtain ⟨T9, B9, z9, X9, p9, f9, g9⟩ := loop len 0 (by omega) .unset (Or.inl rfl) s₁ B (by simpa [copyLocs] using X0) ⟨hB0.1, fun _ _ => rfl, rfl⟩ (Laid.zero _ _ _) c2
  have c11 : Steps p.tables e below (s₁.setTop (entryFrame m #[.ref b, .int (Int32.ofNat o), .ref d, .int (Int32.ofNat q), .int (Int32.ofNat len)] 7)) (T9.setTop (mkF m 46 #[.val (.ref b), .val (.int (Int32.ofNat (o + len))), .val (.ref d), .val (.int (Int32.ofNat (q + len))), .val (.int (Int32.ofNat len)), .val (.int (Int32.ofNat len)), z9] [.int (Int32.ofNat len)])) := g9.trans (by
    refine XS.iload X9.here hexec rfl (hb hbytes d3) rfl ?_
    refine XS.iload X9.here hexec rfl (hb hbytes d5) rfl ?_
    refine XS.icmpYes X9.here hexec rfl (pc0 := 7) rfl (hb hbytes d7) rfl (ii_ge_t (nlt32 (by omega) (Nat.le_refl _))) (by decide) rfl ?_
    refine XS.iload X9.here hexec rfl (hb hbytes d44) rfl ?_
    exact Steps.refl _)
  exact ⟨T9, some (.int (Int32.ofNat len)), _, _, _, X9, by simp, rfl, rfl, (fun h => by cases h), ⟨rfl, B9, p9.from hh0, f9⟩, fun fs hl => c11.trans (X9.ireturnOut hexec hret rfl (Or.inl rfl) (hb hbytes d46) hl)⟩
end Cmp5
namespace Cmp3
def yN : MethodName := ⟨"java/lang/StringUTF16", "compress", "([CII)[B"⟩
abbrev yB : ByteArray := jdk_52_method_16_code
theorem d0 : decode yB 0 = .ok (.iload_n 2, 1) := by decide +kernel
theorem d1 : decode yB 1 = .ok (.newarray .byte, 2) := by decide +kernel
theorem d3 : decode yB 3 = .ok (.astore_n 3, 1) := by decide +kernel
theorem d4 : decode yB 4 = .ok (.aload_n 0, 1) := by decide +kernel
theorem d5 : decode yB 5 = .ok (.iload_n 1, 1) := by decide +kernel
theorem d6 : decode yB 6 = .ok (.aload_n 3, 1) := by decide +kernel
theorem d7 : decode yB 7 = .ok (.iconst 0, 1) := by decide +kernel
theorem d8 : decode yB 8 = .ok (.iload_n 2, 1) := by decide +kernel
theorem d9 : decode yB 9 = .ok (.invokestatic 115, 3) := by decide +kernel
theorem d12 : decode yB 12 = .ok (.istore 4, 2) := by decide +kernel
theorem d14 : decode yB 14 = .ok (.iload 4, 2) := by decide +kernel
theorem d16 : decode yB 16 = .ok (.iload_n 2, 1) := by decide +kernel
theorem d17 : decode yB 17 = .ok (.if_icmp (.eq) 40, 3) := by decide +kernel
theorem d57 : decode yB 57 = .ok (.aload_n 3, 1) := by decide +kernel
theorem d58 : decode yB 58 = .ok (.areturn, 1) := by decide +kernel
def site : List Cond := [.arrayClass .byte, Cmp5.tab] ++ staticW U16 115 Cmp5.yN
def tab : Cond := tabOf yN yB 6 (some (.array .byte)) site
def P (b : Addr) (A : Cell) (o len : Nat) (args : Array Value) (s : State) : Prop := args = #[.ref b, .int (Int32.ofNat o), .int (Int32.ofNat len)] ∧ Ch b A s ∧ o + len ≤ A.slots.size ∧ len ≤ 536870912 ∧ ∀ i, i < len → ¬ 255 < cv A (o + i)
def E (b : Addr) (A : Cell) (o len : Nat) (r : Option Value) (s u : State) : Prop := NewArr .byte "[B" len (fun j => .int (lo8 (cv A (o + j)))) r s u ∧ u.heap.size = s.heap.size + 1
/-- no char of the range above 255: a new byte[] of their low bytes -/
theorem law (l : Launch) (b : Addr) (A : Cell) (o len : Nat) : Law l yN 3 3 1 18 yB 6 (some (.array .byte)) site (P b A o len) (E b A o len) [] 1 len := by
  refine Law.of_walk (plainFor_of_name (by decide +kernel)) (by decide +kernel) (by decide +kernel) (by decide) (fun _ _ h => by rw [h.1]; rfl) (fun _ U U' hal hh h => ⟨h.1, h.2.1.mv hal hh, h.2.2⟩) (fun r U U' V V' h1 hal h2 h => ⟨NewArr.mv r U U' V V' h1 hal h2 h.1, by rw [h1, h2]; exact h.2⟩) ?_
  intro p e s m args below meth c s₁ X0 hexec hbytes hml hret hlk hnm hown hh0 W hP
  obtain ⟨rfl, hA, l1, l2, hp⟩ := hP
  have a31 := hA.1.2.2.2
  have c1 : Steps p.tables e below (s₁.setTop (entryFrame m #[.ref b, .int (Int32.ofNat o), .int (Int32.ofNat len)] 6)) (s₁.setTop (mkF m 0 #[.val (.ref b), .val (.int (Int32.ofNat o)), .val (.int (Int32.ofNat len)), .unset, .unset, .unset] [])) := entry rfl
  have c2 : Steps p.tables e below (s₁.setTop (entryFrame m #[.ref b, .int (Int32.ofNat o), .int (Int32.ofNat len)] 6)) (s₁.setTop (mkF m 1 #[.val (.ref b), .val (.int (Int32.ofNat o)), .val (.int (Int32.ofNat len)), .unset, .unset, .unset] [.int (Int32.ofNat len)])) := c1.trans (by
    refine XS.iloadN X0.here hexec rfl (hb hbytes d0) rfl ?_
    exact Steps.refl _)
  obtain ⟨T3, B3, X3, ba3, bs3, bv3, bh3, bf3, st3⟩ := X0.anew hexec (atype := .byte) (wk W (.arrayClass .byte)) rfl (by show len * 1 ≤ _; omega) (by omega) (g := (mkF m 1 #[.val (.ref b), .val (.int (Int32.ofNat o)), .val (.int (Int32.ofNat len)), .unset, .unset, .unset] [.int (Int32.ofNat len)])) rfl (hb hbytes d1) (rest := []) rfl (Nat.le_refl _) (by show 0 + len ≤ len; omega)
  rw [hh0] at ba3 st3
  have kp3 : XT.Kept s T3 := (XT.Kept.of_eq hh0).push bh3
  have hA3 := hA.keep X3.warmed.alike (kp3 _ _ hA.1.1)
  have hne : b ≠ s.heap.size := hA.1.ne
  have c4 : Steps p.tables e below (s₁.setTop (entryFrame m #[.ref b, .int (Int32.ofNat o), .int (Int32.ofNat len)] 6)) (T3.setTop (mkF m 3 #[.val (.ref b), .val (.int (Int32.ofNat o)), .val (.int (Int32.ofNat len)), .unset, .unset, .unset] [.ref s.heap.size])) := c2.trans (st3 _ (Steps.refl _))
  have c5 : Steps p.tables e below (s₁.setTop (entryFrame m #[.ref b, .int (Int32.ofNat o), .int (Int32.ofNat len)] 6)) (T3.setTop (mkF m 9 #[.val (.ref b), .val (.int (Int32.ofNat o)), .val (.int (Int32.ofNat len)), .val (.ref s.heap.size), .unset, .unset] [.int (Int32.ofNat len), .int 0, .ref s.heap.size, .int (Int32.ofNat o), .ref b])) := c4.trans (by
    refine XS.astoreN X3.here hexec rfl (hb hbytes d3) rfl rfl rfl ?_
    refine XS.aloadN X3.here hexec rfl (hb hbytes d4) rfl rfl ?_
    refine XS.iloadN X3.here hexec rfl (hb hbytes d5) rfl ?_
    refine XS.aloadN X3.here hexec rfl (hb hbytes d6) rfl rfl ?_
    refine iconstV X3.here hexec rfl 0 (hb hbytes d7) (by decide) ?_
    refine XS.iloadN X3.here hexec rfl (hb hbytes d8) rfl ?_
    exact Steps.refl _)
  obtain ⟨v6, T6, X6, E6, g6⟩ := X3.callS hexec (Cmp5.law l b A s.heap.size B3 o 0 len) hown (wks W (staticW U16 115 Cmp5.yN)) (wk W Cmp5.tab) (W := 0) (Nat.le_of_ble_eq_true rfl) (Nat.le_of_ble_eq_true rfl) (Nat.le_refl _) (by show 0 + len + 0 ≤ len; omega) (g := (mkF m 9 #[.val (.ref b), .val (.int (Int32.ofNat o)), .val (.int (Int32.ofNat len)), .val (.ref s.heap.size), .unset, .unset] [.int (Int32.ofNat len), .int (Int32.ofNat 0), .ref s.heap.size, .int (Int32.ofNat o), .ref b])) rfl (by rw [hml]; rfl) c5 (argsL := [.ref b, .int (Int32.ofNat o), .ref s.heap.size, .int (Int32.ofNat 0), .int (Int32.ofNat len)]) (rest := []) rfl rfl (by show 2 * 0 + 0 ≤ _; decide) (hb hbytes d9) (⟨rfl, hA3, ba3, hne, l1, by rw [bs3]; simp, hp⟩)
  obtain ⟨rfl, B6, p6, f6⟩ := E6
  have c7 : Steps p.tables e below (s₁.setTop (entryFrame m #[.ref b, .int (Int32.ofNat o), .int (Int32.ofNat len)] 6)) (T6.setTop (mkF m 12 #[.val (.ref b), .val (.int (Int32.ofNat o)), .val (.int (Int32.ofNat len)), .val (.ref s.heap.size), .unset, .unset] [.int (Int32.ofNat len)])) := g6
  have c8 : Steps p.tables e below (s₁.setTop (entryFrame m #[.ref b, .int (Int32.ofNat o), .int (Int32.ofNat len)] 6)) (T6.setTop (mkF m 58 #[.val (.ref b), .val (.int (Int32.ofNat o)), .val (.int (Int32.ofNat len)), .val (.ref s.heap.size), .val (.int (Int32.ofNat len)), .unset] [.ref s.heap.size])) := c7.trans (by
    refine XS.istore X6.here hexec rfl (hb hbytes d12) rfl rfl ?_
    refine XS.iload X6.here hexec rfl (hb hbytes d14) rfl ?_
    refine XS.iloadN X6.here hexec rfl (hb hbytes d16) rfl ?_
    refine XS.icmpYes X6.here hexec rfl (pc0 := 17) rfl (hb hbytes d17) rfl (ii_eq_t rfl) (by decide) rfl ?_
    refine XS.aloadN X6.here hexec rfl (hb hbytes d57) rfl rfl ?_
    exact Steps.refl _)
  have X8 := X6.wide (L' := []) (cells' := 1) (slots' := len) (fun x hx hlt => by
    simp only [List.nil_append, copyLocs, List.mem_map, List.mem_range] at hx
    obtain ⟨i, -, rfl⟩ := hx
    exact absurd hlt (Nat.lt_irrefl _)) (Nat.le_refl _) (by omega)
  exact ⟨T6, some (.ref s.heap.size), _, _, _, X8, rfl, rfl, rfl, (fun h => by cases h), ⟨⟨rfl, B6, ba3.like (X3.warmed.alike.symm.trans X6.warmed.alike) p6.1 f6.1 f6.2.1 f6.2.2.1, f6.2.1.trans bv3, by rw [X6.warmed.alike.findClass, f6.1]; exact bf3, by rw [f6.2.2.1, bs3]; simp, fun j hj => by rw [f6.2.2.2 j, if_pos (by omega)]; rfl, kp3.put p6 (Nat.le_refl _)⟩, by rw [p6.2.2, bh3, hh0]; simp⟩, fun fs hl => c8.trans (X8.areturnOut hexec rfl hret rfl (hb hbytes d58) hl)⟩
end Cmp3
namespace CodL
def yN : MethodName := ⟨"java/lang/StringUTF16", "coderFromArrayLen", "([BI)B"⟩
abbrev yB : ByteArray := jdk_52_method_15_code
theorem d0 : decode yB 0 = .ok (.iload_n 1, 1) := by decide +kernel
theorem d1 : decode yB 1 = .ok (.aload_n 0, 1) := by decide +kernel
theorem d2 : decode yB 2 = .ok (.arraylength, 1) := by decide +kernel
theorem d3 : decode yB 3 = .ok (.isub, 1) := by decide +kernel
theorem d4 : decode yB 4 = .ok (.bipush 31, 2) := by decide +kernel
theorem d6 : decode yB 6 = .ok (.iushr, 1) := by decide +kernel
theorem d7 : decode yB 7 = .ok (.i2b, 1) := by decide +kernel
theorem d8 : decode yB 8 = .ok (.ireturn, 1) := by decide +kernel
def site : List Cond := []
def tab : Cond := tabOf yN yB 2 (some .byte) site
def P (d : Addr) (B : Cell) (args : Array Value) (s : State) : Prop := args = #[.ref d, .int (Int32.ofNat B.slots.size)] ∧ Arr .byte d B s
def E (r : Option Value) (s u : State) : Prop := XT.PureE (some (.int 0)) r s u
/-- an array as long as the number of chars: LATIN1 -/
theorem law (l : Launch) (d : Addr) (B : Cell) : Law l yN 2 2 0 0 yB 2 (some .byte) site (P d B) E [] 0 0 := by
  refine Law.of_walk (plainFor_of_name (by decide +kernel)) (by decide +kernel) (by decide +kernel) (by decide) (fun _ _ h => by rw [h.1]; rfl) (fun _ U U' hal hh h => ⟨h.1, h.2.mv hal hh⟩) (fun r U U' V V' h1 hal h2 h => XT.PureE.mv r U U' V V' h1 hal h2 h) ?_
  intro p e s m args below meth c s₁ X0 hexec hbytes hml hret hlk hnm hown hh0 W hP
  obtain ⟨rfl, hB⟩ := hP
  have hB0 := hB.mv X0.warmed.alike hh0
  have c1 : Steps p.tables e below (s₁.setTop (entryFrame m #[.ref d, .int (Int32.ofNat B.slots.size)] 2)) (s₁.setTop (mkF m 0 #[.val (.ref d), .val (.int (Int32.ofNat B.slots.size))] [])) := entry rfl
  have c2 : Steps p.tables e below (s₁.setTop (entryFrame m #[.ref d, .int (Int32.ofNat B.slots.size)] 2)) (s₁.setTop (mkF m 2 #[.val (.ref d), .val (.int (Int32.ofNat B.slots.size))] [.ref d, .int (Int32.ofNat B.slots.size)])) := c1.trans (by
    refine XS.iloadN X0.here hexec rfl (hb hbytes d0) rfl ?_
    refine XS.aloadN X0.here hexec rfl (hb hbytes d1) rfl rfl ?_
    exact Steps.refl _)
  have c3 : Steps p.tables e below (s₁.setTop (entryFrame m #[.ref d, .int (Int32.ofNat B.slots.size)] 2)) (s₁.setTop (mkF m 8 #[.val (.ref d), .val (.int (Int32.ofNat B.slots.size))] [.int (lo8 (ushr (Int32.ofNat B.slots.size - Int32.ofNat B.slots.size) 31))])) := c2.trans (by
    refine X0.alen hexec hB0 rfl rfl (hb hbytes d2) ?_
    refine XS.isub X0.here hexec rfl (hb hbytes d3) rfl ?_
    refine bipushV X0.here hexec rfl 31 (hb hbytes d4) (by decide) ?_
    refine iushr X0.here hexec rfl (hb hbytes d6) rfl ?_
    refine i2b X0.here hexec rfl (hb hbytes d7) rfl ?_
    exact Steps.refl _)
  have e0 : lo8 (ushr (Int32.ofNat B.slots.size - Int32.ofNat B.slots.size) 31) = 0 := by rw [Int32.sub_self]; decide
  rw [e0] at c3
  exact ⟨s₁, some (.int 0), _, _, _, X0, rfl, rfl, rfl, (fun h => by cases h), ⟨rfl, hh0⟩, fun fs hl => c3.trans (X0.ireturnOut hexec hret rfl (Or.inr (Or.inr (Or.inl rfl))) (hb hbytes d8) hl)⟩
end CodL
/-- the String at a is Latin-1 over a new byte[] (the heap's one new cell): the low bytes of the len chars of A from o on; every cell but a is kept -/
def Got (a : Addr) (D : Cell) (fV fC : Field) (A : Cell) (o len : Nat) (r : Option Value) (s u : State) : Prop := r = none ∧ ∃ D' V : Cell, Blank "java/lang/String" a D' u ∧ Same D D' [fV.slot, fC.slot] ∧ D'.slots[fV.slot]? = some (.ref s.heap.size) ∧ D'.slots[fC.slot]? = some (.int 0) ∧ Arr .byte s.heap.size V u ∧ V.vm = .none ∧ u.vm.findClass "[B" = some V.cls ∧ V.slots.size = len ∧ (∀ j, j < len → V.slots[j]? = some (.int (lo8 (cv A (o + j))))) ∧ (∀ (y : Addr) (c : Cell), y ≠ a → s.heap[y]? = some c → u.heap[y]? = some c) ∧ u.heap.size = s.heap.size + 1
theorem Got.mv {a : Addr} {D A : Cell} {fV fC : Field} {o len : Nat} : ∀ r (U U' V V' : State), U'.heap = U.heap → V.vm.Alike V'.vm → V'.heap = V.heap → Got a D fV fC A o len r U V → Got a D fV fC A o len r U' V' :=
  fun r U U' V V' h1 hal h2 ⟨e0, D', X, a1, a2, a3, a4, a5, a6, a7, a8, a9, a10, a11⟩ => ⟨e0, D', X, a1.mv hal h2, a2, by rw [h1]; exact a3, a4, by rw [h1]; exact a5.mv hal h2, a6, by rw [hal.findClass]; exact a7, a8, a9, by rw [h1, h2]; exact a10, by rw [h1, h2]; exact a11⟩
namespace New4
def yN : MethodName := ⟨"java/lang/String", "<init>", "([CIILjava/lang/Void;)V"⟩
abbrev yB : ByteArray := jdk_42_method_149_code
theorem d0 : decode yB 0 = .ok (.aload_n 0, 1) := by decide +kernel
theorem d1 : decode yB 1 = .ok (.invokespecial 1, 3) := by decide +kernel
theorem d4 : decode yB 4 = .ok (.iload_n 3, 1) := by decide +kernel
theorem d5 : decode yB 5 = .ok (.ifCond (.ne) 22, 3) := by decide +kernel
theorem d27 : decode yB 27 = .ok (.getstatic 38, 3) := by decide +kernel
theorem d30 : decode yB 30 = .ok (.ifCond (.eq) 28, 3) := by decide +kernel
theorem d33 : decode yB 33 = .ok (.aload_n 1, 1) := by decide +kernel
theorem d34 : decode yB 34 = .ok (.iload_n 2, 1) := by decide +kernel
theorem d35 : decode yB 35 = .ok (.iload_n 3, 1) := by decide +kernel
theorem d36 : decode yB 36 = .ok (.invokestatic 177, 3) := by decide +kernel
theorem d39 : decode yB 39 = .ok (.astore 5, 2) := by decide +kernel
theorem d41 : decode yB 41 = .ok (.aload_n 0, 1) := by decide +kernel
theorem d42 : decode yB 42 = .ok (.aload 5, 2) := by decide +kernel
theorem d44 : decode yB 44 = .ok (.iload_n 3, 1) := by decide +kernel
theorem d45 : decode yB 45 = .ok (.invokestatic 47, 3) := by decide +kernel
theorem d48 : decode yB 48 = .ok (.putfield 15, 3) := by decide +kernel
theorem d51 : decode yB 51 = .ok (.aload_n 0, 1) := by decide +kernel
theorem d52 : decode yB 52 = .ok (.aload 5, 2) := by decide +kernel
theorem d54 : decode yB 54 = .ok (.putfield 9, 3) := by decide +kernel
theorem d57 : decode yB 57 = .ok (.return_, 1) := by decide +kernel
def site : List Cond := [.fieldLink "java/lang/String" 38 "java/lang/String" "COMPACT_STRINGS" "Z", Cmp3.tab, CodL.tab, .laysFinal "java/lang/String" "java/lang/String" "value" "[B", .fieldLink "java/lang/String" 9 "java/lang/String" "value" "[B", .laysFinal "java/lang/String" "java/lang/String" "coder" "B", .fieldLink "java/lang/String" 15 "java/lang/String" "coder" "B"] ++ objW "java/lang/String" 1 ++ staticW "java/lang/String" 177 Cmp3.yN ++ staticW "java/lang/String" 47 CodL.yN
def tab : Cond := tabOf yN yB 6 none site
def P (a : Addr) (D : Cell) (fV fC : Field) (b : Addr) (A : Cell) (z : Int32) (o len : Nat) (args : Array Value) (s : State) : Prop := args = #[.ref a, .ref b, .int (Int32.ofNat o), .int (Int32.ofNat len), .null] ∧ Blank "java/lang/String" a D s ∧ Found "java/lang/String" "value" "[B" fV s ∧ Found "java/lang/String" "coder" "B" fC s ∧ Ch b A s ∧ StaticIs s "java/lang/String" "COMPACT_STRINGS" "Z" (.int z) ∧ ¬ z = 0 ∧ 0 < len ∧ o + len ≤ A.slots.size ∧ len ≤ 536870912 ∧ ∀ i, i < len → ¬ 255 < cv A (o + i)
def E (a : Addr) (D : Cell) (fV fC : Field) (A : Cell) (o len : Nat) (r : Option Value) (s u : State) : Prop := Got a D fV fC A o len r s u
/-- len > 0, no char of the range above 255: a Latin-1 String of their low bytes -/
theorem law (l : Launch) (a : Addr) (D : Cell) (fV fC : Field) (b : Addr) (A : Cell) (z : Int32) (o len : Nat) : Law l yN 5 4 2 35 yB 6 none site (P a D fV fC b A z o len) (E a D fV fC A o len) [⟨a, fC.slot⟩, ⟨a, fV.slot⟩] 1 len := by
  refine Law.of_walk (plainFor_of_name (by decide +kernel)) (by decide +kernel) (by decide +kernel) (by decide) (fun _ _ h => by rw [h.1]; rfl) (fun _ U U' hal hh h => ⟨h.1, h.2.1.mv hal hh, h.2.2.1.al hal, h.2.2.2.1.al hal, h.2.2.2.2.1.mv hal hh, h.2.2.2.2.2.1.there hal hh, h.2.2.2.2.2.2⟩) (fun r U U' V V' h1 hal h2 h => Got.mv r U U' V V' h1 hal h2 h) ?_
  intro p e s m args below meth c s₁ X0 hexec hbytes hml hret hlk hnm hown hh0 W hP
  obtain ⟨rfl, hB, f1, f2, hA, s1, hz, l0, l1, l2, hp⟩ := hP
  have a31 := hA.1.2.2.2
  have c1 : Steps p.tables e below (s₁.setTop (entryFrame m #[.ref a, .ref b, .int (Int32.ofNat o), .int (Int32.ofNat len), .null] 6)) (s₁.setTop (mkF m 0 #[.val (.ref a), .val (.ref b), .val (.int (Int32.ofNat o)), .val (.int (Int32.ofNat len)), .val .null, .unset] [])) := entry rfl
  have c2 : Steps p.tables e below (s₁.setTop (entryFrame m #[.ref a, .ref b, .int (Int32.ofNat o), .int (Int32.ofNat len), .null] 6)) (s₁.setTop (mkF m 1 #[.val (.ref a), .val (.ref b), .val (.int (Int32.ofNat o)), .val (.int (Int32.ofNat len)), .val .null, .unset] [.ref a])) := c1.trans (by
    refine XS.aloadN X0.here hexec rfl (hb hbytes d0) rfl rfl ?_
    exact Steps.refl _)
  obtain ⟨T3, X3, q3, st3⟩ := X0.oinit hexec hown (wks W (objW "java/lang/String" 1)) (g := (mkF m 1 #[.val (.ref a), .val (.ref b), .val (.int (Int32.ofNat o)), .val (.int (Int32.ofNat len)), .val .null, .unset] [.ref a])) rfl (by rw [hml]; rfl) (rest := []) rfl (hb hbytes d1) (W := 0) (by show 2 * 0 + 0 ≤ _; decide) (Nat.le_of_ble_eq_true rfl) (Nat.le_of_ble_eq_true rfl)
  have hh3 := q3.trans hh0
  have c4 : Steps p.tables e below (s₁.setTop (entryFrame m #[.ref a, .ref b, .int (Int32.ofNat o), .int (Int32.ofNat len), .null] 6)) (T3.setTop (mkF m 27 #[.val (.ref a), .val (.ref b), .val (.int (Int32.ofNat o)), .val (.int (Int32.ofNat len)), .val .null, .unset] [])) := (c2.trans (st3 _ (Steps.refl _))).trans (by
    refine XS.iloadN X3.here hexec rfl (hb hbytes d4) rfl ?_
    refine XS.ifYes X3.here hexec rfl (pc0 := 5) rfl (hb hbytes d5) rfl (i0_ne_t (nz32 (by omega) l0)) (by decide) rfl ?_
    exact Steps.refl _)
  obtain ⟨T5, X5, q5, st5⟩ := X3.sget hexec hown (wk W (.fieldLink "java/lang/String" 38 "java/lang/String" "COMPACT_STRINGS" "Z")) s1 (fun _ _ h => by rw [hh3]; exact h) (g := (mkF m 27 #[.val (.ref a), .val (.ref b), .val (.int (Int32.ofNat o)), .val (.int (Int32.ofNat len)), .val .null, .unset] [])) rfl (hb hbytes d27)
  have hh5 := q5.trans hh3
  have c6 : Steps p.tables e below (s₁.setTop (entryFrame m #[.ref a, .ref b, .int (Int32.ofNat o), .int (Int32.ofNat len), .null] 6)) (T5.setTop (mkF m 30 #[.val (.ref a), .val (.ref b), .val (.int (Int32.ofNat o)), .val (.int (Int32.ofNat len)), .val .null, .unset] [.int z])) := c4.trans (st5 _ (Steps.refl _))
  have c7 : Steps p.tables e below (s₁.setTop (entryFrame m #[.ref a, .ref b, .int (Int32.ofNat o), .int (Int32.ofNat len), .null] 6)) (T5.setTop (mkF m 36 #[.val (.ref a), .val (.ref b), .val (.int (Int32.ofNat o)), .val (.int (Int32.ofNat len)), .val .null, .unset] [.int (Int32.ofNat len), .int (Int32.ofNat o), .ref b])) := c6.trans (by
    refine XS.ifNo X5.here hexec rfl (hb hbytes d30) rfl (i0_eq_f hz) ?_
    refine XS.aloadN X5.here hexec rfl (hb hbytes d33) rfl rfl ?_
    refine XS.iloadN X5.here hexec rfl (hb hbytes d34) rfl ?_
    refine XS.iloadN X5.here hexec rfl (hb hbytes d35) rfl ?_
    exact Steps.refl _)
  obtain ⟨v8, T8, X8, E8, g8⟩ := X5.callS hexec (Cmp3.law l b A o len) hown (wks W (staticW "java/lang/String" 177 Cmp3.yN)) (wk W Cmp3.tab) (W := 0) (Nat.le_of_ble_eq_true rfl) (Nat.le_of_ble_eq_true rfl) (Nat.le_refl _) (by show 0 + len ≤ len; omega) (g := (mkF m 36 #[.val (.ref a), .val (.ref b), .val (.int (Int32.ofNat o)), .val (.int (Int32.ofNat len)), .val .null, .unset] [.int (Int32.ofNat len), .int (Int32.ofNat o), .ref b])) rfl (by rw [hml]; rfl) c7 (argsL := [.ref b, .int (Int32.ofNat o), .int (Int32.ofNat len)]) (rest := []) rfl rfl (by show 2 * 0 + 0 ≤ _; decide) (hb hbytes d36) (⟨rfl, hA.mv X5.warmed.alike hh5, l1, l2, hp⟩)
  obtain ⟨e8, z8⟩ := E8
  obtain ⟨rfl, N, n1, n2, n3, n4, n5, n6⟩ := NewArr.mv _ T5 s _ _ hh5.symm (Vm.Alike.refl _) rfl e8
  rw [hh5] at z8
  have hB1 := hB.keep X8.warmed.alike (n6 _ _ hB.1)
  have hne : s.heap.size ≠ a := (Nat.ne_of_lt (Array.getElem?_eq_some_iff.mp hB.1).1).symm
  have c9 : Steps p.tables e below (s₁.setTop (entryFrame m #[.ref a, .ref b, .int (Int32.ofNat o), .int (Int32.ofNat len), .null] 6)) (T8.setTop (mkF m 39 #[.val (.ref a), .val (.ref b), .val (.int (Int32.ofNat o)), .val (.int (Int32.ofNat len)), .val .null, .unset] [.ref s.heap.size])) := g8
  have c10 : Steps p.tables e below (s₁.setTop (entryFrame m #[.ref a, .ref b, .int (Int32.ofNat o), .int (Int32.ofNat len), .null] 6)) (T8.setTop (mkF m 45 #[.val (.ref a), .val (.ref b), .val (.int (Int32.ofNat o)), .val (.int (Int32.ofNat len)), .val .null, .val (.ref s.heap.size)] [.int (Int32.ofNat N.slots.size), .ref s.heap.size, .ref a])) := by
    have hc : Steps p.tables e below (s₁.setTop (entryFrame m #[.ref a, .ref b, .int (Int32.ofNat o), .int (Int32.ofNat len), .null] 6)) (T8.setTop (mkF m 45 #[.val (.ref a), .val (.ref b), .val (.int (Int32.ofNat o)), .val (.int (Int32.ofNat len)), .val .null, .val (.ref s.heap.size)] [.int (Int32.ofNat len), .ref s.heap.size, .ref a])) := c9.trans (by
      refine XS.astore X8.here hexec rfl (hb hbytes d39) rfl rfl rfl ?_
      refine XS.aloadN X8.here hexec rfl (hb hbytes d41) rfl rfl ?_
      refine XS.aload X8.here hexec rfl (hb hbytes d42) rfl rfl ?_
      refine XS.iloadN X8.here hexec rfl (hb hbytes d44) rfl ?_
      exact Steps.refl _)
    rw [n4]; exact hc
  obtain ⟨v11, T11, X11, E11, g11⟩ := X8.callS hexec (CodL.law l s.heap.size N) hown (wks W (staticW "java/lang/String" 47 CodL.yN)) (wk W CodL.tab) (W := 1) (Nat.le_of_ble_eq_true rfl) (Nat.le_of_ble_eq_true rfl) (Nat.le_refl _) (by show 0 + len + 0 ≤ len; omega) (g := (mkF m 45 #[.val (.ref a), .val (.ref b), .val (.int (Int32.ofNat o)), .val (.int (Int32.ofNat len)), .val .null, .val (.ref s.heap.size)] [.int (Int32.ofNat N.slots.size), .ref s.heap.size, .ref a])) rfl (by rw [hml]; rfl) c10 (argsL := [.ref s.heap.size, .int (Int32.ofNat N.slots.size)]) (rest := [.ref a]) rfl rfl (by show 2 * 0 + (1 + 0) ≤ _; decide) (hb hbytes d45) (⟨rfl, n1⟩)
  obtain ⟨rfl, q11⟩ := E11
  have hB11 := hB1.mv (X8.warmed.alike.symm.trans X11.warmed.alike) q11
  have c12 : Steps p.tables e below (s₁.setTop (entryFrame m #[.ref a, .ref b, .int (Int32.ofNat o), .int (Int32.ofNat len), .null] 6)) (T11.setTop (mkF m 48 #[.val (.ref a), .val (.ref b), .val (.int (Int32.ofNat o)), .val (.int (Int32.ofNat len)), .val .null, .val (.ref s.heap.size)] [.int 0, .ref a])) := g11
  obtain ⟨T13, X13, p13, bl13, sl13, st13⟩ := X11.finit hexec hown (wk W (.fieldLink "java/lang/String" 15 "java/lang/String" "coder" "B")) (Or.inr ⟨_, (wk W (.laysFinal "java/lang/String" "java/lang/String" "coder" "B"))⟩) (Or.inl ⟨rfl, hnm⟩) f2 (Or.inl rfl) hB11 (t := .byte) (by decide +kernel) rfl (g := (mkF m 48 #[.val (.ref a), .val (.ref b), .val (.int (Int32.ofNat o)), .val (.int (Int32.ofNat len)), .val .null, .val (.ref s.heap.size)] [.int 0, .ref a])) rfl (rest := []) rfl (hb hbytes d48)
  have c14 : Steps p.tables e below (s₁.setTop (entryFrame m #[.ref a, .ref b, .int (Int32.ofNat o), .int (Int32.ofNat len), .null] 6)) (T13.setTop (mkF m 54 #[.val (.ref a), .val (.ref b), .val (.int (Int32.ofNat o)), .val (.int (Int32.ofNat len)), .val .null, .val (.ref s.heap.size)] [.ref s.heap.size, .ref a])) := (c12.trans (st13 _ (Steps.refl _))).trans (by
    refine XS.aloadN X13.here hexec rfl (hb hbytes d51) rfl rfl ?_
    refine XS.aload X13.here hexec rfl (hb hbytes d52) rfl rfl ?_
    exact Steps.refl _)
  obtain ⟨T15, X15, p15, bl15, sl15, st15⟩ := X13.finit hexec hown (wk W (.fieldLink "java/lang/String" 9 "java/lang/String" "value" "[B")) (Or.inr ⟨_, (wk W (.laysFinal "java/lang/String" "java/lang/String" "value" "[B"))⟩) (Or.inl ⟨rfl, hnm⟩) f1 (Or.inl rfl) bl13 (t := (.array .byte)) (by decide +kernel) rfl (g := (mkF m 54 #[.val (.ref a), .val (.ref b), .val (.int (Int32.ofNat o)), .val (.int (Int32.ofNat len)), .val .null, .val (.ref s.heap.size)] [.ref s.heap.size, .ref a])) rfl (rest := []) rfl (hb hbytes d54)
  have c16 : Steps p.tables e below (s₁.setTop (entryFrame m #[.ref a, .ref b, .int (Int32.ofNat o), .int (Int32.ofNat len), .null] 6)) (T15.setTop (mkF m 57 #[.val (.ref a), .val (.ref b), .val (.int (Int32.ofNat o)), .val (.int (Int32.ofNat len)), .val .null, .val (.ref s.heap.size)] [])) := c14.trans (st15 _ (Steps.refl _))
  have ap := apart (Or.inr ⟨_, (wk W (.laysFinal "java/lang/String" "java/lang/String" "value" "[B"))⟩) (Or.inr ⟨_, (wk W (.laysFinal "java/lang/String" "java/lang/String" "coder" "B"))⟩) f1 f2 (t₁ := .array .byte) (t₂ := .byte) (by decide +kernel) (by decide +kernel) (by decide)
  have al := X8.warmed.alike.symm.trans X15.warmed.alike
  have n7 : T11.heap[s.heap.size]? = some N := by rw [q11]; exact n1.1
  exact ⟨T15, none, _, _, _, X15, by simp, rfl, by omega, (fun _ => rfl), ⟨rfl, _, N, bl15, ((Same.refl D _).set _ (by simp)).set _ (by simp), sl15, (Cell.slots_setSlot_ne _ ap).trans sl13, n1.keep al (p15.other hne (p13.other hne n7)), n2, by rw [al.findClass]; exact n3, n4, n5, fun y c h1 h2 => p15.other h1 (p13.other h1 (by rw [q11]; exact n6 y c h2)), by rw [p15.2.2, p13.2.2, q11]; exact z8⟩, fun fs hl => c16.trans (X15.returnOut hexec hret (hb hbytes d57) hl)⟩
end New4
namespace New1
def yN : MethodName := ⟨"java/lang/String", "<init>", "([C)V"⟩
abbrev yB : ByteArray := jdk_42_method_3_code
theorem d0 : decode yB 0 = .ok (.aload_n 0, 1) := by decide +kernel
theorem d1 : decode yB 1 = .ok (.aload_n 1, 1) := by decide +kernel
theorem d2 : decode yB 2 = .ok (.iconst 0, 1) := by decide +kernel
theorem d3 : decode yB 3 = .ok (.aload_n 1, 1) := by decide +kernel
theorem d4 : decode yB 4 = .ok (.arraylength, 1) := by decide +kernel
theorem d5 : decode yB 5 = .ok (.aconst_null, 1) := by decide +kernel
theorem d6 : decode yB 6 = .ok (.invokespecial 27, 3) := by decide +kernel
theorem d9 : decode yB 9 = .ok (.return_, 1) := by decide +kernel
def site : List Cond := [New4.tab] ++ initW "java/lang/String" 27 New4.yN
def tab : Cond := tabOf yN yB 2 none site
def P (a : Addr) (D : Cell) (fV fC : Field) (b : Addr) (A : Cell) (z : Int32) (args : Array Value) (s : State) : Prop := args = #[.ref a, .ref b] ∧ Blank "java/lang/String" a D s ∧ Found "java/lang/String" "value" "[B" fV s ∧ Found "java/lang/String" "coder" "B" fC s ∧ Ch b A s ∧ StaticIs s "java/lang/String" "COMPACT_STRINGS" "Z" (.int z) ∧ ¬ z = 0 ∧ 0 < A.slots.size ∧ A.slots.size ≤ 536870912 ∧ ∀ i, i < A.slots.size → ¬ 255 < cv A i
def E (a : Addr) (D : Cell) (fV fC : Field) (A : Cell) (r : Option Value) (s u : State) : Prop := Got a D fV fC A 0 A.slots.size r s u
/-- new String(chars), not empty, no char above 255: a Latin-1 String of their low bytes -/
theorem law (l : Launch) (a : Addr) (D : Cell) (fV fC : Field) (b : Addr) (A : Cell) (z : Int32) : Law l yN 2 1 3 52 yB 2 none site (P a D fV fC b A z) (E a D fV fC A) [⟨a, fC.slot⟩, ⟨a, fV.slot⟩] 1 A.slots.size := by
  refine Law.of_walk (plainFor_of_name (by decide +kernel)) (by decide +kernel) (by decide +kernel) (by decide) (fun _ _ h => by rw [h.1]; rfl) (fun _ U U' hal hh h => ⟨h.1, h.2.1.mv hal hh, h.2.2.1.al hal, h.2.2.2.1.al hal, h.2.2.2.2.1.mv hal hh, h.2.2.2.2.2.1.there hal hh, h.2.2.2.2.2.2⟩) (fun r U U' V V' h1 hal h2 h => Got.mv r U U' V V' h1 hal h2 h) ?_
  intro p e s m args below meth c s₁ X0 hexec hbytes hml hret hlk hnm hown hh0 W hP
  obtain ⟨rfl, hB, f1, f2, hA, s1, hz, l0, l2, hp⟩ := hP
  have c1 : Steps p.tables e below (s₁.setTop (entryFrame m #[.ref a, .ref b] 2)) (s₁.setTop (mkF m 0 #[.val (.ref a), .val (.ref b)] [])) := entry rfl
  have c2 : Steps p.tables e below (s₁.setTop (entryFrame m #[.ref a, .ref b] 2)) (s₁.setTop (mkF m 6 #[.val (.ref a), .val (.ref b)] [.null, .int (Int32.ofNat A.slots.size), .int 0, .ref b, .ref a])) := c1.trans (by
    refine XS.aloadN X0.here hexec rfl (hb hbytes d0) rfl rfl ?_
    refine XS.aloadN X0.here hexec rfl (hb hbytes d1) rfl rfl ?_
    refine iconstV X0.here hexec rfl 0 (hb hbytes d2) (by decide) ?_
    refine XS.aloadN X0.here hexec rfl (hb hbytes d3) rfl rfl ?_
    refine X0.alen hexec (hA.1.mv X0.warmed.alike hh0) rfl rfl (hb hbytes d4) ?_
    refine XS.aconstNull X0.here hexec rfl (hb hbytes d5) ?_
    exact Steps.refl _)
  obtain ⟨v3, T3, X3, E3, g3⟩ := X0.callN hexec (New4.law l a D fV fC b A z 0 A.slots.size) rfl hown (wks W (initW "java/lang/String" 27 New4.yN)) (W New4.tab (by simp only [site, List.mem_cons, List.mem_append, true_or, or_true])) (W := 0) (Nat.le_of_ble_eq_true rfl) (Nat.le_of_ble_eq_true rfl) (Nat.le_refl _) (by show 0 + A.slots.size ≤ A.slots.size; omega) (g := (mkF m 6 #[.val (.ref a), .val (.ref b)] [.null, .int (Int32.ofNat A.slots.size), .int (Int32.ofNat 0), .ref b, .ref a])) rfl (by rw [hml]; rfl) c2 (argsL := [.ref b, .int (Int32.ofNat 0), .int (Int32.ofNat A.slots.size), .null]) (rest := []) rfl rfl (by show 2 * 0 + 0 ≤ _; decide) (hb hbytes d6) (⟨rfl, hB.mv X0.warmed.alike hh0, f1.al X0.warmed.alike, f2.al X0.warmed.alike, hA.mv X0.warmed.alike hh0, s1.there X0.warmed.alike hh0, hz, l0, by omega, l2, fun i hi => by rw [Nat.zero_add]; exact hp i hi⟩)
  have e0 := Got.mv _ s₁ s _ _ hh0.symm (Vm.Alike.refl _) rfl E3
  obtain rfl := e0.1
  have c4 : Steps p.tables e below (s₁.setTop (entryFrame m #[.ref a, .ref b] 2)) (T3.setTop (mkF m 9 #[.val (.ref a), .val (.ref b)] [])) := g3
  exact ⟨T3, none, _, _, _, X3, by simp, rfl, by omega, (fun _ => rfl), e0, fun fs hl => c4.trans (X3.returnOut hexec hret (hb hbytes d9) hl)⟩
theorem pays {l : Launch} {R : Room} {p : Program} {e : Env} {below : List Frame} {s : State} {sargs : Array Value} {len W : Nat} (a : Addr) (D : Cell) (fV fC : Field) (b : Addr) (A : Cell) (z : Int32) (htab : tab.before sargs s = true) (hfr : 4 ≤ R.frames) (hlo : W + 65 ≤ R.locals) :
    Back l R p e below s sargs yN len W (fun A₁ a₁ => A₁.cells + 1 ≤ R.cells ∧ A₁.slots + A.slots.size ≤ R.slots ∧ P a D fV fC b A z a₁ A₁.U) (fun A₁ _ v₁ B₁ => E a D fV fC A v₁ A₁.U B₁.U ∧ B₁.locs = A₁.locs ++ [⟨a, fC.slot⟩, ⟨a, fV.slot⟩] ∧ B₁.cells = A₁.cells + 1 ∧ B₁.slots = A₁.slots + A.slots.size) :=
  (law l a D fV fC b A z).pays htab hfr (by omega)
end New1
end StrChars
namespace StrChars.Road
open Jvm Sem ClassFile Op Lib Jvm.Stand Jvm.Free Jvm.Free.XT
open Jvm.Lib.Cold (StaticIs)
abbrev ST : String := "java/lang/String"
/-- every table word that New1's law asks, flat -/
abbrev words : List Jvm.Cond := [.code New1.yN New1.yB 2 none, .initialized ST, .methodLink ST 27 New4.yN, .instanceMethod New4.yN,
  .code New4.yN New4.yB 6 none, .fieldLink ST 38 ST "COMPACT_STRINGS" "Z", .laysFinal ST ST "value" "[B", .fieldLink ST 9 ST "value" "[B", .laysFinal ST ST "coder" "B", .fieldLink ST 15 ST "coder" "B",
  .methodLink ST 1 Lib.objectInit, .instanceMethod Lib.objectInit, .code Lib.objectInit ⟨#[0xb1]⟩ 1 none, .methodLink ST 177 Cmp3.yN, .static Cmp3.yN, .methodLink ST 47 CodL.yN, .static CodL.yN,
  .code Cmp3.yN Cmp3.yB 6 (some (.array .byte)), .initialized U16, .arrayClass .byte, .methodLink U16 115 Cmp5.yN, .static Cmp5.yN, .code Cmp5.yN Cmp5.yB 7 (some .int), .code CodL.yN CodL.yB 2 (some .byte)]
theorem tab_of {a : Array Value} {s : State} (h : ∀ w ∈ words, w.before a s = true) : New1.tab.before a s = true := by
  have h5 : Cmp5.tab.before a s = true := unparts (wk h (.code Cmp5.yN Cmp5.yB 7 (some .int))) (wks h (.initialized Cmp5.yN.cls :: Cmp5.site))
  have hc : CodL.tab.before a s = true := unparts (wk h (.code CodL.yN CodL.yB 2 (some .byte))) (wks h (.initialized CodL.yN.cls :: CodL.site))
  have q5 : ∀ w ∈ Cmp5.tab :: words, w.before a s = true := fun w hw => (List.mem_cons.mp hw).elim (fun e => e ▸ h5) (h w)
  have h3 : Cmp3.tab.before a s = true := unparts (wk q5 (.code Cmp3.yN Cmp3.yB 6 (some (.array .byte)))) (wks q5 (.initialized Cmp3.yN.cls :: Cmp3.site))
  have q3 : ∀ w ∈ Cmp3.tab :: CodL.tab :: words, w.before a s = true := fun w hw => (List.mem_cons.mp hw).elim (fun e => e ▸ h3) fun hw => (List.mem_cons.mp hw).elim (fun e => e ▸ hc) (h w)
  have h4 : New4.tab.before a s = true := unparts (wk q3 (.code New4.yN New4.yB 6 none)) (wks q3 (.initialized New4.yN.cls :: New4.site))
  have q4 : ∀ w ∈ New4.tab :: words, w.before a s = true := fun w hw => (List.mem_cons.mp hw).elim (fun e => e ▸ h4) (h w)
  exact unparts (wk q4 (.code New1.yN New1.yB 2 none)) (wks q4 (.initialized New1.yN.cls :: New1.site))
/-- the words ride from the start Z to the walk's own state -/
theorem moved {Z s : State} {a0 args : Array Value} (hZ : Z.Warmed39 s.vm) (hw : ∀ d ∈ words, d.before a0 Z = true) : ∀ d ∈ words, d.before args s = true := fun d hd => by
  have q := hw d hd
  have t : ∀ d ∈ words, d = .arrayClass .byte ∨ (d.onTables && d.keepsFace) = true := by decide +kernel
  rcases t d hd with rfl | t
  · exact RoadKit.mvA hZ q
  · exact RoadKit.mv hZ q t
/-- WHAT COMES BACK, over the tables of the start Z: h the heap at the call, h' behind it -/
def Q (Z : State) (x : Addr) (A : Cell) (h : Heap) (v : Option Value) (h' : Heap) (L : List Loc) : Prop := v = none ∧ (∀ y ∈ L, y.base = x) ∧ RoadKit.Keep h h' [x] ∧ h'.size = h.size + 1 ∧ RoadKit.Exa Z h' x ST ∧ RoadKit.Fld Z h' x ST "value" "[B" (.ref h.size) ∧ RoadKit.Fld Z h' x ST "coder" "B" (.int 0) ∧
  (∃ V : Cell, RoadKit.Arr Z h' h.size V .byte ∧ V.vm = .none ∧ Z.vm.findClass "[B" = some V.cls ∧ V.slots.size = A.slots.size ∧ ∀ j, j < A.slots.size → V.slots[j]? = some (.int (lo8 (cv A j)))) ∧
  ∀ (O n d : String) (w : Value), RoadKit.Fld Z h x O n d w → RoadKit.slotOf Z O n d ≠ RoadKit.slotOf Z ST "value" "[B" → RoadKit.slotOf Z O n d ≠ RoadKit.slotOf Z ST "coder" "B" → RoadKit.Fld Z h' x O n d w
/-- **new String(chars) AT A CALL, IN THE ROAD'S FORM**: for specialBack behind newO: x the fresh String, b the char[] with the cell A -/
theorem back {p : Program} {l : Launch} {e : Env} {R : Room} {s : State} {args : Array Value} {below : List Frame} {len W : Nat} {Z : State} {a0 : Array Value} {h : Heap} (hZ : Z.Warmed39 s.vm) (hw : ∀ d ∈ words, d.before a0 Z = true) {kI : Nat} (wi : (Jvm.Cond.instantiable ST kI).before a0 Z = true)
    {x b : Addr} {A : Cell} {z : Int32} {v0 c0 : Value} (E : RoadKit.Exa Z h x ST) (V : RoadKit.Fld Z h x ST "value" "[B" v0) (C : RoadKit.Fld Z h x ST "coder" "B" c0) (K : RoadKit.Arr Z h b A .char) (hty : Typed .char A) (S : RoadKit.Sta Z h ST "COMPACT_STRINGS" "Z" (.int z)) (hz : ¬ z = 0)
    (l0 : 0 < A.slots.size) (l2 : A.slots.size ≤ 536870912) (hp : ∀ i, i < A.slots.size → ¬ 255 < cv A i) (hfr : 4 ≤ R.frames) (hlo : W + 65 ≤ R.locals) :
    Back l R p e below s args New1.yN len W (fun P a => a = #[.ref x, .ref b] ∧ P.U.heap = h ∧ P.cells + 1 ≤ R.cells ∧ P.slots + A.slots.size ≤ R.slots)
      (fun P _ v B => ∃ L, Q Z x A h v B.U.heap L ∧ B.locs = P.locs ++ L ∧ B.cells = P.cells + 1 ∧ B.slots = P.slots + A.slots.size) := by
  intro m meth c P g ig mk a X hg hsize hdg hW hn hp'
  obtain ⟨rfl, rfl, r1, r2⟩ := hp'
  have al : Z.vm.Alike P.U.vm := hZ.alike.trans X.warmed.alike
  obtain ⟨D, cfV, kV, iV, fV, hD, gV, stV, knV, obV, asV, slV⟩ := id V
  obtain ⟨D', cfC, kC, iC, fC, hD', gC, stC, -, -, asC, slC⟩ := id C
  cases hD.symm.trans hD'
  obtain ⟨D2, kD, e1, e2, e3, e4, e5⟩ := id E
  cases hD.symm.trans e1
  obtain ⟨c2, k2, i1, i2, i3, -⟩ := Cond.instantiable_spec wi
  cases e2.symm.trans i1
  cases e3.symm.trans i2
  obtain ⟨kU, u1, u2⟩ := al.2.2 _ _ e3
  have hB : Blank ST x D P.U := ⟨hD, ⟨knV, fun q hq => by rw [hq] at obV; cases obV⟩, by rw [al.findClass]; exact e2, kU, u1, by rw [u2]; exact i3, by rw [u2]; exact e5 i3⟩
  have F1 : Found ST "value" "[B" fV P.U := ⟨SBG.found_only al ⟨cfV, kV, iV, gV⟩, stV⟩
  have F2 : Found ST "coder" "B" fC P.U := ⟨SBG.found_only al ⟨cfC, kC, iC, gC⟩, stC⟩
  have hA : Ch b A P.U := ⟨⟨K.1, State.isArrayOf_alike al K.2.1, K.2.2, by omega⟩, hty⟩
  have hS : StaticIs P.U ST "COMPACT_STRINGS" "Z" (.int z) := by
    obtain ⟨cfS, iS, kS, fS, st, cS, t1, t2, t3, t4, t5, t6, t7⟩ := S
    exact StaticIs.there (s := { Z with heap := P.U.heap }) ⟨cfS, iS, kS, fS, st, cS, t1, t2, t3, t4, t5, (fun q => by rw [q] at t6; cases t6), t7⟩ al rfl
  obtain ⟨v, B, X', ⟨⟨hv, E', V', q1, q2, q3, q4, q5, q6, q7, q8, q9, q10, q11⟩, hl, hc, hs⟩, st⟩ := New1.pays x D fV fC b A z (tab_of (moved hZ hw)) hfr hlo m meth c P g ig mk _ X hg hsize hdg hW hn ⟨r1, r2, rfl, hB, F1, F2, hA, hS, hz, l0, l2, hp⟩
  have al' : Z.vm.Alike B.U.vm := hZ.alike.trans X'.warmed.alike
  have hsz : E'.slots.size = D.slots.size := by
    obtain ⟨-, -, -, kB, w1, w2, w3⟩ := q1
    obtain ⟨kB', y1, y2⟩ := al'.2.2 _ _ e3
    rw [q2.2.1] at w1
    cases w1.symm.trans y1
    rw [w3, e5 i3, y2]
  refine ⟨v, B, X', ⟨_, ⟨hv, ?_, ⟨by omega, fun y cy hy hn' => q10 y cy (by simpa using hn') hy, fun y cy hy => ?_⟩, q11, ⟨E', _, q1.1, by rw [q2.2.1]; exact e2, by rw [q2.2.1]; exact e3, by rw [q2.1]; exact obV, fun _ => by rw [hsz]; exact e5 i3⟩,
    ⟨E', cfV, kV, iV, fV, q1.1, gV, stV, by rw [q2.1]; exact knV, by rw [q2.1]; exact obV, by rw [q2.2.1]; exact asV, q3⟩, ⟨E', cfC, kC, iC, fC, q1.1, gC, stC, by rw [q2.1]; exact knV, by rw [q2.1]; exact obV, by rw [q2.2.1]; exact asC, q4⟩,
    ⟨V', ⟨q5.1, State.isArrayOf_alike al'.symm q5.2.1, q5.2.2.1⟩, q6, by rw [← al'.findClass]; exact q7, q8, fun j hj => by have := q9 j hj; rwa [Nat.zero_add] at this⟩, fun O n d w F n1 n2 => ?_⟩, hl, hc, hs⟩, st⟩
  · intro y hy
    simp only [List.mem_cons, List.not_mem_nil, or_false] at hy
    rcases hy with rfl | rfl <;> rfl
  · by_cases q : y = x
    · subst q
      cases hD.symm.trans hy
      exact ⟨E', q1.1, q2.2.1, q2.1, hsz⟩
    · exact ⟨cy, q10 y cy q hy, rfl, rfl, rfl⟩
  · obtain ⟨D3, cf, k, i, f, g1, g2, g3, g4, g5, g6, g7⟩ := F
    cases hD.symm.trans g1
    simp only [RoadKit.slotOf, g2, gV, gC, Option.map_some, Option.getD_some] at n1 n2
    exact ⟨E', cf, k, i, f, q1.1, g2, g3, by rw [q2.1]; exact g4, by rw [q2.1]; exact g5, by rw [q2.2.1]; exact g6, by rw [q2.2.2 f.slot (by simp [n1, n2])]; exact g7⟩
end StrChars.Road
namespace StrChars.Road
open Jvm Sem ClassFile Op Lib Jvm.Stand Jvm.Free Jvm.Free.XT
/-- WHAT COMES BACK, the byte[] as a list of values -/
def QA (Z : State) (x : Addr) (zn : Int32) (cs : List Int32) (h : Heap) (v : Option Value) (h' : Heap) (L : List Loc) : Prop := v = none ∧ (∀ y ∈ L, y.base = x) ∧ RoadKit.Keep h h' [x] ∧ h'.size = h.size + 1 ∧ RoadKit.Exa Z h' x ST ∧ RoadKit.Fld Z h' x ST "value" "[B" (.ref h.size) ∧ RoadKit.Fld Z h' x ST "coder" "B" (.int 0) ∧
  (∃ kb, Z.vm.findClass "[B" = some kb ∧ RoadKit.Arv Z h' h.size kb .byte zn (cs.map fun c => .int (lo8 c)) (.int 0)) ∧
  ∀ (O n d : String) (w : Value), RoadKit.Fld Z h x O n d w → RoadKit.slotOf Z O n d ≠ RoadKit.slotOf Z ST "value" "[B" → RoadKit.slotOf Z O n d ≠ RoadKit.slotOf Z ST "coder" "B" → RoadKit.Fld Z h' x O n d w
/-- **new String(chars) AT A CALL, THE ARRAYS AS LISTS**: the char[] at b holds cs, not empty, no char above 255 -/
theorem backArv {p : Program} {l : Launch} {e : Env} {R : Room} {s : State} {args : Array Value} {below : List Frame} {len W : Nat} {Z : State} {a0 : Array Value} {h : Heap} (hZ : Z.Warmed39 s.vm) (hw : ∀ d ∈ words, d.before a0 Z = true) {kI : Nat} (wi : (Jvm.Cond.instantiable ST kI).before a0 Z = true)
    {x b : Addr} {k : ClassId} {zn z : Int32} {cs : List Int32} {dv v0 c0 : Value} (E : RoadKit.Exa Z h x ST) (V : RoadKit.Fld Z h x ST "value" "[B" v0) (C : RoadKit.Fld Z h x ST "coder" "B" c0) (K : RoadKit.Arv Z h b k .char zn (cs.map Value.int) dv) (S : RoadKit.Sta Z h ST "COMPACT_STRINGS" "Z" (.int z)) (hz : ¬ z = 0)
    (hlen : zn.toNatClampNeg = cs.length) (h0 : 0 < cs.length) (hbig : cs.length ≤ 536870912) (hall : ∀ c ∈ cs, ¬ 255 < c) (hfr : 4 ≤ R.frames) (hlo : W + 65 ≤ R.locals) :
    Back l R p e below s args New1.yN len W (fun P a => a = #[.ref x, .ref b] ∧ P.U.heap = h ∧ P.cells + 1 ≤ R.cells ∧ P.slots + cs.length ≤ R.slots)
      (fun P _ v B => ∃ L, QA Z x zn cs h v B.U.heap L ∧ B.locs = P.locs ++ L ∧ B.cells = P.cells + 1 ∧ B.slots = P.slots + cs.length) := by
  obtain ⟨A, K1, K2, K3, K4, K5, K6⟩ := K
  have e : A.slots.size = cs.length := K3.trans hlen
  have hat : ∀ (i : Nat) (hi : i < cs.length), A.slots[i]? = some (.int cs[i]) := fun i hi => by rw [K5 i (by omega)]; simp [List.getD_eq_getElem?_getD, hi]
  have hcv : ∀ (i : Nat) (hi : i < cs.length), cv A i = cs[i] := fun i hi => by unfold cv; rw [hat i hi]
  have hty : Typed .char A := fun i v hv => by
    have hi : i < A.slots.size := (Array.getElem?_eq_some_iff.mp hv).1
    have q := K5 i hi
    rw [hv] at q
    rw [Option.some.inj q]
    exact K6 i hi
  refine Back.mono (back hZ hw wi E V C K1 hty S hz (by omega) (by omega) (fun i hi => by rw [hcv i (by omega)]; exact hall _ (List.getElem_mem _)) hfr hlo) (fun P a hp => ⟨hp.1, hp.2.1, hp.2.2.1, by rw [e]; exact hp.2.2.2⟩) (fun P a v B hp hq => ?_)
  obtain ⟨L, ⟨q1, q2, q3, q4, q5, q6, q7, ⟨V', v1, v2, v3, v4, v5⟩, q9⟩, hl, hc, hs⟩ := hq
  refine ⟨L, ⟨q1, q2, q3, q4, q5, q6, q7, ⟨V'.cls, v3, V', v1, rfl, by rw [v4, e, hlen], K4, fun i hi => ?_, fun i hi => ?_⟩, q9⟩, hl, hc, by rw [hs, e]⟩
  · have hi' : i < cs.length := by omega
    rw [v5 i (by omega), hcv i hi']; simp [List.getD_eq_getElem?_getD, hi']
  · have hi' : i < cs.length := by omega
    simp only [List.getD_eq_getElem?_getD, List.getElem?_map, List.getElem?_eq_getElem hi', Option.map_some, Option.getD_some]
    exact fits_lo8 _
end StrChars.Road
namespace StrChars.Road
open Jvm Sem ClassFile Op Lib Jvm.Stand Jvm.Free Jvm.Free.XT
/-- WHAT COMES BACK, in the writer's own shape -/
def QV (Z : State) (x : Addr) (N : Int32) (bs : List Int32) (h : Heap) (n0 : Nat) (v : Option Value) (h' : Heap) (L : List Loc) : Prop := v = none ∧ RoadKit.Fr n0 L ∧ RoadKit.Keep h h' [x] ∧ RoadKit.Exa Z h' x ST ∧ RoadKit.Fld Z h' x ST "coder" "B" (.int 0) ∧
  ∃ (t : Addr) (kb : ClassId), n0 ≤ t ∧ h.size ≤ t ∧ ¬ t = x ∧ RoadKit.Fld Z h' x ST "value" "[B" (.ref t) ∧ RoadKit.Arv Z h' t kb .byte N (bs.map Value.int) (.int 0)
/-- **new String(chars) AT A CALL, FOR THE WRITER**: a char[] of n known ints, each 0 to 255 -/
theorem backV {p : Program} {l : Launch} {e : Env} {R : Room} {s : State} {args : Array Value} {below : List Frame} {len W : Nat} {Z : State} {a0 : Array Value} {h : Heap} (hZ : Z.Warmed39 s.vm) (hw : ∀ d ∈ words, d.before a0 Z = true) {kI : Nat} (wi : (Jvm.Cond.instantiable ST kI).before a0 Z = true)
    {x b : Addr} {kC : ClassId} {cs bs : List Int32} {d v0 c0 : Value} {z N : Int32} {n n0 : Nat} (hx0 : n0 ≤ x) (hh0 : n0 ≤ h.size) (E : RoadKit.Exa Z h x ST) (V : RoadKit.Fld Z h x ST "value" "[B" v0) (C : RoadKit.Fld Z h x ST "coder" "B" c0) (K : RoadKit.Arv Z h b kC .char N (cs.map Value.int) d) (S : RoadKit.Sta Z h ST "COMPACT_STRINGS" "Z" (.int z)) (hz : ¬ z = 0)
    (hn : cs.length = n) (hN : N = Int32.ofNat n) (l0 : 0 < n) (l2 : n ≤ 4000) (hp : ∀ c ∈ cs, ¬ c < 0 ∧ ¬ (255 : Int32) < c) (hb : bs = cs.map (fun c => c.toInt8.toInt32)) (hfr : 4 ≤ R.frames) (hlo : W + 65 ≤ R.locals) :
    Back l R p e below s args (⟨"java/lang/String", "<init>", "([C)V"⟩ : MethodName) len W (fun P a => a = #[.ref x, .ref b] ∧ P.U.heap = h ∧ P.cells + 1 ≤ R.cells ∧ P.slots + n ≤ R.slots)
      (fun P _ v B => ∃ L, QV Z x N bs h n0 v B.U.heap L ∧ B.locs = P.locs ++ L ∧ B.cells = P.cells + 1 ∧ B.slots = P.slots + n) := by
  subst hn hN hb
  refine Back.mono (backArv hZ hw wi E V C K S hz (n32 (by omega)) l0 (by omega) (fun c hc => (hp c hc).2) hfr hlo) (fun P a hp => hp) (fun P a v B hp hq => ?_)
  obtain ⟨L, ⟨q1, q2, q3, q4, q5, q6, q7, ⟨kb, v1, v2⟩, q9⟩, hl, hc, hs⟩ := hq
  exact ⟨L, ⟨q1, fun y hy => by rw [q2 y hy]; exact hx0, q3, q5, q7, h.size, kb, hh0, Nat.le_refl _, Nat.ne_of_gt E.lt, q6, by rw [List.map_map]; exact v2⟩, hl, hc, hs⟩
end StrChars.Road
end Jvm.Pilot.@@N@@
namespace Jvm.Pilot.@@N@@
open Jvm Jvm.ClassFile Sem Op Lib Jvm.Free Jvm.Stand Jvm.LawKit Jvm.RoadKit Bundle Jvm.Pilot.@@N@@.Jvm.D
theorem own_w {a0 : Array Value} {Z : State} (hw : ∀ d ∈ tables_1, d.before a0 Z = true) (i : Nat) {d : Jvm.Cond} (h : tables_1[i]? = some d) : d.before a0 Z = true := hw d (List.mem_of_getElem? h)
section Own
variable {p : Program} {l : Launch} {e : Env} {R : Room} {s : State} {m : MethodId} {args : Array Value} {below : List Frame} {meth : Method} {c : Code} {T T' : State} {locs : List Loc} {cells slots : Nat} {g g' : JFrame} {K : Outcome → State → Prop} {Q : Option Value → Heap → List Loc → Prop} {kc ks : Nat}
/-- from this state, with this frame on top, the run comes to an end at which K holds -/
def own_E (p : Program) (e : Env) (below : List Frame) (K : Outcome → State → Prop) (T : State) (g : JFrame) : Prop :=
  ∃ s₂ o, Steps p.tables e below (T.setTop g) s₂ ∧ s₂.status = .running ∧ Ended s₂ below o ∧ K o s₂
def own_K (Q : Option Value → Heap → List Loc → Prop) (s : State) (kc ks : Nat) : Outcome → State → Prop :=
  fun o U' => ∃ v L, o = .returned v ∧ Q v U'.heap L ∧ FrameEnd s o U' L kc ks
theorem own_st (st : ∀ t, Steps p.tables e below (T'.setTop g') t → Steps p.tables e below (T.setTop g) t) (k : own_E p e below K T' g') : own_E p e below K T g := by
  obtain ⟨s2, o, h1, h2⟩ := k
  exact ⟨s2, o, st _ h1, h2⟩
theorem own_tr (st : Steps p.tables e below (T.setTop g) (T'.setTop g')) (k : own_E p e below K T' g') : own_E p e below K T g :=
  own_st (fun _ h => st.trans h) k
theorem own_pre (q : g = g') (k : own_E p e below K T g') : own_E p e below K T g := q ▸ k
theorem own_end (X : Stand p l e R s m args below meth c T locs cells slots) (hlk : meth.locks = false) {v : Option Value} (hv : meth.sig.returnType = none → v = none)
    (hr : ∀ fs : List Frame, (∀ (f : JFrame) (acts : List Action), f.method = m → f.locked = none → f.entered = [] → (doReturn e (T.setTop f) acts v).1 = T.setFrames fs) → Steps p.tables e below (T.setTop g) (T.setFrames fs))
    (hc : cells ≤ kc) (hs : slots ≤ ks) (hQ : Q v T.heap locs) : own_E p e below (own_K Q s kc ks) T g := by
  obtain ⟨fs, h1, hrun, hended, hW, hsame⟩ := X.leave (v := v) hv hlk
  exact ⟨_, _, hr fs h1, hrun, hended, _, _, rfl, hQ, ⟨_, rfl⟩, hW, hsame.mono hc hs⟩
theorem own_retV (X : Stand p l e R s m args below meth c T locs cells slots) (hx : p.tables.exec = Jvm.exec) (hlk : meth.locks = false) {pc : Nat} {Ls : Array Slot} (hret : meth.sig.returnType = none)
    (hd : decode c.code pc = .ok (.return_, 1)) (hc : cells ≤ kc) (hs : slots ≤ ks) (hQ : Q none T.heap locs) : own_E p e below (own_K Q s kc ks) T (mkF m pc Ls []) :=
  own_end X hlk (fun _ => rfl) (fun fs h => X.returnOut hx hret hd h) hc hs hQ
theorem own_retG (X : Stand p l e R s m args below meth c T locs cells slots) (hx : p.tables.exec = Jvm.exec) (hlk : meth.locks = false) {pc : Nat} {Ls : Array Slot} {w : Value} {t : FieldType} {i : Instr} {rest : List Value} (hret : meth.sig.returnType = some t) (hn : narrow t w = w)
    (hi : (i = .ireturn ∧ (t = .int ∨ t = .boolean ∨ t = .byte ∨ t = .char ∨ t = .short) ∧ ∃ z, w = .int z) ∨ (i = .lreturn ∧ t = .long ∧ ∃ z, w = .long z) ∨ (i = .dreturn ∧ t = .double ∧ ∃ z, w = .double z) ∨ (i = .freturn ∧ t = .float ∧ ∃ z, w = .float z) ∨ (i = .areturn ∧ t.isReference = true ∧ w.isRef = true))
    (hd : decode c.code pc = .ok (i, 1)) (hc : cells ≤ kc) (hs : slots ≤ ks) (hQ : Q (some w) T.heap locs) : own_E p e below (own_K Q s kc ks) T (mkF m pc Ls (w :: rest)) :=
  own_end X hlk (fun h => by rw [hret] at h; cases h) (fun fs h => retOut X hx hret hn hi hd h) hc hs hQ
theorem own_retI (X : Stand p l e R s m args below meth c T locs cells slots) (hx : p.tables.exec = Jvm.exec) (hlk : meth.locks = false) {pc : Nat} {Ls : Array Slot} {z : Int32} {rest : List Value} (hret : meth.sig.returnType = some .int)
    (hd : decode c.code pc = .ok (.ireturn, 1)) (hc : cells ≤ kc) (hs : slots ≤ ks) (hQ : Q (some (.int z)) T.heap locs) : own_E p e below (own_K Q s kc ks) T (mkF m pc Ls (.int z :: rest)) :=
  own_retG X hx hlk hret rfl (Or.inl ⟨rfl, Or.inl rfl, z, rfl⟩) hd hc hs hQ
theorem own_retS (X : Stand p l e R s m args below meth c T locs cells slots) (hx : p.tables.exec = Jvm.exec) (hlk : meth.locks = false) {pc : Nat} {Ls : Array Slot} {z : Int32} {t : FieldType} {rest : List Value} (hret : meth.sig.returnType = some t) (hn : narrow t (.int z) = .int z)
    (ht : t = .int ∨ t = .boolean ∨ t = .byte ∨ t = .char ∨ t = .short) (hd : decode c.code pc = .ok (.ireturn, 1)) (hc : cells ≤ kc) (hs : slots ≤ ks) (hQ : Q (some (.int z)) T.heap locs) : own_E p e below (own_K Q s kc ks) T (mkF m pc Ls (.int z :: rest)) :=
  own_retG X hx hlk hret hn (Or.inl ⟨rfl, ht, z, rfl⟩) hd hc hs hQ
theorem own_retN (X : Stand p l e R s m args below meth c T locs cells slots) (hx : p.tables.exec = Jvm.exec) (hlk : meth.locks = false) {pc : Nat} {Ls : Array Slot} {z : Int32} {t : FieldType} {rest : List Value} (hret : meth.sig.returnType = some t)
    (ht : t = .boolean ∨ t = .byte ∨ t = .char ∨ t = .short) (hd : decode c.code pc = .ok (.ireturn, 1)) (hc : cells ≤ kc) (hs : slots ≤ ks) (hQ : Q (some (.int (nar t z))) T.heap locs) : own_E p e below (own_K Q s kc ks) T (mkF m pc Ls (.int z :: rest)) :=
  own_end X hlk (fun h => by rw [hret] at h; cases h) (fun fs h => retN X hx hret ht hd h) hc hs hQ
theorem own_retJ (X : Stand p l e R s m args below meth c T locs cells slots) (hx : p.tables.exec = Jvm.exec) (hlk : meth.locks = false) {pc : Nat} {Ls : Array Slot} {z : Int64} {rest : List Value} (hret : meth.sig.returnType = some .long)
    (hd : decode c.code pc = .ok (.lreturn, 1)) (hc : cells ≤ kc) (hs : slots ≤ ks) (hQ : Q (some (.long z)) T.heap locs) : own_E p e below (own_K Q s kc ks) T (mkF m pc Ls (.long z :: rest)) :=
  own_retG X hx hlk hret rfl (Or.inr (Or.inl ⟨rfl, rfl, z, rfl⟩)) hd hc hs hQ
theorem own_retA (X : Stand p l e R s m args below meth c T locs cells slots) (hx : p.tables.exec = Jvm.exec) (hlk : meth.locks = false) {pc : Nat} {Ls : Array Slot} {w : Value} {t : FieldType} {rest : List Value} (hret : meth.sig.returnType = some t) (ht : t.isReference = true) (hw : w.isRef = true)
    (hd : decode c.code pc = .ok (.areturn, 1)) (hc : cells ≤ kc) (hs : slots ≤ ks) (hQ : Q (some w) T.heap locs) : own_E p e below (own_K Q s kc ks) T (mkF m pc Ls (w :: rest)) :=
  own_retG X hx hlk hret (by cases w <;> cases t <;> first | rfl | (simp [Value.isRef] at hw) | (simp [FieldType.isReference] at ht)) (Or.inr (Or.inr (Or.inr (Or.inr ⟨rfl, ht, hw⟩)))) hd hc hs hQ
end Own
theorem own_StaK {Z : State} {h h' : Heap} {C n d : String} {v : Value} (F : Sta Z h C n d v) (K : Keep h h' []) : Sta Z h' C n d v := Sta.ext ⟨K.1, fun a c q => K.2.1 a c q nin0⟩ F
section OwnArr
variable {p : Program} {l : Launch} {e : Env} {R : Room} {s : State} {m : MethodId} {args : Array Value} {below : List Frame} {meth : Method} {c : Code} {T : State} {locs : List Loc} {cells slots : Nat} {Z : State} {h : Heap} {a : Addr} {k : ClassId} {z : Int32} {vs : List Value} {dv : Value}
theorem own_alen (X : Stand p l e R s m args below meth c T locs cells slots) (hx : p.tables.exec = Jvm.exec) (hZ : Z.Warmed39 s.vm) (eT : T.heap = h) {ty : FieldType} (F : Arv Z h a k ty z vs dv) {g : JFrame} (hg : g.method = m) {rest : List Value} (hs : g.stack = .ref a :: rest) (hd : decode c.code g.pc = .ok (.arraylength, 1)) :
    ∀ target, Steps p.tables e below (T.setTop { g with pc := g.pc + 1, stack := .int z :: rest }) target → Steps p.tables e below (T.setTop g) target := by
  obtain ⟨cl, A, q, S, N, H, G⟩ := F
  intro target hr
  refine X.arraylength hx (by rw [eT]; exact A.1) (State.isArrayOf_alike hZ.alike A.2.1) hg hs hd _ ?_
  rw [len_of S N]; exact hr
theorem own_ald (X : Stand p l e R s m args below meth c T locs cells slots) (hx : p.tables.exec = Jvm.exec) (hZ : Z.Warmed39 s.vm) (eT : T.heap = h) (F : Arv Z h a k .int z vs dv) {j : Int32} (hj : ¬ j < 0 ∧ j < z) {v : Value} (hv : vs.getD j.toNatClampNeg dv = v) {g : JFrame} (hg : g.method = m) {rest : List Value} (hs : g.stack = .int j :: .ref a :: rest) (hd : decode c.code g.pc = .ok (.iaload, 1)) :
    ∀ target, Steps p.tables e below (T.setTop { g with pc := g.pc + 1, stack := v :: rest }) target → Steps p.tables e below (T.setTop g) target := by
  obtain ⟨cl, A, q, S, N, H, G⟩ := F
  have hin := inb_of S hj
  exact X.iaload hx (by rw [eT]; exact A.1) (State.isArrayOf_alike hZ.alike A.2.1) A.2.2 hin (H.at hin hv) hg hs hd
theorem own_ast (X : Stand p l e R s m args below meth c T locs cells slots) (hx : p.tables.exec = Jvm.exec) (hZ : Z.Warmed39 s.vm) (eT : T.heap = h) (F : Arv Z h a k .int z vs dv) {j : Int32} (hj : ¬ j < 0 ∧ j < z) {x : Int32} {i : Nat} (hi : j.toNatClampNeg = i) (hl : i < vs.length) {g : JFrame} (hg : g.method = m) {rest : List Value} (hs : g.stack = .int x :: .int j :: .ref a :: rest) (hd : decode c.code g.pc = .ok (.iastore, 1)) :
    ∃ T' h', Stand p l e R s m args below meth c T' (locs ++ [⟨a, j.toNatClampNeg⟩]) cells slots ∧ T'.heap = h' ∧ Wr h h' a j.toNatClampNeg (.int x) ∧ Arv Z h' a k .int z (vs.set i (.int x)) dv ∧ ∀ target, Steps p.tables e below (T'.setTop { g with pc := g.pc + 1, stack := rest }) target → Steps p.tables e below (T.setTop g) target := by
  obtain ⟨cl, A, q, S, N, H, G⟩ := F
  have hin := inb_of S hj
  obtain ⟨T', h', X', e', W, st⟩ := stI X hx hZ eT A hin hg hs hd
  exact ⟨T', h', X', e', W, Arv.set A q S N H G rfl W i hi hl, st⟩
theorem own_cst (X : Stand p l e R s m args below meth c T locs cells slots) (hx : p.tables.exec = Jvm.exec) (hZ : Z.Warmed39 s.vm) (eT : T.heap = h) (F : Arv Z h a k .char z vs dv) {j : Int32} (hj : ¬ j < 0 ∧ j < z) {x : Int32} {i : Nat} (hi : j.toNatClampNeg = i) (hl : i < vs.length) {g : JFrame} (hg : g.method = m) {rest : List Value} (hs : g.stack = .int x :: .int j :: .ref a :: rest) (hd : decode c.code g.pc = .ok (.castore, 1)) :
    ∃ T' h', Stand p l e R s m args below meth c T' (locs ++ [⟨a, j.toNatClampNeg⟩]) cells slots ∧ T'.heap = h' ∧ Wr h h' a j.toNatClampNeg (.int (nar .char x)) ∧ Arv Z h' a k .char z (vs.set i (.int (nar .char x))) dv ∧ ∀ target, Steps p.tables e below (T'.setTop { g with pc := g.pc + 1, stack := rest }) target → Steps p.tables e below (T.setTop g) target := by
  obtain ⟨cl, A, q, S, N, H, G⟩ := F
  have hin := inb_of S hj
  obtain ⟨T', h', X', e', W, st⟩ := stC X hx hZ eT A hin hg hs hd
  exact ⟨T', h', X', e', W, Arv.set A q S N H G (fits_nar_char _) W i hi hl, st⟩
end OwnArr
theorem own_words {a0 : Array Value} {Z : State} (hw : ∀ d ∈ tables_1, d.before a0 Z = true) : ∀ d ∈ StrChars.Road.words, d.before a0 Z = true := fun d hd => hw d ((by decide +kernel : ∀ d ∈ StrChars.Road.words, d ∈ tables_1) d hd)
section OwnWide
variable {p : Program} {l : Launch} {e : Env} {R : Room} {s : State} {vm₁ : Vm} {m : MethodId} {args : Array Value} {below : List Frame} {meth : Method} {c : Code} {T : State} {locs : List Loc} {cells slots : Nat} {g : JFrame} {Q : Option Value → Heap → List Loc → Prop} {kc ks n : Nat}
theorem own_Zw {Z : State} (hZ : Z.Warmed39 s.vm) (hS : s.Since vm₁ n) : Z.Warmed39 (s.setVm vm₁).vm := State.Warmed39.trans hZ hS.1
theorem own_ow {own : String} {k : ClassId} (ho : s.vm.findClass own = some k) (hS : s.Since vm₁ n) : (s.setVm vm₁).vm.findClass own = some k := by
  rw [show (s.setVm vm₁).vm = vm₁ from rfl, hS.1.alike.findClass]; exact ho
def own_KW (Q : Option Value → Heap → List Loc → Prop) (s : State) (kc ks : Nat) : Outcome → State → Prop :=
  fun o U' => ∃ v L, o = .returned v ∧ Q v U'.heap L ∧ ReturnedEndW s o U' L kc ks
theorem own_since (s : State) : s.Since s.vm 0 := (State.WarmedH.refl s).since 0
theorem own_wS {a0 : Array Value} {Z : State} (hw : ∀ d ∈ tables_1, d.before a0 Z = true) : ∀ a ∈ Bundle.stringAtoms, a.before a0 Z = true := by
  intro a ha
  simp only [Bundle.stringAtoms, List.mem_cons, List.not_mem_nil, or_false] at ha
  rcases ha with rfl | rfl | rfl | rfl | rfl | rfl | rfl
  · exact own_w hw 8 rfl
  · exact own_w hw 7 rfl
  · exact own_w hw 20 rfl
  · exact own_w hw 21 rfl
  · exact own_w hw 22 rfl
  · exact own_w hw 23 rfl
  · exact own_w hw 24 rfl
theorem own_endW (X : Stand p l e R (s.setVm vm₁) m args below meth c T locs cells slots) (hS : s.Since vm₁ n) (hn : n ≤ T.heap.size) (hlk : meth.locks = false) {v : Option Value} (hv : meth.sig.returnType = none → v = none)
    (hr : ∀ fs : List Frame, (∀ (f : JFrame) (acts : List Action), f.method = m → f.locked = none → f.entered = [] → (doReturn e (T.setTop f) acts v).1 = T.setFrames fs) → Steps p.tables e below (T.setTop g) (T.setFrames fs))
    (hc : cells ≤ kc) (hs : slots ≤ ks) (hQ : Q v T.heap locs) : own_E p e below (own_KW Q s kc ks) T g := by
  obtain ⟨fs, h1, hrun, hended, q1, q2, q3, q4⟩ := X.leaveW hS hn (v := v) hv hlk
  exact ⟨_, _, hr fs h1, hrun, hended, _, _, rfl, hQ, q1, q2, q3, q4.mono hc hs⟩
theorem own_retVW (X : Stand p l e R (s.setVm vm₁) m args below meth c T locs cells slots) (hS : s.Since vm₁ n) (hn : n ≤ T.heap.size) (hx : p.tables.exec = Jvm.exec) (hlk : meth.locks = false) {pc : Nat} {Ls : Array Slot} (hret : meth.sig.returnType = none)
    (hd : decode c.code pc = .ok (.return_, 1)) (hc : cells ≤ kc) (hs : slots ≤ ks) (hQ : Q none T.heap locs) : own_E p e below (own_KW Q s kc ks) T (mkF m pc Ls []) :=
  own_endW X hS hn hlk (fun _ => rfl) (fun fs h => X.returnOut hx hret hd h) hc hs hQ
theorem own_retSW (X : Stand p l e R (s.setVm vm₁) m args below meth c T locs cells slots) (hS : s.Since vm₁ n) (hn : n ≤ T.heap.size) (hx : p.tables.exec = Jvm.exec) (hlk : meth.locks = false) {pc : Nat} {Ls : Array Slot} {z : Int32} {t : FieldType} {rest : List Value} (hret : meth.sig.returnType = some t) (hn' : narrow t (.int z) = .int z)
    (ht : t = .int ∨ t = .boolean ∨ t = .byte ∨ t = .char ∨ t = .short) (hd : decode c.code pc = .ok (.ireturn, 1)) (hc : cells ≤ kc) (hs : slots ≤ ks) (hQ : Q (some (.int z)) T.heap locs) : own_E p e below (own_KW Q s kc ks) T (mkF m pc Ls (.int z :: rest)) :=
  own_endW X hS hn hlk (fun h => by rw [hret] at h; cases h) (fun fs h => retOut X hx hret hn' (Or.inl ⟨rfl, ht, z, rfl⟩) hd h) hc hs hQ
theorem own_retAW (X : Stand p l e R (s.setVm vm₁) m args below meth c T locs cells slots) (hS : s.Since vm₁ n) (hn : n ≤ T.heap.size) (hx : p.tables.exec = Jvm.exec) (hlk : meth.locks = false) {pc : Nat} {Ls : Array Slot} {w : Value} {t : FieldType} {rest : List Value} (hret : meth.sig.returnType = some t) (ht : t.isReference = true) (hw : w.isRef = true)
    (hd : decode c.code pc = .ok (.areturn, 1)) (hc : cells ≤ kc) (hs : slots ≤ ks) (hQ : Q (some w) T.heap locs) : own_E p e below (own_KW Q s kc ks) T (mkF m pc Ls (w :: rest)) :=
  own_endW X hS hn hlk (fun h => by rw [hret] at h; cases h) (fun fs h => retOut X hx hret (by cases w <;> cases t <;> first | rfl | (simp [Value.isRef] at hw) | (simp [FieldType.isReference] at ht)) (Or.inr (Or.inr (Or.inr (Or.inr ⟨rfl, ht, hw⟩)))) hd h) hc hs hQ
end OwnWide

theorem own_IB {Z s : State} {vm₁ : Vm} {Ts : List String} (h : s.WarmedH vm₁) (I : IB Z s.vm Ts) : IB Z vm₁ Ts := by
  obtain ⟨more, h1, h2⟩ := I
  exact ⟨more, by rw [h.interned_eq, h1], h2⟩
theorem own_ExtK {z h h' : Heap} (E : Ext z h) (K : Keep h h' []) : Ext z h' := ⟨Nat.le_trans E.1 K.1, fun a c q => K.2.1 a c (E.2 a c q) nin0⟩
theorem own_backI {p : Program} {l : Launch} {e : Env} {R : Room} {s : State} {args : Array Value} {below : List Frame} {Z : State} {a0 : Array Value} {h : Heap} {y : MethodName} {bytes : ByteArray} {maxL : Nat} {ret : Option FieldType} {rm : Room} {len W : Nat} {as' : Array Value} {Ts : List String} {Q : Option Value → Heap → List Loc → Prop}
    (hM : MetFree l y (head1 [Cond.code y bytes maxL ret] rm) (fun a U => a = as' ∧ Z.Warmed39 U.vm ∧ IB Z U.vm Ts ∧ U.heap = h) (fun _ _ _ _ _ => True) (fun _ U o U' => ∃ v L, o = .returned v ∧ Q v U'.heap L ∧ ReturnedEndW U o U' L rm.cells rm.slots))
    (hZ : Z.Warmed39 s.vm) (hI : IB Z s.vm Ts) (wc : (Cond.code y bytes maxL ret).before a0 Z = true) (wz : (Cond.initialized y.cls).before a0 Z = true) (hf : rm.frames + 1 ≤ R.frames) (hl : W + (maxL + 11) + rm.locals ≤ R.locals) :
    BackS l R p e below s args y len W (fun A a => a = as' ∧ A.U.heap = h ∧ A.cells + rm.cells ≤ R.cells ∧ A.slots + rm.slots ≤ R.slots)
      (fun A _ v B => ∃ L, Q v B.U.heap L ∧ B.locs = A.locs ++ L ∧ B.cells = A.cells + rm.cells ∧ B.slots = A.slots + rm.slots) :=
  BackS.of_freeW (bytes := bytes) (maxL := maxL) (ret := ret) (E := fun _ _ o t L k n => k = rm.cells ∧ n = rm.slots ∧ ∃ v, o = .returned v ∧ Q v t.heap L) hM hf hl
    (fun _ _ _ A a Y hp => have hU : Z.Warmed39 A.U.vm := wtrans hZ Y.warmed
      ⟨by show (Cond.and _ .tt).before a A.U = true; rw [Cond.before_and, mv hU wc]; rfl, mv hU wc, mv hU wz, hp.2.2.1, hp.2.2.2⟩)
    (fun _ _ _ _ _ _ _ Y hp => ⟨hp.1, wtrans hZ Y.warmed, own_IB Y.warmed hI, hp.2.1⟩) (fun _ _ _ _ _ _ _ _ _ => trivial)
    (fun _ _ _ _ ⟨v, L, h1, h2, h3⟩ => ⟨L, _, _, h3, rfl, rfl, v, h1, h2⟩)
    (fun _ _ _ _ _ _ _ _ _ L _ _ _ _ _ _ ⟨e1, e2, _, e3, e4⟩ => by cases e3; subst e1 e2; exact ⟨L, e4, rfl, rfl, rfl⟩)

theorem own_d_jdk_42_method_149_0 : decode jdk_42_method_149_code 0 = .ok (.aload_n 0, 1) := by decide +kernel
theorem own_d_jdk_42_method_149_1 : decode jdk_42_method_149_code 1 = .ok (.invokespecial 1, 3) := by decide +kernel
theorem own_d_jdk_42_method_149_4 : decode jdk_42_method_149_code 4 = .ok (.iload_n 3, 1) := by decide +kernel
theorem own_d_jdk_42_method_149_5 : decode jdk_42_method_149_code 5 = .ok (.ifCond .ne 22, 3) := by decide +kernel
theorem own_d_jdk_42_method_149_8 : decode jdk_42_method_149_code 8 = .ok (.aload_n 0, 1) := by decide +kernel
theorem own_d_jdk_42_method_149_9 : decode jdk_42_method_149_code 9 = .ok (.ldc 7, 2) := by decide +kernel
theorem own_d_jdk_42_method_149_11 : decode jdk_42_method_149_code 11 = .ok (.getfield 9, 3) := by decide +kernel
theorem own_d_jdk_42_method_149_14 : decode jdk_42_method_149_code 14 = .ok (.putfield 9, 3) := by decide +kernel
theorem own_d_jdk_42_method_149_17 : decode jdk_42_method_149_code 17 = .ok (.aload_n 0, 1) := by decide +kernel
theorem own_d_jdk_42_method_149_18 : decode jdk_42_method_149_code 18 = .ok (.ldc 7, 2) := by decide +kernel
theorem own_d_jdk_42_method_149_20 : decode jdk_42_method_149_code 20 = .ok (.getfield 15, 3) := by decide +kernel
theorem own_d_jdk_42_method_149_23 : decode jdk_42_method_149_code 23 = .ok (.putfield 15, 3) := by decide +kernel
theorem own_d_jdk_42_method_149_26 : decode jdk_42_method_149_code 26 = .ok (.return_, 1) := by decide +kernel
def own_new4_Q (Z : State) (a1 : Addr) (a2 : Addr) (h0 : Heap) (n0 : Nat) (v : Option Value) (h : Heap) (L : List Loc) : Prop := v = none ∧ Fr n0 L ∧ Keep h0 h [a1] ∧ Exa Z h a1 "java/lang/String"
abbrev own_y0 : MethodName := ⟨"java/lang/String", "<init>", "([CIILjava/lang/Void;)V"⟩
theorem own_pn_String : plainName "java/lang/String" = true := by first | (simp [plainName, overriddenIn]; done) | decide +kernel
theorem own_new4_ef (m : MethodId) (a1 : Addr) (a2 : Addr) : entryFrame m #[(.ref a1), (.ref a2), (.int (0 : Int32)), (.int (0 : Int32)), .null] 6 = mkF m 0 #[.val (.ref a1), .val (.ref a2), .val (.int (0 : Int32)), .val (.int (0 : Int32)), .val .null, .unset] [] := by first | (simp [entryFrame, mkF, argsToLocals, Value.category]; done) | rfl
set_option maxRecDepth 65536 in
set_option maxHeartbeats 40000000 in
theorem own_new4 (l : Launch) (Z : State) (a0 : Array Value) (hw : ∀ d ∈ tables_1, d.before a0 Z = true) (ws : List Jvm.Cond) (a1 : Addr) (a2 : Addr) (h0 : Heap) (n0 : Nat) (Z0 : n0 ≤ h0.size) (hO : Ext Z.heap h0) (hheld : Jvm.Lit.constHeld Z "java/lang/String" 7) (hcw : Jvm.Lit.compactW.before a0 Z = true) (E_a1 : Exa Z h0 a1 "java/lang/String") (F_value_a1 : Fld Z h0 a1 "java/lang/String" "value" "[B" .null) (F_coder_a1 : Fld Z h0 a1 "java/lang/String" "coder" "B" (.int (0 : Int32))) (g_a1 : n0 ≤ a1) :
    MetFree l own_y0 (head1 (Jvm.Cond.code own_y0 jdk_42_method_149_code 6 none :: ws) ({ frames := 1, cells := 2, slots := 4, locals := 12 } : Room)) (fun a U => a = #[(.ref a1), (.ref a2), (.int (0 : Int32)), (.int (0 : Int32)), .null] ∧ Z.Warmed39 U.vm ∧ IB Z U.vm [] ∧ U.heap = h0) (fun _ _ _ _ _ => True) (fun _ U o U' => ∃ v L, o = .returned v ∧ own_new4_Q Z a1 a2 h0 n0 v U'.heap L ∧ ReturnedEndW U o U' L ({ frames := 1, cells := 2, slots := 4, locals := 12 } : Room).cells ({ frames := 1, cells := 2, slots := 4, locals := 12 } : Room).slots) := by
  refine MetFree.of_bodySF (plainFor_of_name own_pn_String) hisR ?_
  intro p e s m args below meth c s₁ Bd hml0 hP hK
  obtain ⟨rfl, hZ, hI, hh⟩ := hP
  have hx := Bd.exec
  have hby := Bd.bytes
  have hml : c.maxLocals = 6 := hml0
  have hown : s.vm.findClass "java/lang/String" = some m.cls := findClass_of_methodNamed Bd.named
  have hnm := (name_of_methodNamed Bd.named Bd.method).1
  have X0 : Stand p l e ({ frames := 1, cells := 2, slots := 4, locals := 12 } : Room) s m #[(.ref a1), (.ref a2), (.int (0 : Int32)), (.int (0 : Int32)), .null] below meth c s₁ [] 0 0 := Stand.of_body Bd
  have e0 : s₁.heap = h0 := by rw [← hh, Bd.state]; rfl
  show own_E p e below (own_KW (own_new4_Q Z a1 a2 h0 n0) s ({ frames := 1, cells := 2, slots := 4, locals := 12 } : Room).cells ({ frames := 1, cells := 2, slots := 4, locals := 12 } : Room).slots) s₁ (entryFrame m #[(.ref a1), (.ref a2), (.int (0 : Int32)), (.int (0 : Int32)), .null] 6)
  refine own_pre (own_new4_ef m a1 a2) ?_
  show own_E p e below _ s₁ (mkF m 0 #[rv a1, rv a2, iv 0, iv 0, .val (.null), .unset] [])
  refine own_st (fun t k => XS.aloadN X0.here hx rfl (hb hby own_d_jdk_42_method_149_0) rfl rfl k) ?_
  show own_E p e below _ s₁ (mkF m 1 #[rv a1, rv a2, iv 0, iv 0, .val (.null), .unset] [.ref a1])
  obtain ⟨T1, X1, e1, st1⟩ := initO X0 hx hZ hown (own_w hw 16 rfl) (own_w hw 17 rfl) (own_w hw 18 rfl) e0 (g := (mkF m 1 #[rv a1, rv a2, iv 0, iv 0, .val (.null), .unset] [.ref a1])) rfl (by rw [hml]; rfl) rfl (hb hby own_d_jdk_42_method_149_1) (by decide) (W := 0) (by show 2 * 0 + _ ≤ _; exact Nat.le_of_eq rfl) (by decide)
  refine own_st st1 ?_
  show own_E p e below _ T1 (mkF m 4 #[rv a1, rv a2, iv 0, iv 0, .val (.null), .unset] [])
  refine own_st (fun t k => XS.iloadN X1.here hx rfl (hb hby own_d_jdk_42_method_149_4) rfl k) ?_
  show own_E p e below _ T1 (mkF m 5 #[rv a1, rv a2, iv 0, iv 0, .val (.null), .unset] [.int 0])
  refine own_st (fun t k => XS.ifNo X1.here hx rfl (hb hby own_d_jdk_42_method_149_5) rfl (by decide) k) ?_
  show own_E p e below _ T1 (mkF m 8 #[rv a1, rv a2, iv 0, iv 0, .val (.null), .unset] [])
  refine own_st (fun t k => XS.aloadN X1.here hx rfl (hb hby own_d_jdk_42_method_149_8) rfl rfl k) ?_
  show own_E p e below _ T1 (mkF m 9 #[rv a1, rv a2, iv 0, iv 0, .val (.null), .unset] [.ref a1])
  obtain ⟨la2, T2, h2, k2, lb2, kk2, X2, e2, E2, hS2, hk2, hZ2, ho2, El2, Cl2, Vl2, Al2, -, -, hI2, Ll2, st2⟩ := ldcSVL (s := s) (vm0 := s.vm) X1 hx hZ hown (own_w hw 19 rfl) (own_wS hw) e1 (own_since s) (Nat.zero_le _) (Fr.nil _) (fun b cl q => by rw [hh]; exact hO.2 b cl q) hI (by simp) hheld hcw (vs := []) (z := 0) ⟨by simp, rfl⟩ (by decide) rfl (g := (mkF m 9 #[rv a1, rv a2, iv 0, iv 0, .val (.null), .unset] [.ref a1])) rfl (hb hby own_d_jdk_42_method_149_9) (n := 0) (by decide) (by decide) (by decide) (by decide)
  have Z3 := Nat.le_trans Z0 E2.1
  have K4 : Keep h0 _ [a1] := (Keep.refl h0 [a1]).ext E2
  have B5 := (F_value_a1.ext E2)
  have ne2 : a1 ≠ la2 := Fld.ne B5 Vl2 nofun
  refine own_st st2 ?_
  show own_E p e below _ T2 (mkF m 11 #[rv a1, rv a2, iv 0, iv 0, .val (.null), .unset] [.ref la2, .ref a1])
  obtain ⟨T6, X6, e6, st6⟩ := getF X2 hx hZ2 ho2 (host := "") (Or.inl (own_w hw 25 rfl)) Via.refl e2 Vl2 (g := (mkF m 11 #[rv a1, rv a2, iv 0, iv 0, .val (.null), .unset] [.ref la2, .ref a1])) rfl rfl (hb hby own_d_jdk_42_method_149_11)
  refine own_st st6 ?_
  show own_E p e below _ T6 (mkF m 14 #[rv a1, rv a2, iv 0, iv 0, .val (.null), .unset] [.ref lb2, .ref a1])
  have B8 := (E_a1.ext E2)
  obtain ⟨T7, h7, X7, e7, W7, st7⟩ := putF X6 hx hZ2 ho2 (host := "") (Or.inl (own_w hw 25 rfl)) Via.refl e6 B5 B8 (Or.inr ⟨(own_w hw 21 rfl), rfl, hnm⟩) (own_w hw 7 rfl) (ty := (.array .byte)) (by decide) rfl rfl (g := (mkF m 14 #[rv a1, rv a2, iv 0, iv 0, .val (.null), .unset] [.ref lb2, .ref a1])) rfl rfl (hb hby own_d_jdk_42_method_149_14)
  have N7 := Fr.snoc X7 (Fr.nil n0) g_a1
  have Fw7 := B5.same W7
  have Z9 := Nat.le_trans Z3 (Keep.of_wr W7).1
  have hk10 := Nat.le_trans hk2 (Keep.of_wr W7).1
  have K11 : Keep h0 _ [a1] := K4.wr W7 (Or.inl (List.mem_of_getElem? (i := 0) rfl))
  refine own_st st7 ?_
  show own_E p e below _ T7 (mkF m 17 #[rv a1, rv a2, iv 0, iv 0, .val (.null), .unset] [])
  refine own_st (fun t k => XS.aloadN X7.here hx rfl (hb hby own_d_jdk_42_method_149_17) rfl rfl k) ?_
  show own_E p e below _ T7 (mkF m 18 #[rv a1, rv a2, iv 0, iv 0, .val (.null), .unset] [.ref a1])
  refine own_st (ldcAgain (s := s) X7 hx hZ2 ho2 (own_w hw 19 rfl) Ll2 (g := (mkF m 18 #[rv a1, rv a2, iv 0, iv 0, .val (.null), .unset] [.ref a1])) rfl (hb hby own_d_jdk_42_method_149_18)) ?_
  show own_E p e below _ T7 (mkF m 20 #[rv a1, rv a2, iv 0, iv 0, .val (.null), .unset] [.ref la2, .ref a1])
  have B13 := (Cl2.other W7 (Or.inl (Ne.symm ne2)))
  obtain ⟨T12, X12, e12, st12⟩ := getF X7 hx hZ2 ho2 (host := "") (Or.inl (own_w hw 26 rfl)) Via.refl e7 B13 (g := (mkF m 20 #[rv a1, rv a2, iv 0, iv 0, .val (.null), .unset] [.ref la2, .ref a1])) rfl rfl (hb hby own_d_jdk_42_method_149_20)
  refine own_st st12 ?_
  show own_E p e below _ T12 (mkF m 23 #[rv a1, rv a2, iv 0, iv 0, .val (.null), .unset] [.int 0, .ref a1])
  have B15 := ((F_coder_a1.ext E2).other W7 (Or.inr (slot_ne (Or.inr (own_w hw 22 rfl)) (Or.inr (own_w hw 21 rfl)) (by decide) (t := .byte) (t' := (.array .byte)) (by decide) (by decide))))
  have B16 := (B8.wr W7)
  obtain ⟨T14, h14, X14, e14, W14, st14⟩ := putF X12 hx hZ2 ho2 (host := "") (Or.inl (own_w hw 26 rfl)) Via.refl e12 B15 B16 (Or.inr ⟨(own_w hw 22 rfl), rfl, hnm⟩) (own_w hw 7 rfl) (ty := .byte) (by decide) rfl rfl (g := (mkF m 23 #[rv a1, rv a2, iv 0, iv 0, .val (.null), .unset] [.int 0, .ref a1])) rfl rfl (hb hby own_d_jdk_42_method_149_23)
  have N14 := Fr.snoc X14 N7 g_a1
  have Fw14 := B15.same W14
  have Z17 := Nat.le_trans Z9 (Keep.of_wr W14).1
  have hk18 := Nat.le_trans hk10 (Keep.of_wr W14).1
  have K19 : Keep h0 _ [a1] := K11.wr W14 (Or.inl (List.mem_of_getElem? (i := 0) rfl))
  refine own_st st14 ?_
  show own_E p e below _ T14 (mkF m 26 #[rv a1, rv a2, iv 0, iv 0, .val (.null), .unset] [])
  refine own_retVW X14 hS2 (by rw [e14]; exact hk18) hx Bd.notSynchronized Bd.returns (hb hby own_d_jdk_42_method_149_26) (by decide) (by decide) ?_
  have B20 := (B16.wr W14)
  show own_new4_Q Z a1 a2 h0 n0 _ T14.heap _
  rw [e14]
  exact ⟨rfl, N14, K19, B20⟩
theorem own_d_jdk_42_method_3_0 : decode jdk_42_method_3_code 0 = .ok (.aload_n 0, 1) := by decide +kernel
theorem own_d_jdk_42_method_3_1 : decode jdk_42_method_3_code 1 = .ok (.aload_n 1, 1) := by decide +kernel
theorem own_d_jdk_42_method_3_2 : decode jdk_42_method_3_code 2 = .ok (.iconst 0, 1) := by decide +kernel
theorem own_d_jdk_42_method_3_3 : decode jdk_42_method_3_code 3 = .ok (.aload_n 1, 1) := by decide +kernel
theorem own_d_jdk_42_method_3_4 : decode jdk_42_method_3_code 4 = .ok (.arraylength, 1) := by decide +kernel
theorem own_d_jdk_42_method_3_5 : decode jdk_42_method_3_code 5 = .ok (.aconst_null, 1) := by decide +kernel
theorem own_d_jdk_42_method_3_6 : decode jdk_42_method_3_code 6 = .ok (.invokespecial 27, 3) := by decide +kernel
theorem own_pd_8 : parseMethodDescriptor "([CIILjava/lang/Void;)V" = some ⟨[(.array .char), .int, .int, (.object "java/lang/Void")], none⟩ := by decide +kernel
theorem own_d_jdk_42_method_3_9 : decode jdk_42_method_3_code 9 = .ok (.return_, 1) := by decide +kernel
def own_new1_Q (Z : State) (a1 : Addr) (a2 : Addr) (kc1 : ClassId) (h0 : Heap) (n0 : Nat) (v : Option Value) (h : Heap) (L : List Loc) : Prop := v = none ∧ Fr n0 L ∧ Keep h0 h [a1] ∧ Exa Z h a1 "java/lang/String"
abbrev own_y1 : MethodName := ⟨"java/lang/String", "<init>", "([C)V"⟩
theorem own_new1_ef (m : MethodId) (a1 : Addr) (a2 : Addr) (kc1 : ClassId) : entryFrame m #[(.ref a1), (.ref a2)] 2 = mkF m 0 #[.val (.ref a1), .val (.ref a2)] [] := by first | (simp [entryFrame, mkF, argsToLocals, Value.category]; done) | rfl
set_option maxRecDepth 65536 in
set_option maxHeartbeats 40000000 in
theorem own_new1 (l : Launch) (Z : State) (a0 : Array Value) (hw : ∀ d ∈ tables_1, d.before a0 Z = true) (ws : List Jvm.Cond) (a1 : Addr) (a2 : Addr) (kc1 : ClassId) (h0 : Heap) (n0 : Nat) (Z0 : n0 ≤ h0.size) (hO : Ext Z.heap h0) (hheld : Jvm.Lit.constHeld Z "java/lang/String" 7) (hcw : Jvm.Lit.compactW.before a0 Z = true) (E_a1 : Exa Z h0 a1 "java/lang/String") (F_value_a1 : Fld Z h0 a1 "java/lang/String" "value" "[B" .null) (F_coder_a1 : Fld Z h0 a1 "java/lang/String" "coder" "B" (.int (0 : Int32))) (V_a2 : Arv Z h0 a2 kc1 .char (0 : Int32) [] (.int (0 : Int32))) (g_a1 : n0 ≤ a1) :
    MetFree l own_y1 (head1 (Jvm.Cond.code own_y1 jdk_42_method_3_code 2 none :: ws) ({ frames := 2, cells := 2, slots := 4, locals := 29 } : Room)) (fun a U => a = #[(.ref a1), (.ref a2)] ∧ Z.Warmed39 U.vm ∧ IB Z U.vm [] ∧ U.heap = h0) (fun _ _ _ _ _ => True) (fun _ U o U' => ∃ v L, o = .returned v ∧ own_new1_Q Z a1 a2 kc1 h0 n0 v U'.heap L ∧ ReturnedEndW U o U' L ({ frames := 2, cells := 2, slots := 4, locals := 29 } : Room).cells ({ frames := 2, cells := 2, slots := 4, locals := 29 } : Room).slots) := by
  refine MetFree.of_bodySF (plainFor_of_name own_pn_String) hisR ?_
  intro p e s m args below meth c s₁ Bd hml0 hP hK
  obtain ⟨rfl, hZ, hI, hh⟩ := hP
  have hx := Bd.exec
  have hby := Bd.bytes
  have hml : c.maxLocals = 2 := hml0
  have hown : s.vm.findClass "java/lang/String" = some m.cls := findClass_of_methodNamed Bd.named
  have hnm := (name_of_methodNamed Bd.named Bd.method).1
  have X0 : Stand p l e ({ frames := 2, cells := 2, slots := 4, locals := 29 } : Room) s m #[(.ref a1), (.ref a2)] below meth c s₁ [] 0 0 := Stand.of_body Bd
  have e0 : s₁.heap = h0 := by rw [← hh, Bd.state]; rfl
  show own_E p e below (own_KW (own_new1_Q Z a1 a2 kc1 h0 n0) s ({ frames := 2, cells := 2, slots := 4, locals := 29 } : Room).cells ({ frames := 2, cells := 2, slots := 4, locals := 29 } : Room).slots) s₁ (entryFrame m #[(.ref a1), (.ref a2)] 2)
  refine own_pre (own_new1_ef m a1 a2 kc1) ?_
  show own_E p e below _ s₁ (mkF m 0 #[rv a1, rv a2] [])
  refine own_st (fun t k => XS.aloadN X0.here hx rfl (hb hby own_d_jdk_42_method_3_0) rfl rfl k) ?_
  show own_E p e below _ s₁ (mkF m 1 #[rv a1, rv a2] [.ref a1])
  refine own_st (fun t k => XS.aloadN X0.here hx rfl (hb hby own_d_jdk_42_method_3_1) rfl rfl k) ?_
  show own_E p e below _ s₁ (mkF m 2 #[rv a1, rv a2] [.ref a2, .ref a1])
  refine own_st (fun t k => XS.iconst X0.here hx rfl (hb hby own_d_jdk_42_method_3_2) k) ?_
  show own_E p e below _ s₁ (mkF m 3 #[rv a1, rv a2] [.int 0, .ref a2, .ref a1])
  refine own_st (fun t k => XS.aloadN X0.here hx rfl (hb hby own_d_jdk_42_method_3_3) rfl rfl k) ?_
  show own_E p e below _ s₁ (mkF m 4 #[rv a1, rv a2] [.ref a2, .int 0, .ref a2, .ref a1])
  refine own_st (own_alen X0 hx hZ e0 V_a2 (g := (mkF m 4 #[rv a1, rv a2] [.ref a2, .int 0, .ref a2, .ref a1])) rfl rfl (hb hby own_d_jdk_42_method_3_4)) ?_
  show own_E p e below _ s₁ (mkF m 5 #[rv a1, rv a2] [.int 0, .int 0, .ref a2, .ref a1])
  refine own_st (fun t k => XS.aconstNull X0.here hx rfl (hb hby own_d_jdk_42_method_3_5) k) ?_
  show own_E p e below _ s₁ (mkF m 6 #[rv a1, rv a2] [.null, .int 0, .int 0, .ref a2, .ref a1])
  obtain ⟨_, _, ⟨T1, L1, k1, n1⟩, -, X1, hS1, hgr1, ⟨Lc1, hQ1, l1, y1, z1⟩, st1⟩ := X0.specialBackS hx (y := own_y0) rfl hown (mvT hZ (own_w hw 12 rfl)) (mvT hZ (own_w hw 13 rfl)) (mvT hZ (own_w hw 15 rfl)) (by decide) (own_backI (W := 0) (own_new4 l Z a0 hw [] a1 a2 h0 n0 Z0 hO hheld hcw E_a1 F_value_a1 F_coder_a1 g_a1) hZ hI (own_w hw 15 rfl) (own_w hw 8 rfl) (by decide) (by decide)) (g := (mkF m 6 #[rv a1, rv a2] [.null, .int 0, .int 0, .ref a2, .ref a1])) rfl (by rw [hml]; rfl) (Steps.refl _) (a := a1) (argsL := [(.ref a2), (.int (0 : Int32)), (.int (0 : Int32)), .null]) (rest := []) (lenOf own_pd_8 rfl) rfl (by show 2 * 0 + _ ≤ _; exact Nat.le_of_eq rfl) (hb hby own_d_jdk_42_method_3_6) (fun _ _ => ⟨rfl, e0, (by decide : 0 + 2 ≤ _), (by decide : 0 + 4 ≤ _)⟩)
  dsimp only [Pt.U, Pt.locs, Pt.cells, Pt.slots] at X1 l1 y1 z1 st1 hQ1 hS1 hgr1
  subst l1 y1 z1
  have hZ1 := own_Zw hZ hS1
  have ho1 := own_ow hown hS1
  have hk1 := Nat.le_refl T1.heap.size
  obtain ⟨rfl, Nq1, Kq1, P1_0⟩ := hQ1
  have N1 := Fr.app (Fr.nil n0) Nq1
  have e1 : T1.heap = T1.heap := rfl
  have Z2 := Nat.le_trans Z0 Kq1.1
  have K3 : Keep h0 _ [a1] := (Keep.refl h0 [a1]).trans Kq1 (allS (P := fun x => x ∈ [a1] ∨ h0.size ≤ x) (Or.inl (List.mem_of_getElem? (i := 0) rfl)) all0)
  refine own_tr st1 ?_
  show own_E p e below _ T1 (mkF m 9 #[rv a1, rv a2] [])
  refine own_retVW X1 hS1 (by rw [e1]; exact hk1) hx Bd.notSynchronized Bd.returns (hb hby own_d_jdk_42_method_3_9) (by decide) (by decide) ?_
  show own_new1_Q Z a1 a2 kc1 h0 n0 _ T1.heap _
  rw [e1]
  exact ⟨rfl, N1, K3, P1_0⟩
theorem own_d_jdk_30_method_1_0 : decode jdk_30_method_1_code 0 = .ok (.aload_n 0, 1) := by decide +kernel
theorem own_d_jdk_30_method_1_1 : decode jdk_30_method_1_code 1 = .ok (.invokespecial 1, 3) := by decide +kernel
theorem own_d_jdk_30_method_1_4 : decode jdk_30_method_1_code 4 = .ok (.return_, 1) := by decide +kernel
def own_rec_Q (a1 : Addr) (h0 : Heap) (v : Option Value) (h : Heap) (L : List Loc) : Prop := ((v = none)) ∧ h = h0 ∧ L = []
abbrev own_y2 : MethodName := ⟨"java/lang/Record", "<init>", "()V"⟩
theorem own_pn_Record : plainName "java/lang/Record" = true := by first | (simp [plainName, overriddenIn]; done) | decide +kernel
theorem own_rec_ef (m : MethodId) (a1 : Addr) : entryFrame m #[(.ref a1)] 1 = mkF m 0 #[.val (.ref a1)] [] := by first | (simp [entryFrame, mkF, argsToLocals, Value.category]; done) | rfl
set_option maxRecDepth 65536 in
set_option maxHeartbeats 40000000 in
theorem own_rec (l : Launch) (Z : State) (a0 : Array Value) (hw : ∀ d ∈ tables_1, d.before a0 Z = true) (ws : List Jvm.Cond) (a1 : Addr) (h0 : Heap) (n0 : Nat) (Z0 : n0 ≤ h0.size)  :
    MetFree l own_y2 (head1 (Jvm.Cond.code own_y2 jdk_30_method_1_code 1 none :: ws) ({ frames := 1, cells := 0, slots := 0, locals := 12 } : Room)) (fun a U => a = #[(.ref a1)] ∧ Z.Warmed39 U.vm ∧ U.heap = h0) (fun _ _ _ _ _ => True) (fun _ U o U' => ∃ v L, o = .returned v ∧ own_rec_Q a1 h0 v U'.heap L ∧ FrameEnd U o U' L ({ frames := 1, cells := 0, slots := 0, locals := 12 } : Room).cells ({ frames := 1, cells := 0, slots := 0, locals := 12 } : Room).slots) := by
  refine MetFree.of_bodySF (plainFor_of_name own_pn_Record) hisR ?_
  intro p e s m args below meth c s₁ Bd hml0 hP hK
  obtain ⟨rfl, hZ, hh⟩ := hP
  have hx := Bd.exec
  have hby := Bd.bytes
  have hml : c.maxLocals = 1 := hml0
  have hown : s.vm.findClass "java/lang/Record" = some m.cls := findClass_of_methodNamed Bd.named
  have hnm := (name_of_methodNamed Bd.named Bd.method).1
  have X0 : Stand p l e ({ frames := 1, cells := 0, slots := 0, locals := 12 } : Room) s m #[(.ref a1)] below meth c s₁ [] 0 0 := Stand.of_body Bd
  have e0 : s₁.heap = h0 := by rw [← hh, Bd.state]; rfl
  show own_E p e below (own_K (own_rec_Q a1 h0) s ({ frames := 1, cells := 0, slots := 0, locals := 12 } : Room).cells ({ frames := 1, cells := 0, slots := 0, locals := 12 } : Room).slots) s₁ (entryFrame m #[(.ref a1)] 1)
  refine own_pre (own_rec_ef m a1) ?_
  show own_E p e below _ s₁ (mkF m 0 #[rv a1] [])
  refine own_st (fun t k => XS.aloadN X0.here hx rfl (hb hby own_d_jdk_30_method_1_0) rfl rfl k) ?_
  show own_E p e below _ s₁ (mkF m 1 #[rv a1] [.ref a1])
  obtain ⟨T1, X1, e1, st1⟩ := initO X0 hx hZ hown (own_w hw 38 rfl) (own_w hw 17 rfl) (own_w hw 18 rfl) e0 (g := (mkF m 1 #[rv a1] [.ref a1])) rfl (by rw [hml]; rfl) rfl (hb hby own_d_jdk_30_method_1_1) (by decide) (W := 0) (by show 2 * 0 + _ ≤ _; exact Nat.le_of_eq rfl) (by decide)
  refine own_st st1 ?_
  show own_E p e below _ T1 (mkF m 4 #[rv a1] [])
  refine own_retV X1 hx Bd.notSynchronized Bd.returns (hb hby own_d_jdk_30_method_1_4) (by decide) (by decide) ?_
  exact ⟨rfl, e1, rfl⟩
theorem own_d_method_3_0 : decode method_3_code 0 = .ok (.iload_n 0, 1) := by decide +kernel
theorem own_d_method_3_1 : decode method_3_code 1 = .ok (.ifCond .ne 10, 3) := by decide +kernel
theorem own_d_method_3_4 : decode method_3_code 4 = .ok (.iconst 0, 1) := by decide +kernel
theorem own_d_method_3_5 : decode method_3_code 5 = .ok (.newarray .char, 2) := by decide +kernel
theorem own_d_method_3_7 : decode method_3_code 7 = .ok (.astore_n 3, 1) := by decide +kernel
theorem own_d_method_3_8 : decode method_3_code 8 = .ok (.goto 46, 3) := by decide +kernel
theorem own_d_method_3_54 : decode method_3_code 54 = .ok (.new 23, 3) := by decide +kernel
theorem own_d_method_3_57 : decode method_3_code 57 = .ok (.dup, 1) := by decide +kernel
theorem own_d_method_3_58 : decode method_3_code 58 = .ok (.aload_n 3, 1) := by decide +kernel
theorem own_d_method_3_59 : decode method_3_code 59 = .ok (.invokespecial 25, 3) := by decide +kernel
theorem own_pd_6 : parseMethodDescriptor "([C)V" = some ⟨[(.array .char)], none⟩ := by decide +kernel
theorem own_d_method_3_62 : decode method_3_code 62 = .ok (.areturn, 1) := by decide +kernel
def own_drawn0_Q (Z : State) (p1 : Int32) (p2 : Int32) (h0 : Heap) (n0 : Nat) (v : Option Value) (h : Heap) (L : List Loc) : Prop := ∃ (o0 : Addr), v = some (.ref o0) ∧ Fr n0 L ∧ Keep h0 h [] ∧ h0.size ≤ o0 ∧ Exa Z h o0 "java/lang/String"
abbrev own_y3 : MethodName := ⟨"com/example/acquirer/acquirer/PageRequestCursorPinLaw", "drawn", "(III)Ljava/lang/String;"⟩
theorem own_pn_PageRequestCursorPinLaw : plainName "com/example/acquirer/acquirer/PageRequestCursorPinLaw" = true := by first | (simp [plainName, overriddenIn]; done) | decide +kernel
theorem own_drawn0_ef (m : MethodId) (p1 : Int32) (p2 : Int32) : entryFrame m #[(.int (0 : Int32)), (.int p1), (.int p2)] 4 = mkF m 0 #[.val (.int (0 : Int32)), .val (.int p1), .val (.int p2), .unset] [] := by first | (simp [entryFrame, mkF, argsToLocals, Value.category]; done) | rfl
set_option maxRecDepth 65536 in
set_option maxHeartbeats 40000000 in
theorem own_drawn0 (l : Launch) (Z : State) (a0 : Array Value) (hw : ∀ d ∈ tables_1, d.before a0 Z = true) (ws : List Jvm.Cond) (p1 : Int32) (p2 : Int32) (h0 : Heap) (n0 : Nat) (Z0 : n0 ≤ h0.size) (hO : Ext Z.heap h0) (hheld : Jvm.Lit.constHeld Z "java/lang/String" 7) (hcw : Jvm.Lit.compactW.before a0 Z = true) :
    MetFree l own_y3 (head1 (Jvm.Cond.code own_y3 method_3_code 4 (some (.object "java/lang/String")) :: ws) ({ frames := 3, cells := 4, slots := 8, locals := 43 } : Room)) (fun a U => a = #[(.int (0 : Int32)), (.int p1), (.int p2)] ∧ Z.Warmed39 U.vm ∧ IB Z U.vm [] ∧ U.heap = h0) (fun _ _ _ _ _ => True) (fun _ U o U' => ∃ v L, o = .returned v ∧ own_drawn0_Q Z p1 p2 h0 n0 v U'.heap L ∧ ReturnedEndW U o U' L ({ frames := 3, cells := 4, slots := 8, locals := 43 } : Room).cells ({ frames := 3, cells := 4, slots := 8, locals := 43 } : Room).slots) := by
  refine MetFree.of_bodySF (plainFor_of_name own_pn_PageRequestCursorPinLaw) hisR ?_
  intro p e s m args below meth c s₁ Bd hml0 hP hK
  obtain ⟨rfl, hZ, hI, hh⟩ := hP
  have hx := Bd.exec
  have hby := Bd.bytes
  have hml : c.maxLocals = 4 := hml0
  have hown : s.vm.findClass "com/example/acquirer/acquirer/PageRequestCursorPinLaw" = some m.cls := findClass_of_methodNamed Bd.named
  have hnm := (name_of_methodNamed Bd.named Bd.method).1
  have X0 : Stand p l e ({ frames := 3, cells := 4, slots := 8, locals := 43 } : Room) s m #[(.int (0 : Int32)), (.int p1), (.int p2)] below meth c s₁ [] 0 0 := Stand.of_body Bd
  have e0 : s₁.heap = h0 := by rw [← hh, Bd.state]; rfl
  show own_E p e below (own_KW (own_drawn0_Q Z p1 p2 h0 n0) s ({ frames := 3, cells := 4, slots := 8, locals := 43 } : Room).cells ({ frames := 3, cells := 4, slots := 8, locals := 43 } : Room).slots) s₁ (entryFrame m #[(.int (0 : Int32)), (.int p1), (.int p2)] 4)
  refine own_pre (own_drawn0_ef m p1 p2) ?_
  show own_E p e below _ s₁ (mkF m 0 #[iv 0, iv p1, iv p2, .unset] [])
  refine own_st (fun t k => XS.iloadN X0.here hx rfl (hb hby own_d_method_3_0) rfl k) ?_
  show own_E p e below _ s₁ (mkF m 1 #[iv 0, iv p1, iv p2, .unset] [.int 0])
  refine own_st (fun t k => XS.ifNo X0.here hx rfl (hb hby own_d_method_3_1) rfl (by decide) k) ?_
  show own_E p e below _ s₁ (mkF m 4 #[iv 0, iv p1, iv p2, .unset] [])
  refine own_st (fun t k => XS.iconst X0.here hx rfl (hb hby own_d_method_3_4) k) ?_
  show own_E p e below _ s₁ (mkF m 5 #[iv 0, iv p1, iv p2, .unset] [.int 0])
  obtain ⟨T1, h1, k1, X1, e1, E1, A1, st1⟩ := newP X0 hx hZ (own_w hw 5 rfl) e0 (g := (mkF m 5 #[iv 0, iv p1, iv p2, .unset] [.int 0])) rfl (hb hby own_d_method_3_5) rfl (by decide) (cap := 0) (by decide) (by decide) (by decide) (by decide)
  obtain ⟨b1, g1⟩ : ∃ z, z = h0.size := ⟨_, rfl⟩
  rw [← g1] at A1 st1
  have g_b1 : n0 ≤ b1 := Nat.le_trans Z0 (Nat.le_of_eq g1.symm)
  have sz_b1 : h0.size ≤ b1 := Nat.le_trans (Keep.refl h0 []).1 (Nat.le_of_eq g1.symm)
  have Z2 := Nat.le_trans Z0 E1.1
  have K3 : Keep h0 _ [] := (Keep.refl h0 []).ext E1
  have V1 : Arv Z h1 b1 k1 .char (0 : Int32) [] (.int (0 : Int32)) := (Arv.new A1 (by decide)).pad (pad_rep [] (.int (0 : Int32)) 0)
  refine own_st st1 ?_
  show own_E p e below _ T1 (mkF m 7 #[iv 0, iv p1, iv p2, .unset] [.ref b1])
  refine own_st (fun t k => XS.astoreN X1.here hx rfl (hb hby own_d_method_3_7) rfl rfl (l' := #[iv 0, iv p1, iv p2, rv b1]) rfl k) ?_
  show own_E p e below _ T1 (mkF m 8 #[iv 0, iv p1, iv p2, rv b1] [])
  refine own_st (fun t k => XS.goto X1.here hx rfl (pc0 := 8) (pc' := 54) rfl (hb hby own_d_method_3_8) (by decide) (by decide) k) ?_
  show own_E p e below _ T1 (mkF m 54 #[iv 0, iv p1, iv p2, rv b1] [])
  obtain ⟨T4, h4, X4, e4, E4, A4, D4, -, st4⟩ := newO X1 hx hZ hown (own_w hw 6 rfl) (own_w hw 7 rfl) (own_w hw 8 rfl) e1 (g := (mkF m 54 #[iv 0, iv p1, iv p2, rv b1] [])) rfl (hb hby own_d_method_3_54) (by decide) (by decide)
  obtain ⟨b4, g4⟩ : ∃ z, z = h1.size := ⟨_, rfl⟩
  rw [← g4] at A4 D4 st4
  have ne_b1_b4 : b1 ≠ b4 := Nat.ne_of_lt (Nat.lt_of_lt_of_le V1.lt (Nat.le_of_eq g4.symm))
  have g_b4 : n0 ≤ b4 := Nat.le_trans Z2 (Nat.le_of_eq g4.symm)
  have sz_b4 : h0.size ≤ b4 := Nat.le_trans K3.1 (Nat.le_of_eq g4.symm)
  have Z5 := Nat.le_trans Z2 E4.1
  have K6 : Keep h0 _ [] := K3.ext E4
  have F_value_b4 : Fld Z h4 b4 "java/lang/String" "value" "[B" .null := D4 (Or.inr (own_w hw 21 rfl)) (ty := (.array .byte)) (by decide)
  have F_coder_b4 : Fld Z h4 b4 "java/lang/String" "coder" "B" (.int (0 : Int32)) := D4 (Or.inr (own_w hw 22 rfl)) (ty := .byte) (by decide)
  refine own_st st4 ?_
  show own_E p e below _ T4 (mkF m 57 #[iv 0, iv p1, iv p2, rv b1] [.ref b4])
  refine own_st (fun t k => XS.dup X4.here hx rfl (hb hby own_d_method_3_57) rfl rfl k) ?_
  show own_E p e below _ T4 (mkF m 58 #[iv 0, iv p1, iv p2, rv b1] [.ref b4, .ref b4])
  refine own_st (fun t k => XS.aloadN X4.here hx rfl (hb hby own_d_method_3_58) rfl rfl k) ?_
  show own_E p e below _ T4 (mkF m 59 #[iv 0, iv p1, iv p2, rv b1] [.ref b1, .ref b4, .ref b4])
  have B7 := (V1.ext E4)
  obtain ⟨_, _, ⟨T8, L8, k8, n8⟩, -, X8, hS8, hgr8, ⟨Lc8, hQ8, l8, y8, z8⟩, st8⟩ := X4.specialBackS hx (y := own_y1) rfl hown (mvT hZ (own_w hw 9 rfl)) (mvT hZ (own_w hw 10 rfl)) (mvT hZ (own_w hw 11 rfl)) (by decide) (own_backI (W := 1) (own_new1 l Z a0 hw [] b4 b1 k1 h4 n0 Z5 (own_ExtK hO K6) hheld hcw A4 F_value_b4 F_coder_b4 B7 g_b4) hZ hI (own_w hw 11 rfl) (own_w hw 8 rfl) (by decide) (by decide)) (g := (mkF m 59 #[iv 0, iv p1, iv p2, rv b1] [.ref b1, .ref b4, .ref b4])) rfl (by rw [hml]; rfl) (Steps.refl _) (a := b4) (argsL := [(.ref b1)]) (rest := [(.ref b4)]) (lenOf own_pd_6 rfl) rfl (by show 2 * 0 + _ ≤ _; exact Nat.le_of_eq rfl) (hb hby own_d_method_3_59) (fun _ _ => ⟨rfl, e4, (by decide : 2 + 2 ≤ _), (by decide : 4 + 4 ≤ _)⟩)
  dsimp only [Pt.U, Pt.locs, Pt.cells, Pt.slots] at X8 l8 y8 z8 st8 hQ8 hS8 hgr8
  subst l8 y8 z8
  have hZ8 := own_Zw hZ hS8
  have ho8 := own_ow hown hS8
  have hk8 := Nat.le_refl T8.heap.size
  obtain ⟨rfl, Nq8, Kq8, P8_0⟩ := hQ8
  have N8 := Fr.app (Fr.nil n0) Nq8
  have e8 : T8.heap = T8.heap := rfl
  have Z9 := Nat.le_trans Z5 Kq8.1
  have K10 : Keep h0 _ [] := K6.trans Kq8 (allS (P := fun x => x ∈ [] ∨ h0.size ≤ x) (Or.inr sz_b4) all0)
  refine own_tr st8 ?_
  show own_E p e below _ T8 (mkF m 62 #[iv 0, iv p1, iv p2, rv b1] [.ref b4])
  refine own_retAW X8 hS8 (by rw [e8]; exact hk8) hx Bd.notSynchronized Bd.returns rfl rfl (hb hby own_d_method_3_62) (by decide) (by decide) ?_
  show own_drawn0_Q Z p1 p2 h0 n0 _ T8.heap _
  rw [e8]
  exact ⟨b4, rfl, N8, K10, sz_b4, P8_0⟩
theorem own_d_method_3_11 : decode method_3_code 11 = .ok (.iload_n 0, 1) := by decide +kernel
theorem own_d_method_3_12 : decode method_3_code 12 = .ok (.iconst 1, 1) := by decide +kernel
theorem own_d_method_3_13 : decode method_3_code 13 = .ok (.if_icmp .ne 19, 3) := by decide +kernel
theorem own_d_method_3_16 : decode method_3_code 16 = .ok (.iconst 1, 1) := by decide +kernel
theorem own_d_method_3_17 : decode method_3_code 17 = .ok (.newarray .char, 2) := by decide +kernel
theorem own_d_method_3_19 : decode method_3_code 19 = .ok (.dup, 1) := by decide +kernel
theorem own_d_method_3_20 : decode method_3_code 20 = .ok (.iconst 0, 1) := by decide +kernel
theorem own_d_method_3_21 : decode method_3_code 21 = .ok (.iload_n 1, 1) := by decide +kernel
theorem own_d_method_3_22 : decode method_3_code 22 = .ok (.sipush 255, 3) := by decide +kernel
theorem own_d_method_3_25 : decode method_3_code 25 = .ok (.iand, 1) := by decide +kernel
theorem own_d_method_3_26 : decode method_3_code 26 = .ok (.i2c, 1) := by decide +kernel
theorem own_d_method_3_27 : decode method_3_code 27 = .ok (.castore, 1) := by decide +kernel
theorem own_d_method_3_28 : decode method_3_code 28 = .ok (.astore_n 3, 1) := by decide +kernel
theorem own_d_method_3_29 : decode method_3_code 29 = .ok (.goto 25, 3) := by decide +kernel
def own_drawn1_Q (Z : State) (zc : Int32) (p1 : Int32) (p2 : Int32) (h0 : Heap) (n0 : Nat) (v : Option Value) (h : Heap) (L : List Loc) : Prop := ∃ (o0 : Addr), v = some (.ref o0) ∧ Fr n0 L ∧ Keep h0 h [] ∧ h0.size ≤ o0 ∧ Exa Z h o0 "java/lang/String"
theorem own_drawn1_ef (m : MethodId) (zc : Int32) (p1 : Int32) (p2 : Int32) : entryFrame m #[(.int (1 : Int32)), (.int p1), (.int p2)] 4 = mkF m 0 #[.val (.int (1 : Int32)), .val (.int p1), .val (.int p2), .unset] [] := by first | (simp [entryFrame, mkF, argsToLocals, Value.category]; done) | rfl
set_option maxRecDepth 65536 in
set_option maxHeartbeats 40000000 in
theorem own_drawn1 (l : Launch) (Z : State) (a0 : Array Value) (hw : ∀ d ∈ tables_1, d.before a0 Z = true) (ws : List Jvm.Cond) (zc : Int32) (p1 : Int32) (p2 : Int32) (h0 : Heap) (n0 : Nat) (Z0 : n0 ≤ h0.size) (SC : Sta Z h0 "java/lang/String" "COMPACT_STRINGS" "Z" (.int zc)) (hzc : ¬ zc = 0) :
    MetFree l own_y3 (head1 (Jvm.Cond.code own_y3 method_3_code 4 (some (.object "java/lang/String")) :: ws) ({ frames := 4, cells := 3, slots := 6, locals := 66 } : Room)) (fun a U => a = #[(.int (1 : Int32)), (.int p1), (.int p2)] ∧ Z.Warmed39 U.vm ∧ U.heap = h0) (fun _ _ _ _ _ => True) (fun _ U o U' => ∃ v L, o = .returned v ∧ own_drawn1_Q Z zc p1 p2 h0 n0 v U'.heap L ∧ FrameEnd U o U' L ({ frames := 4, cells := 3, slots := 6, locals := 66 } : Room).cells ({ frames := 4, cells := 3, slots := 6, locals := 66 } : Room).slots) := by
  refine MetFree.of_bodySF (plainFor_of_name own_pn_PageRequestCursorPinLaw) hisR ?_
  intro p e s m args below meth c s₁ Bd hml0 hP hK
  obtain ⟨rfl, hZ, hh⟩ := hP
  have hx := Bd.exec
  have hby := Bd.bytes
  have hml : c.maxLocals = 4 := hml0
  have hown : s.vm.findClass "com/example/acquirer/acquirer/PageRequestCursorPinLaw" = some m.cls := findClass_of_methodNamed Bd.named
  have hnm := (name_of_methodNamed Bd.named Bd.method).1
  have X0 : Stand p l e ({ frames := 4, cells := 3, slots := 6, locals := 66 } : Room) s m #[(.int (1 : Int32)), (.int p1), (.int p2)] below meth c s₁ [] 0 0 := Stand.of_body Bd
  have e0 : s₁.heap = h0 := by rw [← hh, Bd.state]; rfl
  show own_E p e below (own_K (own_drawn1_Q Z zc p1 p2 h0 n0) s ({ frames := 4, cells := 3, slots := 6, locals := 66 } : Room).cells ({ frames := 4, cells := 3, slots := 6, locals := 66 } : Room).slots) s₁ (entryFrame m #[(.int (1 : Int32)), (.int p1), (.int p2)] 4)
  refine own_pre (own_drawn1_ef m zc p1 p2) ?_
  show own_E p e below _ s₁ (mkF m 0 #[iv 1, iv p1, iv p2, .unset] [])
  refine own_st (fun t k => XS.iloadN X0.here hx rfl (hb hby own_d_method_3_0) rfl k) ?_
  show own_E p e below _ s₁ (mkF m 1 #[iv 1, iv p1, iv p2, .unset] [.int 1])
  refine own_st (fun t k => XS.ifYes X0.here hx rfl (pc0 := 1) (pc' := 11) rfl (hb hby own_d_method_3_1) rfl (by decide) (by decide) (by decide) k) ?_
  show own_E p e below _ s₁ (mkF m 11 #[iv 1, iv p1, iv p2, .unset] [])
  refine own_st (fun t k => XS.iloadN X0.here hx rfl (hb hby own_d_method_3_11) rfl k) ?_
  show own_E p e below _ s₁ (mkF m 12 #[iv 1, iv p1, iv p2, .unset] [.int 1])
  refine own_st (fun t k => XS.iconst X0.here hx rfl (hb hby own_d_method_3_12) k) ?_
  show own_E p e below _ s₁ (mkF m 13 #[iv 1, iv p1, iv p2, .unset] [.int 1, .int 1])
  refine own_st (fun t k => XS.icmpNo X0.here hx rfl (hb hby own_d_method_3_13) rfl (by decide) k) ?_
  show own_E p e below _ s₁ (mkF m 16 #[iv 1, iv p1, iv p2, .unset] [])
  refine own_st (fun t k => XS.iconst X0.here hx rfl (hb hby own_d_method_3_16) k) ?_
  show own_E p e below _ s₁ (mkF m 17 #[iv 1, iv p1, iv p2, .unset] [.int 1])
  obtain ⟨T1, h1, k1, X1, e1, E1, A1, st1⟩ := newP X0 hx hZ (own_w hw 5 rfl) e0 (g := (mkF m 17 #[iv 1, iv p1, iv p2, .unset] [.int 1])) rfl (hb hby own_d_method_3_17) rfl (by decide) (cap := 1) (by decide) (by decide) (by decide) (by decide)
  obtain ⟨b1, g1⟩ : ∃ z, z = h0.size := ⟨_, rfl⟩
  rw [← g1] at A1 st1
  have g_b1 : n0 ≤ b1 := Nat.le_trans Z0 (Nat.le_of_eq g1.symm)
  have sz_b1 : h0.size ≤ b1 := Nat.le_trans (Keep.refl h0 []).1 (Nat.le_of_eq g1.symm)
  have Z2 := Nat.le_trans Z0 E1.1
  have K3 : Keep h0 _ [] := (Keep.refl h0 []).ext E1
  have V1 : Arv Z h1 b1 k1 .char (1 : Int32) [(.int (0 : Int32))] (.int (0 : Int32)) := (Arv.new A1 (by decide)).pad (pad_rep [] (.int (0 : Int32)) 1)
  refine own_st st1 ?_
  show own_E p e below _ T1 (mkF m 19 #[iv 1, iv p1, iv p2, .unset] [.ref b1])
  refine own_st (fun t k => XS.dup X1.here hx rfl (hb hby own_d_method_3_19) rfl rfl k) ?_
  show own_E p e below _ T1 (mkF m 20 #[iv 1, iv p1, iv p2, .unset] [.ref b1, .ref b1])
  refine own_st (fun t k => XS.iconst X1.here hx rfl (hb hby own_d_method_3_20) k) ?_
  show own_E p e below _ T1 (mkF m 21 #[iv 1, iv p1, iv p2, .unset] [.int 0, .ref b1, .ref b1])
  refine own_st (fun t k => XS.iloadN X1.here hx rfl (hb hby own_d_method_3_21) rfl k) ?_
  show own_E p e below _ T1 (mkF m 22 #[iv 1, iv p1, iv p2, .unset] [.int p1, .int 0, .ref b1, .ref b1])
  refine own_st (fun t k => XS.sipush X1.here hx rfl (hb hby own_d_method_3_22) k) ?_
  show own_E p e below _ T1 (mkF m 25 #[iv 1, iv p1, iv p2, .unset] [.int 255, .int p1, .int 0, .ref b1, .ref b1])
  refine own_st (fun t k => XS.iand X1.here hx rfl (hb hby own_d_method_3_25) rfl k) ?_
  show own_E p e below _ T1 (mkF m 26 #[iv 1, iv p1, iv p2, .unset] [.int (p1 &&& (255 : Int32)), .int 0, .ref b1, .ref b1])
  refine own_st (fun t k => XS.i2c X1.here hx rfl (hb hby own_d_method_3_26) rfl k) ?_
  show own_E p e below _ T1 (mkF m 27 #[iv 1, iv p1, iv p2, .unset] [.int ((p1 &&& (255 : Int32)).toUInt32.toUInt16.toUInt32.toInt32), .int 0, .ref b1, .ref b1])
  obtain ⟨T4, h4, X4, e4, W4, Vw4, st4⟩ := own_cst X1 hx hZ e1 V1 (j := (0 : Int32)) ⟨by decide, by decide⟩ (x := ((p1 &&& (255 : Int32)).toUInt32.toUInt16.toUInt32.toInt32)) (i := 0) rfl (Nat.le_of_ble_eq_true rfl) (g := (mkF m 27 #[iv 1, iv p1, iv p2, .unset] [.int ((p1 &&& (255 : Int32)).toUInt32.toUInt16.toUInt32.toInt32), .int 0, .ref b1, .ref b1])) rfl rfl (hb hby own_d_method_3_27)
  have V4 : Arv Z h4 b1 k1 .char (1 : Int32) [(.int (((p1 &&& (255 : Int32)).toUInt32.toUInt16.toUInt32.toInt32).toUInt32.toUInt16.toUInt32.toInt32))] (.int (0 : Int32)) := Vw4
  have N4 := Fr.snoc X4 (Fr.nil n0) g_b1
  have Z5 := Nat.le_trans Z2 (Keep.of_wr W4).1
  have K6 : Keep h0 _ [] := K3.wr W4 (Or.inr sz_b1)
  refine own_st st4 ?_
  show own_E p e below _ T4 (mkF m 28 #[iv 1, iv p1, iv p2, .unset] [.ref b1])
  refine own_st (fun t k => XS.astoreN X4.here hx rfl (hb hby own_d_method_3_28) rfl rfl (l' := #[iv 1, iv p1, iv p2, rv b1]) rfl k) ?_
  show own_E p e below _ T4 (mkF m 29 #[iv 1, iv p1, iv p2, rv b1] [])
  refine own_st (fun t k => XS.goto X4.here hx rfl (pc0 := 29) (pc' := 54) rfl (hb hby own_d_method_3_29) (by decide) (by decide) k) ?_
  show own_E p e below _ T4 (mkF m 54 #[iv 1, iv p1, iv p2, rv b1] [])
  obtain ⟨T7, h7, X7, e7, E7, A7, D7, -, st7⟩ := newO X4 hx hZ hown (own_w hw 6 rfl) (own_w hw 7 rfl) (own_w hw 8 rfl) e4 (g := (mkF m 54 #[iv 1, iv p1, iv p2, rv b1] [])) rfl (hb hby own_d_method_3_54) (by decide) (by decide)
  obtain ⟨b7, g7⟩ : ∃ z, z = h4.size := ⟨_, rfl⟩
  rw [← g7] at A7 D7 st7
  have ne_b1_b7 : b1 ≠ b7 := Nat.ne_of_lt (Nat.lt_of_lt_of_le V4.lt (Nat.le_of_eq g7.symm))
  have g_b7 : n0 ≤ b7 := Nat.le_trans Z5 (Nat.le_of_eq g7.symm)
  have sz_b7 : h0.size ≤ b7 := Nat.le_trans K6.1 (Nat.le_of_eq g7.symm)
  have Z8 := Nat.le_trans Z5 E7.1
  have K9 : Keep h0 _ [] := K6.ext E7
  have F_value_b7 : Fld Z h7 b7 "java/lang/String" "value" "[B" .null := D7 (Or.inr (own_w hw 21 rfl)) (ty := (.array .byte)) (by decide)
  have F_coder_b7 : Fld Z h7 b7 "java/lang/String" "coder" "B" (.int (0 : Int32)) := D7 (Or.inr (own_w hw 22 rfl)) (ty := .byte) (by decide)
  refine own_st st7 ?_
  show own_E p e below _ T7 (mkF m 57 #[iv 1, iv p1, iv p2, rv b1] [.ref b7])
  refine own_st (fun t k => XS.dup X7.here hx rfl (hb hby own_d_method_3_57) rfl rfl k) ?_
  show own_E p e below _ T7 (mkF m 58 #[iv 1, iv p1, iv p2, rv b1] [.ref b7, .ref b7])
  refine own_st (fun t k => XS.aloadN X7.here hx rfl (hb hby own_d_method_3_58) rfl rfl k) ?_
  show own_E p e below _ T7 (mkF m 59 #[iv 1, iv p1, iv p2, rv b1] [.ref b1, .ref b7, .ref b7])
  have B10 := (V4.ext E7)
  have hlat11 : ∀ c ∈ [(((p1 &&& (255 : Int32)).toUInt32.toUInt16.toUInt32.toInt32).toUInt32.toUInt16.toUInt32.toInt32)], ¬ c < 0 ∧ ¬ (255 : Int32) < c := by
    intro c hc
    simp only [List.mem_cons, List.not_mem_nil, or_false] at hc
    rcases hc with rfl
    · rw [Int32.lt_iff_toInt_lt, Int32.lt_iff_toInt_lt]
      have f12 := rng32 p1
      have f13 : (255 : Int32).toInt = 255 := rfl
      have f14 := rng32 (p1 &&& (255 : Int32))
      have f15 : (p1 &&& (255 : Int32)).toInt = p1.toInt % 256 := c_mask p1 (255 : Int32) 8 (by decide) (by decide)
      have f16 := rng32 ((p1 &&& (255 : Int32)).toUInt32.toUInt16.toUInt32.toInt32)
      have f17 := c_i2c (p1 &&& (255 : Int32))
      have f18 := rng32 (((p1 &&& (255 : Int32)).toUInt32.toUInt16.toUInt32.toInt32).toUInt32.toUInt16.toUInt32.toInt32)
      have f19 := c_i2c ((p1 &&& (255 : Int32)).toUInt32.toUInt16.toUInt32.toInt32)
      have f20 : (0 : Int32).toInt = 0 := rfl
      have f21 : (255 : Int32).toInt = 255 := rfl
      omega
  obtain ⟨_, _, ⟨T22, L22, k22, n22⟩, -, X22, ⟨Lc22, hQ22, l22, y22, z22⟩, st22⟩ := X7.specialBack hx (y := own_y1) rfl hown (mvT hZ (own_w hw 9 rfl)) (mvT hZ (own_w hw 10 rfl)) (mvT hZ (own_w hw 11 rfl)) (by decide) (StrChars.Road.backV (W := 1) hZ (own_words hw) (kI := 4) (own_w hw 7 rfl) (cs := [(((p1 &&& (255 : Int32)).toUInt32.toUInt16.toUInt32.toInt32).toUInt32.toUInt16.toUInt32.toInt32)]) (bs := [(((p1 &&& (255 : Int32)).toUInt32.toUInt16.toUInt32.toInt32).toUInt32.toUInt16.toUInt32.toInt32)].map (fun c => c.toInt8.toInt32)) (n := 1) g_b7 Z8 A7 F_value_b7 F_coder_b7 B10 (own_StaK SC K9) hzc rfl rfl (by decide) (by decide) hlat11 rfl (by decide) (by decide)) (g := (mkF m 59 #[iv 1, iv p1, iv p2, rv b1] [.ref b1, .ref b7, .ref b7])) rfl (by rw [hml]; rfl) (Steps.refl _) (a := b7) (argsL := [(.ref b1)]) (rest := [(.ref b7)]) (lenOf own_pd_6 rfl) rfl (by show 2 * 0 + _ ≤ _; exact Nat.le_of_eq rfl) (hb hby own_d_method_3_59) (fun _ _ => ⟨rfl, e7, (by decide : 2 + 1 ≤ _), (by decide : 5 + 1 ≤ _)⟩)
  dsimp only [Pt.U, Pt.locs, Pt.cells, Pt.slots] at X22 l22 y22 z22 st22 hQ22
  subst l22 y22 z22
  obtain ⟨rfl, Nq22, Kq22, Ex22, -⟩ := hQ22
  have N22 := Fr.app N4 Nq22
  have e22 : T22.heap = T22.heap := rfl
  have Z23 := Nat.le_trans Z8 Kq22.1
  have K24 : Keep h0 _ [] := K9.trans Kq22 (allS (P := fun x => x ∈ [] ∨ h0.size ≤ x) (Or.inr sz_b7) all0)
  refine own_tr st22 ?_
  show own_E p e below _ T22 (mkF m 62 #[iv 1, iv p1, iv p2, rv b1] [.ref b7])
  refine own_retA X22 hx Bd.notSynchronized Bd.returns rfl rfl (hb hby own_d_method_3_62) (by decide) (by decide) ?_
  show own_drawn1_Q Z zc p1 p2 h0 n0 _ T22.heap _
  rw [e22]
  exact ⟨b7, rfl, N22, K24, sz_b7, Ex22⟩
theorem own_d_method_3_32 : decode method_3_code 32 = .ok (.iconst 2, 1) := by decide +kernel
theorem own_d_method_3_33 : decode method_3_code 33 = .ok (.newarray .char, 2) := by decide +kernel
theorem own_d_method_3_35 : decode method_3_code 35 = .ok (.dup, 1) := by decide +kernel
theorem own_d_method_3_36 : decode method_3_code 36 = .ok (.iconst 0, 1) := by decide +kernel
theorem own_d_method_3_37 : decode method_3_code 37 = .ok (.iload_n 1, 1) := by decide +kernel
theorem own_d_method_3_38 : decode method_3_code 38 = .ok (.sipush 255, 3) := by decide +kernel
theorem own_d_method_3_41 : decode method_3_code 41 = .ok (.iand, 1) := by decide +kernel
theorem own_d_method_3_42 : decode method_3_code 42 = .ok (.i2c, 1) := by decide +kernel
theorem own_d_method_3_43 : decode method_3_code 43 = .ok (.castore, 1) := by decide +kernel
theorem own_d_method_3_44 : decode method_3_code 44 = .ok (.dup, 1) := by decide +kernel
theorem own_d_method_3_45 : decode method_3_code 45 = .ok (.iconst 1, 1) := by decide +kernel
theorem own_d_method_3_46 : decode method_3_code 46 = .ok (.iload_n 2, 1) := by decide +kernel
theorem own_d_method_3_47 : decode method_3_code 47 = .ok (.sipush 255, 3) := by decide +kernel
theorem own_d_method_3_50 : decode method_3_code 50 = .ok (.iand, 1) := by decide +kernel
theorem own_d_method_3_51 : decode method_3_code 51 = .ok (.i2c, 1) := by decide +kernel
theorem own_d_method_3_52 : decode method_3_code 52 = .ok (.castore, 1) := by decide +kernel
theorem own_d_method_3_53 : decode method_3_code 53 = .ok (.astore_n 3, 1) := by decide +kernel
def own_drawn2_Q (Z : State) (zc : Int32) (p1 : Int32) (p2 : Int32) (h0 : Heap) (n0 : Nat) (v : Option Value) (h : Heap) (L : List Loc) : Prop := ∃ (o0 : Addr), v = some (.ref o0) ∧ Fr n0 L ∧ Keep h0 h [] ∧ h0.size ≤ o0 ∧ Exa Z h o0 "java/lang/String"
theorem own_drawn2_ef (m : MethodId) (zc : Int32) (p1 : Int32) (p2 : Int32) : entryFrame m #[(.int (2 : Int32)), (.int p1), (.int p2)] 4 = mkF m 0 #[.val (.int (2 : Int32)), .val (.int p1), .val (.int p2), .unset] [] := by first | (simp [entryFrame, mkF, argsToLocals, Value.category]; done) | rfl
set_option maxRecDepth 65536 in
set_option maxHeartbeats 40000000 in
theorem own_drawn2 (l : Launch) (Z : State) (a0 : Array Value) (hw : ∀ d ∈ tables_1, d.before a0 Z = true) (ws : List Jvm.Cond) (zc : Int32) (p1 : Int32) (p2 : Int32) (h0 : Heap) (n0 : Nat) (Z0 : n0 ≤ h0.size) (SC : Sta Z h0 "java/lang/String" "COMPACT_STRINGS" "Z" (.int zc)) (hzc : ¬ zc = 0) :
    MetFree l own_y3 (head1 (Jvm.Cond.code own_y3 method_3_code 4 (some (.object "java/lang/String")) :: ws) ({ frames := 4, cells := 3, slots := 8, locals := 66 } : Room)) (fun a U => a = #[(.int (2 : Int32)), (.int p1), (.int p2)] ∧ Z.Warmed39 U.vm ∧ U.heap = h0) (fun _ _ _ _ _ => True) (fun _ U o U' => ∃ v L, o = .returned v ∧ own_drawn2_Q Z zc p1 p2 h0 n0 v U'.heap L ∧ FrameEnd U o U' L ({ frames := 4, cells := 3, slots := 8, locals := 66 } : Room).cells ({ frames := 4, cells := 3, slots := 8, locals := 66 } : Room).slots) := by
  refine MetFree.of_bodySF (plainFor_of_name own_pn_PageRequestCursorPinLaw) hisR ?_
  intro p e s m args below meth c s₁ Bd hml0 hP hK
  obtain ⟨rfl, hZ, hh⟩ := hP
  have hx := Bd.exec
  have hby := Bd.bytes
  have hml : c.maxLocals = 4 := hml0
  have hown : s.vm.findClass "com/example/acquirer/acquirer/PageRequestCursorPinLaw" = some m.cls := findClass_of_methodNamed Bd.named
  have hnm := (name_of_methodNamed Bd.named Bd.method).1
  have X0 : Stand p l e ({ frames := 4, cells := 3, slots := 8, locals := 66 } : Room) s m #[(.int (2 : Int32)), (.int p1), (.int p2)] below meth c s₁ [] 0 0 := Stand.of_body Bd
  have e0 : s₁.heap = h0 := by rw [← hh, Bd.state]; rfl
  show own_E p e below (own_K (own_drawn2_Q Z zc p1 p2 h0 n0) s ({ frames := 4, cells := 3, slots := 8, locals := 66 } : Room).cells ({ frames := 4, cells := 3, slots := 8, locals := 66 } : Room).slots) s₁ (entryFrame m #[(.int (2 : Int32)), (.int p1), (.int p2)] 4)
  refine own_pre (own_drawn2_ef m zc p1 p2) ?_
  show own_E p e below _ s₁ (mkF m 0 #[iv 2, iv p1, iv p2, .unset] [])
  refine own_st (fun t k => XS.iloadN X0.here hx rfl (hb hby own_d_method_3_0) rfl k) ?_
  show own_E p e below _ s₁ (mkF m 1 #[iv 2, iv p1, iv p2, .unset] [.int 2])
  refine own_st (fun t k => XS.ifYes X0.here hx rfl (pc0 := 1) (pc' := 11) rfl (hb hby own_d_method_3_1) rfl (by decide) (by decide) (by decide) k) ?_
  show own_E p e below _ s₁ (mkF m 11 #[iv 2, iv p1, iv p2, .unset] [])
  refine own_st (fun t k => XS.iloadN X0.here hx rfl (hb hby own_d_method_3_11) rfl k) ?_
  show own_E p e below _ s₁ (mkF m 12 #[iv 2, iv p1, iv p2, .unset] [.int 2])
  refine own_st (fun t k => XS.iconst X0.here hx rfl (hb hby own_d_method_3_12) k) ?_
  show own_E p e below _ s₁ (mkF m 13 #[iv 2, iv p1, iv p2, .unset] [.int 1, .int 2])
  refine own_st (fun t k => XS.icmpYes X0.here hx rfl (pc0 := 13) (pc' := 32) rfl (hb hby own_d_method_3_13) rfl (by decide) (by decide) (by decide) k) ?_
  show own_E p e below _ s₁ (mkF m 32 #[iv 2, iv p1, iv p2, .unset] [])
  refine own_st (fun t k => XS.iconst X0.here hx rfl (hb hby own_d_method_3_32) k) ?_
  show own_E p e below _ s₁ (mkF m 33 #[iv 2, iv p1, iv p2, .unset] [.int 2])
  obtain ⟨T1, h1, k1, X1, e1, E1, A1, st1⟩ := newP X0 hx hZ (own_w hw 5 rfl) e0 (g := (mkF m 33 #[iv 2, iv p1, iv p2, .unset] [.int 2])) rfl (hb hby own_d_method_3_33) rfl (by decide) (cap := 2) (by decide) (by decide) (by decide) (by decide)
  obtain ⟨b1, g1⟩ : ∃ z, z = h0.size := ⟨_, rfl⟩
  rw [← g1] at A1 st1
  have g_b1 : n0 ≤ b1 := Nat.le_trans Z0 (Nat.le_of_eq g1.symm)
  have sz_b1 : h0.size ≤ b1 := Nat.le_trans (Keep.refl h0 []).1 (Nat.le_of_eq g1.symm)
  have Z2 := Nat.le_trans Z0 E1.1
  have K3 : Keep h0 _ [] := (Keep.refl h0 []).ext E1
  have V1 : Arv Z h1 b1 k1 .char (2 : Int32) [(.int (0 : Int32)), (.int (0 : Int32))] (.int (0 : Int32)) := (Arv.new A1 (by decide)).pad (pad_rep [] (.int (0 : Int32)) 2)
  refine own_st st1 ?_
  show own_E p e below _ T1 (mkF m 35 #[iv 2, iv p1, iv p2, .unset] [.ref b1])
  refine own_st (fun t k => XS.dup X1.here hx rfl (hb hby own_d_method_3_35) rfl rfl k) ?_
  show own_E p e below _ T1 (mkF m 36 #[iv 2, iv p1, iv p2, .unset] [.ref b1, .ref b1])
  refine own_st (fun t k => XS.iconst X1.here hx rfl (hb hby own_d_method_3_36) k) ?_
  show own_E p e below _ T1 (mkF m 37 #[iv 2, iv p1, iv p2, .unset] [.int 0, .ref b1, .ref b1])
  refine own_st (fun t k => XS.iloadN X1.here hx rfl (hb hby own_d_method_3_37) rfl k) ?_
  show own_E p e below _ T1 (mkF m 38 #[iv 2, iv p1, iv p2, .unset] [.int p1, .int 0, .ref b1, .ref b1])
  refine own_st (fun t k => XS.sipush X1.here hx rfl (hb hby own_d_method_3_38) k) ?_
  show own_E p e below _ T1 (mkF m 41 #[iv 2, iv p1, iv p2, .unset] [.int 255, .int p1, .int 0, .ref b1, .ref b1])
  refine own_st (fun t k => XS.iand X1.here hx rfl (hb hby own_d_method_3_41) rfl k) ?_
  show own_E p e below _ T1 (mkF m 42 #[iv 2, iv p1, iv p2, .unset] [.int (p1 &&& (255 : Int32)), .int 0, .ref b1, .ref b1])
  refine own_st (fun t k => XS.i2c X1.here hx rfl (hb hby own_d_method_3_42) rfl k) ?_
  show own_E p e below _ T1 (mkF m 43 #[iv 2, iv p1, iv p2, .unset] [.int ((p1 &&& (255 : Int32)).toUInt32.toUInt16.toUInt32.toInt32), .int 0, .ref b1, .ref b1])
  obtain ⟨T4, h4, X4, e4, W4, Vw4, st4⟩ := own_cst X1 hx hZ e1 V1 (j := (0 : Int32)) ⟨by decide, by decide⟩ (x := ((p1 &&& (255 : Int32)).toUInt32.toUInt16.toUInt32.toInt32)) (i := 0) rfl (Nat.le_of_ble_eq_true rfl) (g := (mkF m 43 #[iv 2, iv p1, iv p2, .unset] [.int ((p1 &&& (255 : Int32)).toUInt32.toUInt16.toUInt32.toInt32), .int 0, .ref b1, .ref b1])) rfl rfl (hb hby own_d_method_3_43)
  have V4 : Arv Z h4 b1 k1 .char (2 : Int32) [(.int (((p1 &&& (255 : Int32)).toUInt32.toUInt16.toUInt32.toInt32).toUInt32.toUInt16.toUInt32.toInt32)), (.int (0 : Int32))] (.int (0 : Int32)) := Vw4
  have N4 := Fr.snoc X4 (Fr.nil n0) g_b1
  have Z5 := Nat.le_trans Z2 (Keep.of_wr W4).1
  have K6 : Keep h0 _ [] := K3.wr W4 (Or.inr sz_b1)
  refine own_st st4 ?_
  show own_E p e below _ T4 (mkF m 44 #[iv 2, iv p1, iv p2, .unset] [.ref b1])
  refine own_st (fun t k => XS.dup X4.here hx rfl (hb hby own_d_method_3_44) rfl rfl k) ?_
  show own_E p e below _ T4 (mkF m 45 #[iv 2, iv p1, iv p2, .unset] [.ref b1, .ref b1])
  refine own_st (fun t k => XS.iconst X4.here hx rfl (hb hby own_d_method_3_45) k) ?_
  show own_E p e below _ T4 (mkF m 46 #[iv 2, iv p1, iv p2, .unset] [.int 1, .ref b1, .ref b1])
  refine own_st (fun t k => XS.iloadN X4.here hx rfl (hb hby own_d_method_3_46) rfl k) ?_
  show own_E p e below _ T4 (mkF m 47 #[iv 2, iv p1, iv p2, .unset] [.int p2, .int 1, .ref b1, .ref b1])
  refine own_st (fun t k => XS.sipush X4.here hx rfl (hb hby own_d_method_3_47) k) ?_
  show own_E p e below _ T4 (mkF m 50 #[iv 2, iv p1, iv p2, .unset] [.int 255, .int p2, .int 1, .ref b1, .ref b1])
  refine own_st (fun t k => XS.iand X4.here hx rfl (hb hby own_d_method_3_50) rfl k) ?_
  show own_E p e below _ T4 (mkF m 51 #[iv 2, iv p1, iv p2, .unset] [.int (p2 &&& (255 : Int32)), .int 1, .ref b1, .ref b1])
  refine own_st (fun t k => XS.i2c X4.here hx rfl (hb hby own_d_method_3_51) rfl k) ?_
  show own_E p e below _ T4 (mkF m 52 #[iv 2, iv p1, iv p2, .unset] [.int ((p2 &&& (255 : Int32)).toUInt32.toUInt16.toUInt32.toInt32), .int 1, .ref b1, .ref b1])
  obtain ⟨T7, h7, X7, e7, W7, Vw7, st7⟩ := own_cst X4 hx hZ e4 V4 (j := (1 : Int32)) ⟨by decide, by decide⟩ (x := ((p2 &&& (255 : Int32)).toUInt32.toUInt16.toUInt32.toInt32)) (i := 1) rfl (Nat.le_of_ble_eq_true rfl) (g := (mkF m 52 #[iv 2, iv p1, iv p2, .unset] [.int ((p2 &&& (255 : Int32)).toUInt32.toUInt16.toUInt32.toInt32), .int 1, .ref b1, .ref b1])) rfl rfl (hb hby own_d_method_3_52)
  have V7 : Arv Z h7 b1 k1 .char (2 : Int32) [(.int (((p1 &&& (255 : Int32)).toUInt32.toUInt16.toUInt32.toInt32).toUInt32.toUInt16.toUInt32.toInt32)), (.int (((p2 &&& (255 : Int32)).toUInt32.toUInt16.toUInt32.toInt32).toUInt32.toUInt16.toUInt32.toInt32))] (.int (0 : Int32)) := Vw7
  have N7 := Fr.snoc X7 N4 g_b1
  have Z8 := Nat.le_trans Z5 (Keep.of_wr W7).1
  have K9 : Keep h0 _ [] := K6.wr W7 (Or.inr sz_b1)
  refine own_st st7 ?_
  show own_E p e below _ T7 (mkF m 53 #[iv 2, iv p1, iv p2, .unset] [.ref b1])
  refine own_st (fun t k => XS.astoreN X7.here hx rfl (hb hby own_d_method_3_53) rfl rfl (l' := #[iv 2, iv p1, iv p2, rv b1]) rfl k) ?_
  show own_E p e below _ T7 (mkF m 54 #[iv 2, iv p1, iv p2, rv b1] [])
  obtain ⟨T10, h10, X10, e10, E10, A10, D10, -, st10⟩ := newO X7 hx hZ hown (own_w hw 6 rfl) (own_w hw 7 rfl) (own_w hw 8 rfl) e7 (g := (mkF m 54 #[iv 2, iv p1, iv p2, rv b1] [])) rfl (hb hby own_d_method_3_54) (by decide) (by decide)
  obtain ⟨b10, g10⟩ : ∃ z, z = h7.size := ⟨_, rfl⟩
  rw [← g10] at A10 D10 st10
  have ne_b1_b10 : b1 ≠ b10 := Nat.ne_of_lt (Nat.lt_of_lt_of_le V7.lt (Nat.le_of_eq g10.symm))
  have g_b10 : n0 ≤ b10 := Nat.le_trans Z8 (Nat.le_of_eq g10.symm)
  have sz_b10 : h0.size ≤ b10 := Nat.le_trans K9.1 (Nat.le_of_eq g10.symm)
  have Z11 := Nat.le_trans Z8 E10.1
  have K12 : Keep h0 _ [] := K9.ext E10
  have F_value_b10 : Fld Z h10 b10 "java/lang/String" "value" "[B" .null := D10 (Or.inr (own_w hw 21 rfl)) (ty := (.array .byte)) (by decide)
  have F_coder_b10 : Fld Z h10 b10 "java/lang/String" "coder" "B" (.int (0 : Int32)) := D10 (Or.inr (own_w hw 22 rfl)) (ty := .byte) (by decide)
  refine own_st st10 ?_
  show own_E p e below _ T10 (mkF m 57 #[iv 2, iv p1, iv p2, rv b1] [.ref b10])
  refine own_st (fun t k => XS.dup X10.here hx rfl (hb hby own_d_method_3_57) rfl rfl k) ?_
  show own_E p e below _ T10 (mkF m 58 #[iv 2, iv p1, iv p2, rv b1] [.ref b10, .ref b10])
  refine own_st (fun t k => XS.aloadN X10.here hx rfl (hb hby own_d_method_3_58) rfl rfl k) ?_
  show own_E p e below _ T10 (mkF m 59 #[iv 2, iv p1, iv p2, rv b1] [.ref b1, .ref b10, .ref b10])
  have B13 := (V7.ext E10)
  have hlat14 : ∀ c ∈ [(((p1 &&& (255 : Int32)).toUInt32.toUInt16.toUInt32.toInt32).toUInt32.toUInt16.toUInt32.toInt32), (((p2 &&& (255 : Int32)).toUInt32.toUInt16.toUInt32.toInt32).toUInt32.toUInt16.toUInt32.toInt32)], ¬ c < 0 ∧ ¬ (255 : Int32) < c := by
    intro c hc
    simp only [List.mem_cons, List.not_mem_nil, or_false] at hc
    rcases hc with rfl | rfl
    · rw [Int32.lt_iff_toInt_lt, Int32.lt_iff_toInt_lt]
      have f15 := rng32 p1
      have f16 : (255 : Int32).toInt = 255 := rfl
      have f17 := rng32 (p1 &&& (255 : Int32))
      have f18 : (p1 &&& (255 : Int32)).toInt = p1.toInt % 256 := c_mask p1 (255 : Int32) 8 (by decide) (by decide)
      have f19 := rng32 ((p1 &&& (255 : Int32)).toUInt32.toUInt16.toUInt32.toInt32)
      have f20 := c_i2c (p1 &&& (255 : Int32))
      have f21 := rng32 (((p1 &&& (255 : Int32)).toUInt32.toUInt16.toUInt32.toInt32).toUInt32.toUInt16.toUInt32.toInt32)
      have f22 := c_i2c ((p1 &&& (255 : Int32)).toUInt32.toUInt16.toUInt32.toInt32)
      have f23 : (0 : Int32).toInt = 0 := rfl
      have f24 : (255 : Int32).toInt = 255 := rfl
      omega
    · rw [Int32.lt_iff_toInt_lt, Int32.lt_iff_toInt_lt]
      have f25 := rng32 p2
      have f26 : (255 : Int32).toInt = 255 := rfl
      have f27 := rng32 (p2 &&& (255 : Int32))
      have f28 : (p2 &&& (255 : Int32)).toInt = p2.toInt % 256 := c_mask p2 (255 : Int32) 8 (by decide) (by decide)
      have f29 := rng32 ((p2 &&& (255 : Int32)).toUInt32.toUInt16.toUInt32.toInt32)
      have f30 := c_i2c (p2 &&& (255 : Int32))
      have f31 := rng32 (((p2 &&& (255 : Int32)).toUInt32.toUInt16.toUInt32.toInt32).toUInt32.toUInt16.toUInt32.toInt32)
      have f32 := c_i2c ((p2 &&& (255 : Int32)).toUInt32.toUInt16.toUInt32.toInt32)
      have f33 : (0 : Int32).toInt = 0 := rfl
      have f34 : (255 : Int32).toInt = 255 := rfl
      omega
  obtain ⟨_, _, ⟨T35, L35, k35, n35⟩, -, X35, ⟨Lc35, hQ35, l35, y35, z35⟩, st35⟩ := X10.specialBack hx (y := own_y1) rfl hown (mvT hZ (own_w hw 9 rfl)) (mvT hZ (own_w hw 10 rfl)) (mvT hZ (own_w hw 11 rfl)) (by decide) (StrChars.Road.backV (W := 1) hZ (own_words hw) (kI := 4) (own_w hw 7 rfl) (cs := [(((p1 &&& (255 : Int32)).toUInt32.toUInt16.toUInt32.toInt32).toUInt32.toUInt16.toUInt32.toInt32), (((p2 &&& (255 : Int32)).toUInt32.toUInt16.toUInt32.toInt32).toUInt32.toUInt16.toUInt32.toInt32)]) (bs := [(((p1 &&& (255 : Int32)).toUInt32.toUInt16.toUInt32.toInt32).toUInt32.toUInt16.toUInt32.toInt32), (((p2 &&& (255 : Int32)).toUInt32.toUInt16.toUInt32.toInt32).toUInt32.toUInt16.toUInt32.toInt32)].map (fun c => c.toInt8.toInt32)) (n := 2) g_b10 Z11 A10 F_value_b10 F_coder_b10 B13 (own_StaK SC K12) hzc rfl rfl (by decide) (by decide) hlat14 rfl (by decide) (by decide)) (g := (mkF m 59 #[iv 2, iv p1, iv p2, rv b1] [.ref b1, .ref b10, .ref b10])) rfl (by rw [hml]; rfl) (Steps.refl _) (a := b10) (argsL := [(.ref b1)]) (rest := [(.ref b10)]) (lenOf own_pd_6 rfl) rfl (by show 2 * 0 + _ ≤ _; exact Nat.le_of_eq rfl) (hb hby own_d_method_3_59) (fun _ _ => ⟨rfl, e10, (by decide : 2 + 1 ≤ _), (by decide : 6 + 2 ≤ _)⟩)
  dsimp only [Pt.U, Pt.locs, Pt.cells, Pt.slots] at X35 l35 y35 z35 st35 hQ35
  subst l35 y35 z35
  obtain ⟨rfl, Nq35, Kq35, Ex35, -⟩ := hQ35
  have N35 := Fr.app N7 Nq35
  have e35 : T35.heap = T35.heap := rfl
  have Z36 := Nat.le_trans Z11 Kq35.1
  have K37 : Keep h0 _ [] := K12.trans Kq35 (allS (P := fun x => x ∈ [] ∨ h0.size ≤ x) (Or.inr sz_b10) all0)
  refine own_tr st35 ?_
  show own_E p e below _ T35 (mkF m 62 #[iv 2, iv p1, iv p2, rv b1] [.ref b10])
  refine own_retA X35 hx Bd.notSynchronized Bd.returns rfl rfl (hb hby own_d_method_3_62) (by decide) (by decide) ?_
  show own_drawn2_Q Z zc p1 p2 h0 n0 _ T35.heap _
  rw [e35]
  exact ⟨b10, rfl, N35, K37, sz_b10, Ex35⟩
theorem own_d_prog_19_method_1_0 : decode prog_19_method_1_code 0 = .ok (.aload_n 0, 1) := by decide +kernel
theorem own_d_prog_19_method_1_1 : decode prog_19_method_1_code 1 = .ok (.invokespecial 1, 3) := by decide +kernel
theorem own_pd_1 : parseMethodDescriptor "()V" = some ⟨[], none⟩ := by decide +kernel
theorem own_d_prog_19_method_1_4 : decode prog_19_method_1_code 4 = .ok (.aload_n 0, 1) := by decide +kernel
theorem own_d_prog_19_method_1_5 : decode prog_19_method_1_code 5 = .ok (.iload_n 1, 1) := by decide +kernel
theorem own_d_prog_19_method_1_6 : decode prog_19_method_1_code 6 = .ok (.putfield 7, 3) := by decide +kernel
theorem own_d_prog_19_method_1_9 : decode prog_19_method_1_code 9 = .ok (.aload_n 0, 1) := by decide +kernel
theorem own_d_prog_19_method_1_10 : decode prog_19_method_1_code 10 = .ok (.aload_n 2, 1) := by decide +kernel
theorem own_d_prog_19_method_1_11 : decode prog_19_method_1_code 11 = .ok (.putfield 13, 3) := by decide +kernel
theorem own_d_prog_19_method_1_14 : decode prog_19_method_1_code 14 = .ok (.aload_n 0, 1) := by decide +kernel
theorem own_d_prog_19_method_1_15 : decode prog_19_method_1_code 15 = .ok (.aload_n 3, 1) := by decide +kernel
theorem own_d_prog_19_method_1_16 : decode prog_19_method_1_code 16 = .ok (.putfield 17, 3) := by decide +kernel
theorem own_d_prog_19_method_1_19 : decode prog_19_method_1_code 19 = .ok (.aload_n 0, 1) := by decide +kernel
theorem own_d_prog_19_method_1_20 : decode prog_19_method_1_code 20 = .ok (.iload 4, 2) := by decide +kernel
theorem own_d_prog_19_method_1_22 : decode prog_19_method_1_code 22 = .ok (.putfield 20, 3) := by decide +kernel
theorem own_d_prog_19_method_1_25 : decode prog_19_method_1_code 25 = .ok (.return_, 1) := by decide +kernel
def own_init000_Q (Z : State) (a1 : Addr) (p1 : Int32) (h0 : Heap) (n0 : Nat) (v : Option Value) (h : Heap) (L : List Loc) : Prop := v = none ∧ Fr n0 L ∧ Keep h0 h [a1] ∧ Exa Z h a1 "com/example/acquirer/acquirer/PageRequest" ∧ Fld Z h a1 "com/example/acquirer/acquirer/PageRequest" "startingAfter" "Ljava/lang/String;" .null ∧ Fld Z h a1 "com/example/acquirer/acquirer/PageRequest" "endingBefore" "Ljava/lang/String;" .null
abbrev own_y4 : MethodName := ⟨"com/example/acquirer/acquirer/PageRequest", "<init>", "(ILjava/lang/String;Ljava/lang/String;Z)V"⟩
theorem own_pn_PageRequest : plainName "com/example/acquirer/acquirer/PageRequest" = true := by first | (simp [plainName, overriddenIn]; done) | decide +kernel
theorem own_init000_ef (m : MethodId) (a1 : Addr) (p1 : Int32) : entryFrame m #[(.ref a1), (.int p1), .null, .null, (.int (0 : Int32))] 5 = mkF m 0 #[.val (.ref a1), .val (.int p1), .val .null, .val .null, .val (.int (0 : Int32))] [] := by first | (simp [entryFrame, mkF, argsToLocals, Value.category]; done) | rfl
set_option maxRecDepth 65536 in
set_option maxHeartbeats 40000000 in
theorem own_init000 (l : Launch) (Z : State) (a0 : Array Value) (hw : ∀ d ∈ tables_1, d.before a0 Z = true) (ws : List Jvm.Cond) (a1 : Addr) (p1 : Int32) (h0 : Heap) (n0 : Nat) (Z0 : n0 ≤ h0.size) (E_a1 : Exa Z h0 a1 "com/example/acquirer/acquirer/PageRequest") (F_limit_a1 : Fld Z h0 a1 "com/example/acquirer/acquirer/PageRequest" "limit" "I" (.int (0 : Int32))) (F_startingAfter_a1 : Fld Z h0 a1 "com/example/acquirer/acquirer/PageRequest" "startingAfter" "Ljava/lang/String;" .null) (F_endingBefore_a1 : Fld Z h0 a1 "com/example/acquirer/acquirer/PageRequest" "endingBefore" "Ljava/lang/String;" .null) (F_descending_a1 : Fld Z h0 a1 "com/example/acquirer/acquirer/PageRequest" "descending" "Z" (.int (0 : Int32))) (g_a1 : n0 ≤ a1) :
    MetFree l own_y4 (head1 (Jvm.Cond.code own_y4 prog_19_method_1_code 5 none :: ws) ({ frames := 2, cells := 0, slots := 0, locals := 24 } : Room)) (fun a U => a = #[(.ref a1), (.int p1), .null, .null, (.int (0 : Int32))] ∧ Z.Warmed39 U.vm ∧ U.heap = h0) (fun _ _ _ _ _ => True) (fun _ U o U' => ∃ v L, o = .returned v ∧ own_init000_Q Z a1 p1 h0 n0 v U'.heap L ∧ FrameEnd U o U' L ({ frames := 2, cells := 0, slots := 0, locals := 24 } : Room).cells ({ frames := 2, cells := 0, slots := 0, locals := 24 } : Room).slots) := by
  refine MetFree.of_bodySF (plainFor_of_name own_pn_PageRequest) hisR ?_
  intro p e s m args below meth c s₁ Bd hml0 hP hK
  obtain ⟨rfl, hZ, hh⟩ := hP
  have hx := Bd.exec
  have hby := Bd.bytes
  have hml : c.maxLocals = 5 := hml0
  have hown : s.vm.findClass "com/example/acquirer/acquirer/PageRequest" = some m.cls := findClass_of_methodNamed Bd.named
  have hnm := (name_of_methodNamed Bd.named Bd.method).1
  have X0 : Stand p l e ({ frames := 2, cells := 0, slots := 0, locals := 24 } : Room) s m #[(.ref a1), (.int p1), .null, .null, (.int (0 : Int32))] below meth c s₁ [] 0 0 := Stand.of_body Bd
  have e0 : s₁.heap = h0 := by rw [← hh, Bd.state]; rfl
  show own_E p e below (own_K (own_init000_Q Z a1 p1 h0 n0) s ({ frames := 2, cells := 0, slots := 0, locals := 24 } : Room).cells ({ frames := 2, cells := 0, slots := 0, locals := 24 } : Room).slots) s₁ (entryFrame m #[(.ref a1), (.int p1), .null, .null, (.int (0 : Int32))] 5)
  refine own_pre (own_init000_ef m a1 p1) ?_
  show own_E p e below _ s₁ (mkF m 0 #[rv a1, iv p1, .val (.null), .val (.null), iv 0] [])
  refine own_st (fun t k => XS.aloadN X0.here hx rfl (hb hby own_d_prog_19_method_1_0) rfl rfl k) ?_
  show own_E p e below _ s₁ (mkF m 1 #[rv a1, iv p1, .val (.null), .val (.null), iv 0] [.ref a1])
  obtain ⟨_, _, ⟨T1, L1, k1, n1⟩, -, X1, ⟨Lc1, hQ1, l1, y1, z1⟩, st1⟩ := X0.specialBack hx (y := own_y2) rfl hown (mvT hZ (own_w hw 33 rfl)) (mvT hZ (own_w hw 34 rfl)) (mvT hZ (own_w hw 37 rfl)) (by decide) (backOf (W := 0) (own_rec l Z a0 hw [] a1 h0 n0 Z0 ) hZ (own_w hw 37 rfl) (own_w hw 36 rfl) (by decide) (by decide)) (g := (mkF m 1 #[rv a1, iv p1, .val (.null), .val (.null), iv 0] [.ref a1])) rfl (by rw [hml]; rfl) (Steps.refl _) (a := a1) (argsL := []) (rest := []) (lenOf own_pd_1 rfl) rfl (by show 2 * 0 + _ ≤ _; exact Nat.le_of_eq rfl) (hb hby own_d_prog_19_method_1_1) (fun _ _ => ⟨rfl, e0, (by decide : 0 + 0 ≤ _), (by decide : 0 + 0 ≤ _)⟩)
  dsimp only [Pt.U, Pt.locs, Pt.cells, Pt.slots] at X1 l1 y1 z1 st1 hQ1
  subst l1 y1 z1
  obtain ⟨hR1, e1, rfl⟩ := hQ1
  have N1 := Fr.app (Fr.nil n0) (Fr.nil n0)
  obtain rfl := hR1
  refine own_tr st1 ?_
  show own_E p e below _ T1 (mkF m 4 #[rv a1, iv p1, .val (.null), .val (.null), iv 0] [])
  refine own_st (fun t k => XS.aloadN X1.here hx rfl (hb hby own_d_prog_19_method_1_4) rfl rfl k) ?_
  show own_E p e below _ T1 (mkF m 5 #[rv a1, iv p1, .val (.null), .val (.null), iv 0] [.ref a1])
  refine own_st (fun t k => XS.iloadN X1.here hx rfl (hb hby own_d_prog_19_method_1_5) rfl k) ?_
  show own_E p e below _ T1 (mkF m 6 #[rv a1, iv p1, .val (.null), .val (.null), iv 0] [.int p1, .ref a1])
  obtain ⟨T2, h2, X2, e2, W2, st2⟩ := putF X1 hx hZ hown (host := "") (Or.inl (own_w hw 39 rfl)) Via.refl e1 F_limit_a1 E_a1 (Or.inr ⟨(own_w hw 40 rfl), rfl, hnm⟩) (own_w hw 28 rfl) (ty := .int) (by decide) rfl rfl (g := (mkF m 6 #[rv a1, iv p1, .val (.null), .val (.null), iv 0] [.int p1, .ref a1])) rfl rfl (hb hby own_d_prog_19_method_1_6)
  have N2 := Fr.snoc X2 N1 g_a1
  have Fw2 := F_limit_a1.same W2
  have Z3 := Nat.le_trans Z0 (Keep.of_wr W2).1
  have K4 : Keep h0 _ [a1] := (Keep.refl h0 [a1]).wr W2 (Or.inl (List.mem_of_getElem? (i := 0) rfl))
  refine own_st st2 ?_
  show own_E p e below _ T2 (mkF m 9 #[rv a1, iv p1, .val (.null), .val (.null), iv 0] [])
  refine own_st (fun t k => XS.aloadN X2.here hx rfl (hb hby own_d_prog_19_method_1_9) rfl rfl k) ?_
  show own_E p e below _ T2 (mkF m 10 #[rv a1, iv p1, .val (.null), .val (.null), iv 0] [.ref a1])
  refine own_st (fun t k => XS.aloadN X2.here hx rfl (hb hby own_d_prog_19_method_1_10) rfl rfl k) ?_
  show own_E p e below _ T2 (mkF m 11 #[rv a1, iv p1, .val (.null), .val (.null), iv 0] [.null, .ref a1])
  have B6 := (F_startingAfter_a1.other W2 (Or.inr (slot_ne (Or.inr (own_w hw 42 rfl)) (Or.inr (own_w hw 40 rfl)) (by decide) (t := (.object "java/lang/String")) (t' := .int) (by decide) (by decide))))
  have B7 := (E_a1.wr W2)
  obtain ⟨T5, h5, X5, e5, W5, st5⟩ := putF X2 hx hZ hown (host := "") (Or.inl (own_w hw 41 rfl)) Via.refl e2 B6 B7 (Or.inr ⟨(own_w hw 42 rfl), rfl, hnm⟩) (own_w hw 28 rfl) (ty := (.object "java/lang/String")) (by decide) rfl rfl (g := (mkF m 11 #[rv a1, iv p1, .val (.null), .val (.null), iv 0] [.null, .ref a1])) rfl rfl (hb hby own_d_prog_19_method_1_11)
  have N5 := Fr.snoc X5 N2 g_a1
  have Fw5 := B6.same W5
  have Z8 := Nat.le_trans Z3 (Keep.of_wr W5).1
  have K9 : Keep h0 _ [a1] := K4.wr W5 (Or.inl (List.mem_of_getElem? (i := 0) rfl))
  refine own_st st5 ?_
  show own_E p e below _ T5 (mkF m 14 #[rv a1, iv p1, .val (.null), .val (.null), iv 0] [])
  refine own_st (fun t k => XS.aloadN X5.here hx rfl (hb hby own_d_prog_19_method_1_14) rfl rfl k) ?_
  show own_E p e below _ T5 (mkF m 15 #[rv a1, iv p1, .val (.null), .val (.null), iv 0] [.ref a1])
  refine own_st (fun t k => XS.aloadN X5.here hx rfl (hb hby own_d_prog_19_method_1_15) rfl rfl k) ?_
  show own_E p e below _ T5 (mkF m 16 #[rv a1, iv p1, .val (.null), .val (.null), iv 0] [.null, .ref a1])
  have B11 := ((F_endingBefore_a1.other W2 (Or.inr (slot_ne (Or.inr (own_w hw 44 rfl)) (Or.inr (own_w hw 40 rfl)) (by decide) (t := (.object "java/lang/String")) (t' := .int) (by decide) (by decide)))).other W5 (Or.inr (slot_ne (Or.inr (own_w hw 44 rfl)) (Or.inr (own_w hw 42 rfl)) (by decide) (t := (.object "java/lang/String")) (t' := (.object "java/lang/String")) (by decide) (by decide))))
  have B12 := (B7.wr W5)
  obtain ⟨T10, h10, X10, e10, W10, st10⟩ := putF X5 hx hZ hown (host := "") (Or.inl (own_w hw 43 rfl)) Via.refl e5 B11 B12 (Or.inr ⟨(own_w hw 44 rfl), rfl, hnm⟩) (own_w hw 28 rfl) (ty := (.object "java/lang/String")) (by decide) rfl rfl (g := (mkF m 16 #[rv a1, iv p1, .val (.null), .val (.null), iv 0] [.null, .ref a1])) rfl rfl (hb hby own_d_prog_19_method_1_16)
  have N10 := Fr.snoc X10 N5 g_a1
  have Fw10 := B11.same W10
  have Z13 := Nat.le_trans Z8 (Keep.of_wr W10).1
  have K14 : Keep h0 _ [a1] := K9.wr W10 (Or.inl (List.mem_of_getElem? (i := 0) rfl))
  refine own_st st10 ?_
  show own_E p e below _ T10 (mkF m 19 #[rv a1, iv p1, .val (.null), .val (.null), iv 0] [])
  refine own_st (fun t k => XS.aloadN X10.here hx rfl (hb hby own_d_prog_19_method_1_19) rfl rfl k) ?_
  show own_E p e below _ T10 (mkF m 20 #[rv a1, iv p1, .val (.null), .val (.null), iv 0] [.ref a1])
  refine own_st (fun t k => XS.iload X10.here hx rfl (hb hby own_d_prog_19_method_1_20) rfl k) ?_
  show own_E p e below _ T10 (mkF m 22 #[rv a1, iv p1, .val (.null), .val (.null), iv 0] [.int 0, .ref a1])
  have B16 := (((F_descending_a1.other W2 (Or.inr (slot_ne (Or.inr (own_w hw 46 rfl)) (Or.inr (own_w hw 40 rfl)) (by decide) (t := .boolean) (t' := .int) (by decide) (by decide)))).other W5 (Or.inr (slot_ne (Or.inr (own_w hw 46 rfl)) (Or.inr (own_w hw 42 rfl)) (by decide) (t := .boolean) (t' := (.object "java/lang/String")) (by decide) (by decide)))).other W10 (Or.inr (slot_ne (Or.inr (own_w hw 46 rfl)) (Or.inr (own_w hw 44 rfl)) (by decide) (t := .boolean) (t' := (.object "java/lang/String")) (by decide) (by decide))))
  have B17 := (B12.wr W10)
  obtain ⟨T15, h15, X15, e15, W15, st15⟩ := putF X10 hx hZ hown (host := "") (Or.inl (own_w hw 45 rfl)) Via.refl e10 B16 B17 (Or.inr ⟨(own_w hw 46 rfl), rfl, hnm⟩) (own_w hw 28 rfl) (ty := .boolean) (by decide) rfl rfl (g := (mkF m 22 #[rv a1, iv p1, .val (.null), .val (.null), iv 0] [.int 0, .ref a1])) rfl rfl (hb hby own_d_prog_19_method_1_22)
  have N15 := Fr.snoc X15 N10 g_a1
  have Fw15 := B16.same W15
  have Z18 := Nat.le_trans Z13 (Keep.of_wr W15).1
  have K19 : Keep h0 _ [a1] := K14.wr W15 (Or.inl (List.mem_of_getElem? (i := 0) rfl))
  refine own_st st15 ?_
  show own_E p e below _ T15 (mkF m 25 #[rv a1, iv p1, .val (.null), .val (.null), iv 0] [])
  refine own_retV X15 hx Bd.notSynchronized Bd.returns (hb hby own_d_prog_19_method_1_25) (by decide) (by decide) ?_
  have B20 := (B17.wr W15)
  have B21 := ((Fw5.other W10 (Or.inr (slot_ne (Or.inr (own_w hw 42 rfl)) (Or.inr (own_w hw 44 rfl)) (by decide) (t := (.object "java/lang/String")) (t' := (.object "java/lang/String")) (by decide) (by decide)))).other W15 (Or.inr (slot_ne (Or.inr (own_w hw 42 rfl)) (Or.inr (own_w hw 46 rfl)) (by decide) (t := (.object "java/lang/String")) (t' := .boolean) (by decide) (by decide))))
  have B22 := (Fw10.other W15 (Or.inr (slot_ne (Or.inr (own_w hw 44 rfl)) (Or.inr (own_w hw 46 rfl)) (by decide) (t := (.object "java/lang/String")) (t' := .boolean) (by decide) (by decide))))
  show own_init000_Q Z a1 p1 h0 n0 _ T15.heap _
  rw [e15]
  exact ⟨rfl, N15, K19, B20, B21, B22⟩
def own_init001_Q (Z : State) (a1 : Addr) (p1 : Int32) (h0 : Heap) (n0 : Nat) (v : Option Value) (h : Heap) (L : List Loc) : Prop := v = none ∧ Fr n0 L ∧ Keep h0 h [a1] ∧ Exa Z h a1 "com/example/acquirer/acquirer/PageRequest" ∧ Fld Z h a1 "com/example/acquirer/acquirer/PageRequest" "startingAfter" "Ljava/lang/String;" .null ∧ Fld Z h a1 "com/example/acquirer/acquirer/PageRequest" "endingBefore" "Ljava/lang/String;" .null
theorem own_init001_ef (m : MethodId) (a1 : Addr) (p1 : Int32) : entryFrame m #[(.ref a1), (.int p1), .null, .null, (.int (1 : Int32))] 5 = mkF m 0 #[.val (.ref a1), .val (.int p1), .val .null, .val .null, .val (.int (1 : Int32))] [] := by first | (simp [entryFrame, mkF, argsToLocals, Value.category]; done) | rfl
set_option maxRecDepth 65536 in
set_option maxHeartbeats 40000000 in
theorem own_init001 (l : Launch) (Z : State) (a0 : Array Value) (hw : ∀ d ∈ tables_1, d.before a0 Z = true) (ws : List Jvm.Cond) (a1 : Addr) (p1 : Int32) (h0 : Heap) (n0 : Nat) (Z0 : n0 ≤ h0.size) (E_a1 : Exa Z h0 a1 "com/example/acquirer/acquirer/PageRequest") (F_limit_a1 : Fld Z h0 a1 "com/example/acquirer/acquirer/PageRequest" "limit" "I" (.int (0 : Int32))) (F_startingAfter_a1 : Fld Z h0 a1 "com/example/acquirer/acquirer/PageRequest" "startingAfter" "Ljava/lang/String;" .null) (F_endingBefore_a1 : Fld Z h0 a1 "com/example/acquirer/acquirer/PageRequest" "endingBefore" "Ljava/lang/String;" .null) (F_descending_a1 : Fld Z h0 a1 "com/example/acquirer/acquirer/PageRequest" "descending" "Z" (.int (0 : Int32))) (g_a1 : n0 ≤ a1) :
    MetFree l own_y4 (head1 (Jvm.Cond.code own_y4 prog_19_method_1_code 5 none :: ws) ({ frames := 2, cells := 0, slots := 0, locals := 24 } : Room)) (fun a U => a = #[(.ref a1), (.int p1), .null, .null, (.int (1 : Int32))] ∧ Z.Warmed39 U.vm ∧ U.heap = h0) (fun _ _ _ _ _ => True) (fun _ U o U' => ∃ v L, o = .returned v ∧ own_init001_Q Z a1 p1 h0 n0 v U'.heap L ∧ FrameEnd U o U' L ({ frames := 2, cells := 0, slots := 0, locals := 24 } : Room).cells ({ frames := 2, cells := 0, slots := 0, locals := 24 } : Room).slots) := by
  refine MetFree.of_bodySF (plainFor_of_name own_pn_PageRequest) hisR ?_
  intro p e s m args below meth c s₁ Bd hml0 hP hK
  obtain ⟨rfl, hZ, hh⟩ := hP
  have hx := Bd.exec
  have hby := Bd.bytes
  have hml : c.maxLocals = 5 := hml0
  have hown : s.vm.findClass "com/example/acquirer/acquirer/PageRequest" = some m.cls := findClass_of_methodNamed Bd.named
  have hnm := (name_of_methodNamed Bd.named Bd.method).1
  have X0 : Stand p l e ({ frames := 2, cells := 0, slots := 0, locals := 24 } : Room) s m #[(.ref a1), (.int p1), .null, .null, (.int (1 : Int32))] below meth c s₁ [] 0 0 := Stand.of_body Bd
  have e0 : s₁.heap = h0 := by rw [← hh, Bd.state]; rfl
  show own_E p e below (own_K (own_init001_Q Z a1 p1 h0 n0) s ({ frames := 2, cells := 0, slots := 0, locals := 24 } : Room).cells ({ frames := 2, cells := 0, slots := 0, locals := 24 } : Room).slots) s₁ (entryFrame m #[(.ref a1), (.int p1), .null, .null, (.int (1 : Int32))] 5)
  refine own_pre (own_init001_ef m a1 p1) ?_
  show own_E p e below _ s₁ (mkF m 0 #[rv a1, iv p1, .val (.null), .val (.null), iv 1] [])
  refine own_st (fun t k => XS.aloadN X0.here hx rfl (hb hby own_d_prog_19_method_1_0) rfl rfl k) ?_
  show own_E p e below _ s₁ (mkF m 1 #[rv a1, iv p1, .val (.null), .val (.null), iv 1] [.ref a1])
  obtain ⟨_, _, ⟨T1, L1, k1, n1⟩, -, X1, ⟨Lc1, hQ1, l1, y1, z1⟩, st1⟩ := X0.specialBack hx (y := own_y2) rfl hown (mvT hZ (own_w hw 33 rfl)) (mvT hZ (own_w hw 34 rfl)) (mvT hZ (own_w hw 37 rfl)) (by decide) (backOf (W := 0) (own_rec l Z a0 hw [] a1 h0 n0 Z0 ) hZ (own_w hw 37 rfl) (own_w hw 36 rfl) (by decide) (by decide)) (g := (mkF m 1 #[rv a1, iv p1, .val (.null), .val (.null), iv 1] [.ref a1])) rfl (by rw [hml]; rfl) (Steps.refl _) (a := a1) (argsL := []) (rest := []) (lenOf own_pd_1 rfl) rfl (by show 2 * 0 + _ ≤ _; exact Nat.le_of_eq rfl) (hb hby own_d_prog_19_method_1_1) (fun _ _ => ⟨rfl, e0, (by decide : 0 + 0 ≤ _), (by decide : 0 + 0 ≤ _)⟩)
  dsimp only [Pt.U, Pt.locs, Pt.cells, Pt.slots] at X1 l1 y1 z1 st1 hQ1
  subst l1 y1 z1
  obtain ⟨hR1, e1, rfl⟩ := hQ1
  have N1 := Fr.app (Fr.nil n0) (Fr.nil n0)
  obtain rfl := hR1
  refine own_tr st1 ?_
  show own_E p e below _ T1 (mkF m 4 #[rv a1, iv p1, .val (.null), .val (.null), iv 1] [])
  refine own_st (fun t k => XS.aloadN X1.here hx rfl (hb hby own_d_prog_19_method_1_4) rfl rfl k) ?_
  show own_E p e below _ T1 (mkF m 5 #[rv a1, iv p1, .val (.null), .val (.null), iv 1] [.ref a1])
  refine own_st (fun t k => XS.iloadN X1.here hx rfl (hb hby own_d_prog_19_method_1_5) rfl k) ?_
  show own_E p e below _ T1 (mkF m 6 #[rv a1, iv p1, .val (.null), .val (.null), iv 1] [.int p1, .ref a1])
  obtain ⟨T2, h2, X2, e2, W2, st2⟩ := putF X1 hx hZ hown (host := "") (Or.inl (own_w hw 39 rfl)) Via.refl e1 F_limit_a1 E_a1 (Or.inr ⟨(own_w hw 40 rfl), rfl, hnm⟩) (own_w hw 28 rfl) (ty := .int) (by decide) rfl rfl (g := (mkF m 6 #[rv a1, iv p1, .val (.null), .val (.null), iv 1] [.int p1, .ref a1])) rfl rfl (hb hby own_d_prog_19_method_1_6)
  have N2 := Fr.snoc X2 N1 g_a1
  have Fw2 := F_limit_a1.same W2
  have Z3 := Nat.le_trans Z0 (Keep.of_wr W2).1
  have K4 : Keep h0 _ [a1] := (Keep.refl h0 [a1]).wr W2 (Or.inl (List.mem_of_getElem? (i := 0) rfl))
  refine own_st st2 ?_
  show own_E p e below _ T2 (mkF m 9 #[rv a1, iv p1, .val (.null), .val (.null), iv 1] [])
  refine own_st (fun t k => XS.aloadN X2.here hx rfl (hb hby own_d_prog_19_method_1_9) rfl rfl k) ?_
  show own_E p e below _ T2 (mkF m 10 #[rv a1, iv p1, .val (.null), .val (.null), iv 1] [.ref a1])
  refine own_st (fun t k => XS.aloadN X2.here hx rfl (hb hby own_d_prog_19_method_1_10) rfl rfl k) ?_
  show own_E p e below _ T2 (mkF m 11 #[rv a1, iv p1, .val (.null), .val (.null), iv 1] [.null, .ref a1])
  have B6 := (F_startingAfter_a1.other W2 (Or.inr (slot_ne (Or.inr (own_w hw 42 rfl)) (Or.inr (own_w hw 40 rfl)) (by decide) (t := (.object "java/lang/String")) (t' := .int) (by decide) (by decide))))
  have B7 := (E_a1.wr W2)
  obtain ⟨T5, h5, X5, e5, W5, st5⟩ := putF X2 hx hZ hown (host := "") (Or.inl (own_w hw 41 rfl)) Via.refl e2 B6 B7 (Or.inr ⟨(own_w hw 42 rfl), rfl, hnm⟩) (own_w hw 28 rfl) (ty := (.object "java/lang/String")) (by decide) rfl rfl (g := (mkF m 11 #[rv a1, iv p1, .val (.null), .val (.null), iv 1] [.null, .ref a1])) rfl rfl (hb hby own_d_prog_19_method_1_11)
  have N5 := Fr.snoc X5 N2 g_a1
  have Fw5 := B6.same W5
  have Z8 := Nat.le_trans Z3 (Keep.of_wr W5).1
  have K9 : Keep h0 _ [a1] := K4.wr W5 (Or.inl (List.mem_of_getElem? (i := 0) rfl))
  refine own_st st5 ?_
  show own_E p e below _ T5 (mkF m 14 #[rv a1, iv p1, .val (.null), .val (.null), iv 1] [])
  refine own_st (fun t k => XS.aloadN X5.here hx rfl (hb hby own_d_prog_19_method_1_14) rfl rfl k) ?_
  show own_E p e below _ T5 (mkF m 15 #[rv a1, iv p1, .val (.null), .val (.null), iv 1] [.ref a1])
  refine own_st (fun t k => XS.aloadN X5.here hx rfl (hb hby own_d_prog_19_method_1_15) rfl rfl k) ?_
  show own_E p e below _ T5 (mkF m 16 #[rv a1, iv p1, .val (.null), .val (.null), iv 1] [.null, .ref a1])
  have B11 := ((F_endingBefore_a1.other W2 (Or.inr (slot_ne (Or.inr (own_w hw 44 rfl)) (Or.inr (own_w hw 40 rfl)) (by decide) (t := (.object "java/lang/String")) (t' := .int) (by decide) (by decide)))).other W5 (Or.inr (slot_ne (Or.inr (own_w hw 44 rfl)) (Or.inr (own_w hw 42 rfl)) (by decide) (t := (.object "java/lang/String")) (t' := (.object "java/lang/String")) (by decide) (by decide))))
  have B12 := (B7.wr W5)
  obtain ⟨T10, h10, X10, e10, W10, st10⟩ := putF X5 hx hZ hown (host := "") (Or.inl (own_w hw 43 rfl)) Via.refl e5 B11 B12 (Or.inr ⟨(own_w hw 44 rfl), rfl, hnm⟩) (own_w hw 28 rfl) (ty := (.object "java/lang/String")) (by decide) rfl rfl (g := (mkF m 16 #[rv a1, iv p1, .val (.null), .val (.null), iv 1] [.null, .ref a1])) rfl rfl (hb hby own_d_prog_19_method_1_16)
  have N10 := Fr.snoc X10 N5 g_a1
  have Fw10 := B11.same W10
  have Z13 := Nat.le_trans Z8 (Keep.of_wr W10).1
  have K14 : Keep h0 _ [a1] := K9.wr W10 (Or.inl (List.mem_of_getElem? (i := 0) rfl))
  refine own_st st10 ?_
  show own_E p e below _ T10 (mkF m 19 #[rv a1, iv p1, .val (.null), .val (.null), iv 1] [])
  refine own_st (fun t k => XS.aloadN X10.here hx rfl (hb hby own_d_prog_19_method_1_19) rfl rfl k) ?_
  show own_E p e below _ T10 (mkF m 20 #[rv a1, iv p1, .val (.null), .val (.null), iv 1] [.ref a1])
  refine own_st (fun t k => XS.iload X10.here hx rfl (hb hby own_d_prog_19_method_1_20) rfl k) ?_
  show own_E p e below _ T10 (mkF m 22 #[rv a1, iv p1, .val (.null), .val (.null), iv 1] [.int 1, .ref a1])
  have B16 := (((F_descending_a1.other W2 (Or.inr (slot_ne (Or.inr (own_w hw 46 rfl)) (Or.inr (own_w hw 40 rfl)) (by decide) (t := .boolean) (t' := .int) (by decide) (by decide)))).other W5 (Or.inr (slot_ne (Or.inr (own_w hw 46 rfl)) (Or.inr (own_w hw 42 rfl)) (by decide) (t := .boolean) (t' := (.object "java/lang/String")) (by decide) (by decide)))).other W10 (Or.inr (slot_ne (Or.inr (own_w hw 46 rfl)) (Or.inr (own_w hw 44 rfl)) (by decide) (t := .boolean) (t' := (.object "java/lang/String")) (by decide) (by decide))))
  have B17 := (B12.wr W10)
  obtain ⟨T15, h15, X15, e15, W15, st15⟩ := putF X10 hx hZ hown (host := "") (Or.inl (own_w hw 45 rfl)) Via.refl e10 B16 B17 (Or.inr ⟨(own_w hw 46 rfl), rfl, hnm⟩) (own_w hw 28 rfl) (ty := .boolean) (by decide) rfl rfl (g := (mkF m 22 #[rv a1, iv p1, .val (.null), .val (.null), iv 1] [.int 1, .ref a1])) rfl rfl (hb hby own_d_prog_19_method_1_22)
  have N15 := Fr.snoc X15 N10 g_a1
  have Fw15 := B16.same W15
  have Z18 := Nat.le_trans Z13 (Keep.of_wr W15).1
  have K19 : Keep h0 _ [a1] := K14.wr W15 (Or.inl (List.mem_of_getElem? (i := 0) rfl))
  refine own_st st15 ?_
  show own_E p e below _ T15 (mkF m 25 #[rv a1, iv p1, .val (.null), .val (.null), iv 1] [])
  refine own_retV X15 hx Bd.notSynchronized Bd.returns (hb hby own_d_prog_19_method_1_25) (by decide) (by decide) ?_
  have B20 := (B17.wr W15)
  have B21 := ((Fw5.other W10 (Or.inr (slot_ne (Or.inr (own_w hw 42 rfl)) (Or.inr (own_w hw 44 rfl)) (by decide) (t := (.object "java/lang/String")) (t' := (.object "java/lang/String")) (by decide) (by decide)))).other W15 (Or.inr (slot_ne (Or.inr (own_w hw 42 rfl)) (Or.inr (own_w hw 46 rfl)) (by decide) (t := (.object "java/lang/String")) (t' := .boolean) (by decide) (by decide))))
  have B22 := (Fw10.other W15 (Or.inr (slot_ne (Or.inr (own_w hw 44 rfl)) (Or.inr (own_w hw 46 rfl)) (by decide) (t := (.object "java/lang/String")) (t' := .boolean) (by decide) (by decide))))
  show own_init001_Q Z a1 p1 h0 n0 _ T15.heap _
  rw [e15]
  exact ⟨rfl, N15, K19, B20, B21, B22⟩
theorem own_d_prog_19_method_2_0 : decode prog_19_method_2_code 0 = .ok (.aload_n 0, 1) := by decide +kernel
theorem own_d_prog_19_method_2_1 : decode prog_19_method_2_code 1 = .ok (.getfield 13, 3) := by decide +kernel
theorem own_d_prog_19_method_2_4 : decode prog_19_method_2_code 4 = .ok (.ifnull 10, 3) := by decide +kernel
theorem own_d_prog_19_method_2_14 : decode prog_19_method_2_code 14 = .ok (.aload_n 0, 1) := by decide +kernel
theorem own_d_prog_19_method_2_15 : decode prog_19_method_2_code 15 = .ok (.getfield 17, 3) := by decide +kernel
theorem own_d_prog_19_method_2_18 : decode prog_19_method_2_code 18 = .ok (.areturn, 1) := by decide +kernel
def own_cur00_Q (a1 : Addr) (h0 : Heap) (v : Option Value) (h : Heap) (L : List Loc) : Prop := ((v = some .null)) ∧ h = h0 ∧ L = []
abbrev own_y5 : MethodName := ⟨"com/example/acquirer/acquirer/PageRequest", "cursor", "()Ljava/lang/String;"⟩
theorem own_cur00_ef (m : MethodId) (a1 : Addr) : entryFrame m #[(.ref a1)] 1 = mkF m 0 #[.val (.ref a1)] [] := by first | (simp [entryFrame, mkF, argsToLocals, Value.category]; done) | rfl
set_option maxRecDepth 65536 in
set_option maxHeartbeats 40000000 in
theorem own_cur00 (l : Launch) (Z : State) (a0 : Array Value) (hw : ∀ d ∈ tables_1, d.before a0 Z = true) (ws : List Jvm.Cond) (a1 : Addr) (h0 : Heap) (n0 : Nat) (Z0 : n0 ≤ h0.size) (F_startingAfter_a1 : Fld Z h0 a1 "com/example/acquirer/acquirer/PageRequest" "startingAfter" "Ljava/lang/String;" .null) (F_endingBefore_a1 : Fld Z h0 a1 "com/example/acquirer/acquirer/PageRequest" "endingBefore" "Ljava/lang/String;" .null) :
    MetFree l own_y5 (head1 (Jvm.Cond.code own_y5 prog_19_method_2_code 1 (some (.object "java/lang/String")) :: ws) ({ frames := 0, cells := 0, slots := 0, locals := 0 } : Room)) (fun a U => a = #[(.ref a1)] ∧ Z.Warmed39 U.vm ∧ U.heap = h0) (fun _ _ _ _ _ => True) (fun _ U o U' => ∃ v L, o = .returned v ∧ own_cur00_Q a1 h0 v U'.heap L ∧ FrameEnd U o U' L ({ frames := 0, cells := 0, slots := 0, locals := 0 } : Room).cells ({ frames := 0, cells := 0, slots := 0, locals := 0 } : Room).slots) := by
  refine MetFree.of_bodySF (plainFor_of_name own_pn_PageRequest) hisR ?_
  intro p e s m args below meth c s₁ Bd hml0 hP hK
  obtain ⟨rfl, hZ, hh⟩ := hP
  have hx := Bd.exec
  have hby := Bd.bytes
  have hml : c.maxLocals = 1 := hml0
  have hown : s.vm.findClass "com/example/acquirer/acquirer/PageRequest" = some m.cls := findClass_of_methodNamed Bd.named
  have hnm := (name_of_methodNamed Bd.named Bd.method).1
  have X0 : Stand p l e ({ frames := 0, cells := 0, slots := 0, locals := 0 } : Room) s m #[(.ref a1)] below meth c s₁ [] 0 0 := Stand.of_body Bd
  have e0 : s₁.heap = h0 := by rw [← hh, Bd.state]; rfl
  show own_E p e below (own_K (own_cur00_Q a1 h0) s ({ frames := 0, cells := 0, slots := 0, locals := 0 } : Room).cells ({ frames := 0, cells := 0, slots := 0, locals := 0 } : Room).slots) s₁ (entryFrame m #[(.ref a1)] 1)
  refine own_pre (own_cur00_ef m a1) ?_
  show own_E p e below _ s₁ (mkF m 0 #[rv a1] [])
  refine own_st (fun t k => XS.aloadN X0.here hx rfl (hb hby own_d_prog_19_method_2_0) rfl rfl k) ?_
  show own_E p e below _ s₁ (mkF m 1 #[rv a1] [.ref a1])
  obtain ⟨T1, X1, e1, st1⟩ := getF X0 hx hZ hown (host := "") (Or.inl (own_w hw 41 rfl)) Via.refl e0 F_startingAfter_a1 (g := (mkF m 1 #[rv a1] [.ref a1])) rfl rfl (hb hby own_d_prog_19_method_2_1)
  refine own_st st1 ?_
  show own_E p e below _ T1 (mkF m 4 #[rv a1] [.null])
  refine own_st (fun t k => XS.ifnullYes X1.here hx rfl (pc0 := 4) (pc' := 14) rfl (hb hby own_d_prog_19_method_2_4) rfl (by decide) (by decide) k) ?_
  show own_E p e below _ T1 (mkF m 14 #[rv a1] [])
  refine own_st (fun t k => XS.aloadN X1.here hx rfl (hb hby own_d_prog_19_method_2_14) rfl rfl k) ?_
  show own_E p e below _ T1 (mkF m 15 #[rv a1] [.ref a1])
  obtain ⟨T2, X2, e2, st2⟩ := getF X1 hx hZ hown (host := "") (Or.inl (own_w hw 43 rfl)) Via.refl e1 F_endingBefore_a1 (g := (mkF m 15 #[rv a1] [.ref a1])) rfl rfl (hb hby own_d_prog_19_method_2_15)
  refine own_st st2 ?_
  show own_E p e below _ T2 (mkF m 18 #[rv a1] [.null])
  refine own_retA X2 hx Bd.notSynchronized Bd.returns rfl rfl (hb hby own_d_prog_19_method_2_18) (by decide) (by decide) ?_
  exact ⟨rfl, e2, rfl⟩
def own_init100_Q (Z : State) (a1 : Addr) (r1 : Addr) (p1 : Int32) (h0 : Heap) (n0 : Nat) (v : Option Value) (h : Heap) (L : List Loc) : Prop := v = none ∧ Fr n0 L ∧ Keep h0 h [a1] ∧ Exa Z h a1 "com/example/acquirer/acquirer/PageRequest" ∧ Fld Z h a1 "com/example/acquirer/acquirer/PageRequest" "startingAfter" "Ljava/lang/String;" (.ref r1) ∧ Fld Z h a1 "com/example/acquirer/acquirer/PageRequest" "endingBefore" "Ljava/lang/String;" .null
theorem own_init100_ef (m : MethodId) (a1 : Addr) (r1 : Addr) (p1 : Int32) : entryFrame m #[(.ref a1), (.int p1), (.ref r1), .null, (.int (0 : Int32))] 5 = mkF m 0 #[.val (.ref a1), .val (.int p1), .val (.ref r1), .val .null, .val (.int (0 : Int32))] [] := by first | (simp [entryFrame, mkF, argsToLocals, Value.category]; done) | rfl
set_option maxRecDepth 65536 in
set_option maxHeartbeats 40000000 in
theorem own_init100 (l : Launch) (Z : State) (a0 : Array Value) (hw : ∀ d ∈ tables_1, d.before a0 Z = true) (ws : List Jvm.Cond) (a1 : Addr) (r1 : Addr) (p1 : Int32) (h0 : Heap) (n0 : Nat) (Z0 : n0 ≤ h0.size) (E_a1 : Exa Z h0 a1 "com/example/acquirer/acquirer/PageRequest") (F_limit_a1 : Fld Z h0 a1 "com/example/acquirer/acquirer/PageRequest" "limit" "I" (.int (0 : Int32))) (F_startingAfter_a1 : Fld Z h0 a1 "com/example/acquirer/acquirer/PageRequest" "startingAfter" "Ljava/lang/String;" .null) (F_endingBefore_a1 : Fld Z h0 a1 "com/example/acquirer/acquirer/PageRequest" "endingBefore" "Ljava/lang/String;" .null) (F_descending_a1 : Fld Z h0 a1 "com/example/acquirer/acquirer/PageRequest" "descending" "Z" (.int (0 : Int32))) (g_a1 : n0 ≤ a1) :
    MetFree l own_y4 (head1 (Jvm.Cond.code own_y4 prog_19_method_1_code 5 none :: ws) ({ frames := 2, cells := 0, slots := 0, locals := 24 } : Room)) (fun a U => a = #[(.ref a1), (.int p1), (.ref r1), .null, (.int (0 : Int32))] ∧ Z.Warmed39 U.vm ∧ U.heap = h0) (fun _ _ _ _ _ => True) (fun _ U o U' => ∃ v L, o = .returned v ∧ own_init100_Q Z a1 r1 p1 h0 n0 v U'.heap L ∧ FrameEnd U o U' L ({ frames := 2, cells := 0, slots := 0, locals := 24 } : Room).cells ({ frames := 2, cells := 0, slots := 0, locals := 24 } : Room).slots) := by
  refine MetFree.of_bodySF (plainFor_of_name own_pn_PageRequest) hisR ?_
  intro p e s m args below meth c s₁ Bd hml0 hP hK
  obtain ⟨rfl, hZ, hh⟩ := hP
  have hx := Bd.exec
  have hby := Bd.bytes
  have hml : c.maxLocals = 5 := hml0
  have hown : s.vm.findClass "com/example/acquirer/acquirer/PageRequest" = some m.cls := findClass_of_methodNamed Bd.named
  have hnm := (name_of_methodNamed Bd.named Bd.method).1
  have X0 : Stand p l e ({ frames := 2, cells := 0, slots := 0, locals := 24 } : Room) s m #[(.ref a1), (.int p1), (.ref r1), .null, (.int (0 : Int32))] below meth c s₁ [] 0 0 := Stand.of_body Bd
  have e0 : s₁.heap = h0 := by rw [← hh, Bd.state]; rfl
  show own_E p e below (own_K (own_init100_Q Z a1 r1 p1 h0 n0) s ({ frames := 2, cells := 0, slots := 0, locals := 24 } : Room).cells ({ frames := 2, cells := 0, slots := 0, locals := 24 } : Room).slots) s₁ (entryFrame m #[(.ref a1), (.int p1), (.ref r1), .null, (.int (0 : Int32))] 5)
  refine own_pre (own_init100_ef m a1 r1 p1) ?_
  show own_E p e below _ s₁ (mkF m 0 #[rv a1, iv p1, rv r1, .val (.null), iv 0] [])
  refine own_st (fun t k => XS.aloadN X0.here hx rfl (hb hby own_d_prog_19_method_1_0) rfl rfl k) ?_
  show own_E p e below _ s₁ (mkF m 1 #[rv a1, iv p1, rv r1, .val (.null), iv 0] [.ref a1])
  obtain ⟨_, _, ⟨T1, L1, k1, n1⟩, -, X1, ⟨Lc1, hQ1, l1, y1, z1⟩, st1⟩ := X0.specialBack hx (y := own_y2) rfl hown (mvT hZ (own_w hw 33 rfl)) (mvT hZ (own_w hw 34 rfl)) (mvT hZ (own_w hw 37 rfl)) (by decide) (backOf (W := 0) (own_rec l Z a0 hw [] a1 h0 n0 Z0 ) hZ (own_w hw 37 rfl) (own_w hw 36 rfl) (by decide) (by decide)) (g := (mkF m 1 #[rv a1, iv p1, rv r1, .val (.null), iv 0] [.ref a1])) rfl (by rw [hml]; rfl) (Steps.refl _) (a := a1) (argsL := []) (rest := []) (lenOf own_pd_1 rfl) rfl (by show 2 * 0 + _ ≤ _; exact Nat.le_of_eq rfl) (hb hby own_d_prog_19_method_1_1) (fun _ _ => ⟨rfl, e0, (by decide : 0 + 0 ≤ _), (by decide : 0 + 0 ≤ _)⟩)
  dsimp only [Pt.U, Pt.locs, Pt.cells, Pt.slots] at X1 l1 y1 z1 st1 hQ1
  subst l1 y1 z1
  obtain ⟨hR1, e1, rfl⟩ := hQ1
  have N1 := Fr.app (Fr.nil n0) (Fr.nil n0)
  obtain rfl := hR1
  refine own_tr st1 ?_
  show own_E p e below _ T1 (mkF m 4 #[rv a1, iv p1, rv r1, .val (.null), iv 0] [])
  refine own_st (fun t k => XS.aloadN X1.here hx rfl (hb hby own_d_prog_19_method_1_4) rfl rfl k) ?_
  show own_E p e below _ T1 (mkF m 5 #[rv a1, iv p1, rv r1, .val (.null), iv 0] [.ref a1])
  refine own_st (fun t k => XS.iloadN X1.here hx rfl (hb hby own_d_prog_19_method_1_5) rfl k) ?_
  show own_E p e below _ T1 (mkF m 6 #[rv a1, iv p1, rv r1, .val (.null), iv 0] [.int p1, .ref a1])
  obtain ⟨T2, h2, X2, e2, W2, st2⟩ := putF X1 hx hZ hown (host := "") (Or.inl (own_w hw 39 rfl)) Via.refl e1 F_limit_a1 E_a1 (Or.inr ⟨(own_w hw 40 rfl), rfl, hnm⟩) (own_w hw 28 rfl) (ty := .int) (by decide) rfl rfl (g := (mkF m 6 #[rv a1, iv p1, rv r1, .val (.null), iv 0] [.int p1, .ref a1])) rfl rfl (hb hby own_d_prog_19_method_1_6)
  have N2 := Fr.snoc X2 N1 g_a1
  have Fw2 := F_limit_a1.same W2
  have Z3 := Nat.le_trans Z0 (Keep.of_wr W2).1
  have K4 : Keep h0 _ [a1] := (Keep.refl h0 [a1]).wr W2 (Or.inl (List.mem_of_getElem? (i := 0) rfl))
  refine own_st st2 ?_
  show own_E p e below _ T2 (mkF m 9 #[rv a1, iv p1, rv r1, .val (.null), iv 0] [])
  refine own_st (fun t k => XS.aloadN X2.here hx rfl (hb hby own_d_prog_19_method_1_9) rfl rfl k) ?_
  show own_E p e below _ T2 (mkF m 10 #[rv a1, iv p1, rv r1, .val (.null), iv 0] [.ref a1])
  refine own_st (fun t k => XS.aloadN X2.here hx rfl (hb hby own_d_prog_19_method_1_10) rfl rfl k) ?_
  show own_E p e below _ T2 (mkF m 11 #[rv a1, iv p1, rv r1, .val (.null), iv 0] [.ref r1, .ref a1])
  have B6 := (F_startingAfter_a1.other W2 (Or.inr (slot_ne (Or.inr (own_w hw 42 rfl)) (Or.inr (own_w hw 40 rfl)) (by decide) (t := (.object "java/lang/String")) (t' := .int) (by decide) (by decide))))
  have B7 := (E_a1.wr W2)
  obtain ⟨T5, h5, X5, e5, W5, st5⟩ := putF X2 hx hZ hown (host := "") (Or.inl (own_w hw 41 rfl)) Via.refl e2 B6 B7 (Or.inr ⟨(own_w hw 42 rfl), rfl, hnm⟩) (own_w hw 28 rfl) (ty := (.object "java/lang/String")) (by decide) rfl rfl (g := (mkF m 11 #[rv a1, iv p1, rv r1, .val (.null), iv 0] [.ref r1, .ref a1])) rfl rfl (hb hby own_d_prog_19_method_1_11)
  have N5 := Fr.snoc X5 N2 g_a1
  have Fw5 := B6.same W5
  have Z8 := Nat.le_trans Z3 (Keep.of_wr W5).1
  have K9 : Keep h0 _ [a1] := K4.wr W5 (Or.inl (List.mem_of_getElem? (i := 0) rfl))
  refine own_st st5 ?_
  show own_E p e below _ T5 (mkF m 14 #[rv a1, iv p1, rv r1, .val (.null), iv 0] [])
  refine own_st (fun t k => XS.aloadN X5.here hx rfl (hb hby own_d_prog_19_method_1_14) rfl rfl k) ?_
  show own_E p e below _ T5 (mkF m 15 #[rv a1, iv p1, rv r1, .val (.null), iv 0] [.ref a1])
  refine own_st (fun t k => XS.aloadN X5.here hx rfl (hb hby own_d_prog_19_method_1_15) rfl rfl k) ?_
  show own_E p e below _ T5 (mkF m 16 #[rv a1, iv p1, rv r1, .val (.null), iv 0] [.null, .ref a1])
  have B11 := ((F_endingBefore_a1.other W2 (Or.inr (slot_ne (Or.inr (own_w hw 44 rfl)) (Or.inr (own_w hw 40 rfl)) (by decide) (t := (.object "java/lang/String")) (t' := .int) (by decide) (by decide)))).other W5 (Or.inr (slot_ne (Or.inr (own_w hw 44 rfl)) (Or.inr (own_w hw 42 rfl)) (by decide) (t := (.object "java/lang/String")) (t' := (.object "java/lang/String")) (by decide) (by decide))))
  have B12 := (B7.wr W5)
  obtain ⟨T10, h10, X10, e10, W10, st10⟩ := putF X5 hx hZ hown (host := "") (Or.inl (own_w hw 43 rfl)) Via.refl e5 B11 B12 (Or.inr ⟨(own_w hw 44 rfl), rfl, hnm⟩) (own_w hw 28 rfl) (ty := (.object "java/lang/String")) (by decide) rfl rfl (g := (mkF m 16 #[rv a1, iv p1, rv r1, .val (.null), iv 0] [.null, .ref a1])) rfl rfl (hb hby own_d_prog_19_method_1_16)
  have N10 := Fr.snoc X10 N5 g_a1
  have Fw10 := B11.same W10
  have Z13 := Nat.le_trans Z8 (Keep.of_wr W10).1
  have K14 : Keep h0 _ [a1] := K9.wr W10 (Or.inl (List.mem_of_getElem? (i := 0) rfl))
  refine own_st st10 ?_
  show own_E p e below _ T10 (mkF m 19 #[rv a1, iv p1, rv r1, .val (.null), iv 0] [])
  refine own_st (fun t k => XS.aloadN X10.here hx rfl (hb hby own_d_prog_19_method_1_19) rfl rfl k) ?_
  show own_E p e below _ T10 (mkF m 20 #[rv a1, iv p1, rv r1, .val (.null), iv 0] [.ref a1])
  refine own_st (fun t k => XS.iload X10.here hx rfl (hb hby own_d_prog_19_method_1_20) rfl k) ?_
  show own_E p e below _ T10 (mkF m 22 #[rv a1, iv p1, rv r1, .val (.null), iv 0] [.int 0, .ref a1])
  have B16 := (((F_descending_a1.other W2 (Or.inr (slot_ne (Or.inr (own_w hw 46 rfl)) (Or.inr (own_w hw 40 rfl)) (by decide) (t := .boolean) (t' := .int) (by decide) (by decide)))).other W5 (Or.inr (slot_ne (Or.inr (own_w hw 46 rfl)) (Or.inr (own_w hw 42 rfl)) (by decide) (t := .boolean) (t' := (.object "java/lang/String")) (by decide) (by decide)))).other W10 (Or.inr (slot_ne (Or.inr (own_w hw 46 rfl)) (Or.inr (own_w hw 44 rfl)) (by decide) (t := .boolean) (t' := (.object "java/lang/String")) (by decide) (by decide))))
  have B17 := (B12.wr W10)
  obtain ⟨T15, h15, X15, e15, W15, st15⟩ := putF X10 hx hZ hown (host := "") (Or.inl (own_w hw 45 rfl)) Via.refl e10 B16 B17 (Or.inr ⟨(own_w hw 46 rfl), rfl, hnm⟩) (own_w hw 28 rfl) (ty := .boolean) (by decide) rfl rfl (g := (mkF m 22 #[rv a1, iv p1, rv r1, .val (.null), iv 0] [.int 0, .ref a1])) rfl rfl (hb hby own_d_prog_19_method_1_22)
  have N15 := Fr.snoc X15 N10 g_a1
  have Fw15 := B16.same W15
  have Z18 := Nat.le_trans Z13 (Keep.of_wr W15).1
  have K19 : Keep h0 _ [a1] := K14.wr W15 (Or.inl (List.mem_of_getElem? (i := 0) rfl))
  refine own_st st15 ?_
  show own_E p e below _ T15 (mkF m 25 #[rv a1, iv p1, rv r1, .val (.null), iv 0] [])
  refine own_retV X15 hx Bd.notSynchronized Bd.returns (hb hby own_d_prog_19_method_1_25) (by decide) (by decide) ?_
  have B20 := (B17.wr W15)
  have B21 := ((Fw5.other W10 (Or.inr (slot_ne (Or.inr (own_w hw 42 rfl)) (Or.inr (own_w hw 44 rfl)) (by decide) (t := (.object "java/lang/String")) (t' := (.object "java/lang/String")) (by decide) (by decide)))).other W15 (Or.inr (slot_ne (Or.inr (own_w hw 42 rfl)) (Or.inr (own_w hw 46 rfl)) (by decide) (t := (.object "java/lang/String")) (t' := .boolean) (by decide) (by decide))))
  have B22 := (Fw10.other W15 (Or.inr (slot_ne (Or.inr (own_w hw 44 rfl)) (Or.inr (own_w hw 46 rfl)) (by decide) (t := (.object "java/lang/String")) (t' := .boolean) (by decide) (by decide))))
  show own_init100_Q Z a1 r1 p1 h0 n0 _ T15.heap _
  rw [e15]
  exact ⟨rfl, N15, K19, B20, B21, B22⟩
def own_init101_Q (Z : State) (a1 : Addr) (r1 : Addr) (p1 : Int32) (h0 : Heap) (n0 : Nat) (v : Option Value) (h : Heap) (L : List Loc) : Prop := v = none ∧ Fr n0 L ∧ Keep h0 h [a1] ∧ Exa Z h a1 "com/example/acquirer/acquirer/PageRequest" ∧ Fld Z h a1 "com/example/acquirer/acquirer/PageRequest" "startingAfter" "Ljava/lang/String;" (.ref r1) ∧ Fld Z h a1 "com/example/acquirer/acquirer/PageRequest" "endingBefore" "Ljava/lang/String;" .null
theorem own_init101_ef (m : MethodId) (a1 : Addr) (r1 : Addr) (p1 : Int32) : entryFrame m #[(.ref a1), (.int p1), (.ref r1), .null, (.int (1 : Int32))] 5 = mkF m 0 #[.val (.ref a1), .val (.int p1), .val (.ref r1), .val .null, .val (.int (1 : Int32))] [] := by first | (simp [entryFrame, mkF, argsToLocals, Value.category]; done) | rfl
set_option maxRecDepth 65536 in
set_option maxHeartbeats 40000000 in
theorem own_init101 (l : Launch) (Z : State) (a0 : Array Value) (hw : ∀ d ∈ tables_1, d.before a0 Z = true) (ws : List Jvm.Cond) (a1 : Addr) (r1 : Addr) (p1 : Int32) (h0 : Heap) (n0 : Nat) (Z0 : n0 ≤ h0.size) (E_a1 : Exa Z h0 a1 "com/example/acquirer/acquirer/PageRequest") (F_limit_a1 : Fld Z h0 a1 "com/example/acquirer/acquirer/PageRequest" "limit" "I" (.int (0 : Int32))) (F_startingAfter_a1 : Fld Z h0 a1 "com/example/acquirer/acquirer/PageRequest" "startingAfter" "Ljava/lang/String;" .null) (F_endingBefore_a1 : Fld Z h0 a1 "com/example/acquirer/acquirer/PageRequest" "endingBefore" "Ljava/lang/String;" .null) (F_descending_a1 : Fld Z h0 a1 "com/example/acquirer/acquirer/PageRequest" "descending" "Z" (.int (0 : Int32))) (g_a1 : n0 ≤ a1) :
    MetFree l own_y4 (head1 (Jvm.Cond.code own_y4 prog_19_method_1_code 5 none :: ws) ({ frames := 2, cells := 0, slots := 0, locals := 24 } : Room)) (fun a U => a = #[(.ref a1), (.int p1), (.ref r1), .null, (.int (1 : Int32))] ∧ Z.Warmed39 U.vm ∧ U.heap = h0) (fun _ _ _ _ _ => True) (fun _ U o U' => ∃ v L, o = .returned v ∧ own_init101_Q Z a1 r1 p1 h0 n0 v U'.heap L ∧ FrameEnd U o U' L ({ frames := 2, cells := 0, slots := 0, locals := 24 } : Room).cells ({ frames := 2, cells := 0, slots := 0, locals := 24 } : Room).slots) := by
  refine MetFree.of_bodySF (plainFor_of_name own_pn_PageRequest) hisR ?_
  intro p e s m args below meth c s₁ Bd hml0 hP hK
  obtain ⟨rfl, hZ, hh⟩ := hP
  have hx := Bd.exec
  have hby := Bd.bytes
  have hml : c.maxLocals = 5 := hml0
  have hown : s.vm.findClass "com/example/acquirer/acquirer/PageRequest" = some m.cls := findClass_of_methodNamed Bd.named
  have hnm := (name_of_methodNamed Bd.named Bd.method).1
  have X0 : Stand p l e ({ frames := 2, cells := 0, slots := 0, locals := 24 } : Room) s m #[(.ref a1), (.int p1), (.ref r1), .null, (.int (1 : Int32))] below meth c s₁ [] 0 0 := Stand.of_body Bd
  have e0 : s₁.heap = h0 := by rw [← hh, Bd.state]; rfl
  show own_E p e below (own_K (own_init101_Q Z a1 r1 p1 h0 n0) s ({ frames := 2, cells := 0, slots := 0, locals := 24 } : Room).cells ({ frames := 2, cells := 0, slots := 0, locals := 24 } : Room).slots) s₁ (entryFrame m #[(.ref a1), (.int p1), (.ref r1), .null, (.int (1 : Int32))] 5)
  refine own_pre (own_init101_ef m a1 r1 p1) ?_
  show own_E p e below _ s₁ (mkF m 0 #[rv a1, iv p1, rv r1, .val (.null), iv 1] [])
  refine own_st (fun t k => XS.aloadN X0.here hx rfl (hb hby own_d_prog_19_method_1_0) rfl rfl k) ?_
  show own_E p e below _ s₁ (mkF m 1 #[rv a1, iv p1, rv r1, .val (.null), iv 1] [.ref a1])
  obtain ⟨_, _, ⟨T1, L1, k1, n1⟩, -, X1, ⟨Lc1, hQ1, l1, y1, z1⟩, st1⟩ := X0.specialBack hx (y := own_y2) rfl hown (mvT hZ (own_w hw 33 rfl)) (mvT hZ (own_w hw 34 rfl)) (mvT hZ (own_w hw 37 rfl)) (by decide) (backOf (W := 0) (own_rec l Z a0 hw [] a1 h0 n0 Z0 ) hZ (own_w hw 37 rfl) (own_w hw 36 rfl) (by decide) (by decide)) (g := (mkF m 1 #[rv a1, iv p1, rv r1, .val (.null), iv 1] [.ref a1])) rfl (by rw [hml]; rfl) (Steps.refl _) (a := a1) (argsL := []) (rest := []) (lenOf own_pd_1 rfl) rfl (by show 2 * 0 + _ ≤ _; exact Nat.le_of_eq rfl) (hb hby own_d_prog_19_method_1_1) (fun _ _ => ⟨rfl, e0, (by decide : 0 + 0 ≤ _), (by decide : 0 + 0 ≤ _)⟩)
  dsimp only [Pt.U, Pt.locs, Pt.cells, Pt.slots] at X1 l1 y1 z1 st1 hQ1
  subst l1 y1 z1
  obtain ⟨hR1, e1, rfl⟩ := hQ1
  have N1 := Fr.app (Fr.nil n0) (Fr.nil n0)
  obtain rfl := hR1
  refine own_tr st1 ?_
  show own_E p e below _ T1 (mkF m 4 #[rv a1, iv p1, rv r1, .val (.null), iv 1] [])
  refine own_st (fun t k => XS.aloadN X1.here hx rfl (hb hby own_d_prog_19_method_1_4) rfl rfl k) ?_
  show own_E p e below _ T1 (mkF m 5 #[rv a1, iv p1, rv r1, .val (.null), iv 1] [.ref a1])
  refine own_st (fun t k => XS.iloadN X1.here hx rfl (hb hby own_d_prog_19_method_1_5) rfl k) ?_
  show own_E p e below _ T1 (mkF m 6 #[rv a1, iv p1, rv r1, .val (.null), iv 1] [.int p1, .ref a1])
  obtain ⟨T2, h2, X2, e2, W2, st2⟩ := putF X1 hx hZ hown (host := "") (Or.inl (own_w hw 39 rfl)) Via.refl e1 F_limit_a1 E_a1 (Or.inr ⟨(own_w hw 40 rfl), rfl, hnm⟩) (own_w hw 28 rfl) (ty := .int) (by decide) rfl rfl (g := (mkF m 6 #[rv a1, iv p1, rv r1, .val (.null), iv 1] [.int p1, .ref a1])) rfl rfl (hb hby own_d_prog_19_method_1_6)
  have N2 := Fr.snoc X2 N1 g_a1
  have Fw2 := F_limit_a1.same W2
  have Z3 := Nat.le_trans Z0 (Keep.of_wr W2).1
  have K4 : Keep h0 _ [a1] := (Keep.refl h0 [a1]).wr W2 (Or.inl (List.mem_of_getElem? (i := 0) rfl))
  refine own_st st2 ?_
  show own_E p e below _ T2 (mkF m 9 #[rv a1, iv p1, rv r1, .val (.null), iv 1] [])
  refine own_st (fun t k => XS.aloadN X2.here hx rfl (hb hby own_d_prog_19_method_1_9) rfl rfl k) ?_
  show own_E p e below _ T2 (mkF m 10 #[rv a1, iv p1, rv r1, .val (.null), iv 1] [.ref a1])
  refine own_st (fun t k => XS.aloadN X2.here hx rfl (hb hby own_d_prog_19_method_1_10) rfl rfl k) ?_
  show own_E p e below _ T2 (mkF m 11 #[rv a1, iv p1, rv r1, .val (.null), iv 1] [.ref r1, .ref a1])
  have B6 := (F_startingAfter_a1.other W2 (Or.inr (slot_ne (Or.inr (own_w hw 42 rfl)) (Or.inr (own_w hw 40 rfl)) (by decide) (t := (.object "java/lang/String")) (t' := .int) (by decide) (by decide))))
  have B7 := (E_a1.wr W2)
  obtain ⟨T5, h5, X5, e5, W5, st5⟩ := putF X2 hx hZ hown (host := "") (Or.inl (own_w hw 41 rfl)) Via.refl e2 B6 B7 (Or.inr ⟨(own_w hw 42 rfl), rfl, hnm⟩) (own_w hw 28 rfl) (ty := (.object "java/lang/String")) (by decide) rfl rfl (g := (mkF m 11 #[rv a1, iv p1, rv r1, .val (.null), iv 1] [.ref r1, .ref a1])) rfl rfl (hb hby own_d_prog_19_method_1_11)
  have N5 := Fr.snoc X5 N2 g_a1
  have Fw5 := B6.same W5
  have Z8 := Nat.le_trans Z3 (Keep.of_wr W5).1
  have K9 : Keep h0 _ [a1] := K4.wr W5 (Or.inl (List.mem_of_getElem? (i := 0) rfl))
  refine own_st st5 ?_
  show own_E p e below _ T5 (mkF m 14 #[rv a1, iv p1, rv r1, .val (.null), iv 1] [])
  refine own_st (fun t k => XS.aloadN X5.here hx rfl (hb hby own_d_prog_19_method_1_14) rfl rfl k) ?_
  show own_E p e below _ T5 (mkF m 15 #[rv a1, iv p1, rv r1, .val (.null), iv 1] [.ref a1])
  refine own_st (fun t k => XS.aloadN X5.here hx rfl (hb hby own_d_prog_19_method_1_15) rfl rfl k) ?_
  show own_E p e below _ T5 (mkF m 16 #[rv a1, iv p1, rv r1, .val (.null), iv 1] [.null, .ref a1])
  have B11 := ((F_endingBefore_a1.other W2 (Or.inr (slot_ne (Or.inr (own_w hw 44 rfl)) (Or.inr (own_w hw 40 rfl)) (by decide) (t := (.object "java/lang/String")) (t' := .int) (by decide) (by decide)))).other W5 (Or.inr (slot_ne (Or.inr (own_w hw 44 rfl)) (Or.inr (own_w hw 42 rfl)) (by decide) (t := (.object "java/lang/String")) (t' := (.object "java/lang/String")) (by decide) (by decide))))
  have B12 := (B7.wr W5)
  obtain ⟨T10, h10, X10, e10, W10, st10⟩ := putF X5 hx hZ hown (host := "") (Or.inl (own_w hw 43 rfl)) Via.refl e5 B11 B12 (Or.inr ⟨(own_w hw 44 rfl), rfl, hnm⟩) (own_w hw 28 rfl) (ty := (.object "java/lang/String")) (by decide) rfl rfl (g := (mkF m 16 #[rv a1, iv p1, rv r1, .val (.null), iv 1] [.null, .ref a1])) rfl rfl (hb hby own_d_prog_19_method_1_16)
  have N10 := Fr.snoc X10 N5 g_a1
  have Fw10 := B11.same W10
  have Z13 := Nat.le_trans Z8 (Keep.of_wr W10).1
  have K14 : Keep h0 _ [a1] := K9.wr W10 (Or.inl (List.mem_of_getElem? (i := 0) rfl))
  refine own_st st10 ?_
  show own_E p e below _ T10 (mkF m 19 #[rv a1, iv p1, rv r1, .val (.null), iv 1] [])
  refine own_st (fun t k => XS.aloadN X10.here hx rfl (hb hby own_d_prog_19_method_1_19) rfl rfl k) ?_
  show own_E p e below _ T10 (mkF m 20 #[rv a1, iv p1, rv r1, .val (.null), iv 1] [.ref a1])
  refine own_st (fun t k => XS.iload X10.here hx rfl (hb hby own_d_prog_19_method_1_20) rfl k) ?_
  show own_E p e below _ T10 (mkF m 22 #[rv a1, iv p1, rv r1, .val (.null), iv 1] [.int 1, .ref a1])
  have B16 := (((F_descending_a1.other W2 (Or.inr (slot_ne (Or.inr (own_w hw 46 rfl)) (Or.inr (own_w hw 40 rfl)) (by decide) (t := .boolean) (t' := .int) (by decide) (by decide)))).other W5 (Or.inr (slot_ne (Or.inr (own_w hw 46 rfl)) (Or.inr (own_w hw 42 rfl)) (by decide) (t := .boolean) (t' := (.object "java/lang/String")) (by decide) (by decide)))).other W10 (Or.inr (slot_ne (Or.inr (own_w hw 46 rfl)) (Or.inr (own_w hw 44 rfl)) (by decide) (t := .boolean) (t' := (.object "java/lang/String")) (by decide) (by decide))))
  have B17 := (B12.wr W10)
  obtain ⟨T15, h15, X15, e15, W15, st15⟩ := putF X10 hx hZ hown (host := "") (Or.inl (own_w hw 45 rfl)) Via.refl e10 B16 B17 (Or.inr ⟨(own_w hw 46 rfl), rfl, hnm⟩) (own_w hw 28 rfl) (ty := .boolean) (by decide) rfl rfl (g := (mkF m 22 #[rv a1, iv p1, rv r1, .val (.null), iv 1] [.int 1, .ref a1])) rfl rfl (hb hby own_d_prog_19_method_1_22)
  have N15 := Fr.snoc X15 N10 g_a1
  have Fw15 := B16.same W15
  have Z18 := Nat.le_trans Z13 (Keep.of_wr W15).1
  have K19 : Keep h0 _ [a1] := K14.wr W15 (Or.inl (List.mem_of_getElem? (i := 0) rfl))
  refine own_st st15 ?_
  show own_E p e below _ T15 (mkF m 25 #[rv a1, iv p1, rv r1, .val (.null), iv 1] [])
  refine own_retV X15 hx Bd.notSynchronized Bd.returns (hb hby own_d_prog_19_method_1_25) (by decide) (by decide) ?_
  have B20 := (B17.wr W15)
  have B21 := ((Fw5.other W10 (Or.inr (slot_ne (Or.inr (own_w hw 42 rfl)) (Or.inr (own_w hw 44 rfl)) (by decide) (t := (.object "java/lang/String")) (t' := (.object "java/lang/String")) (by decide) (by decide)))).other W15 (Or.inr (slot_ne (Or.inr (own_w hw 42 rfl)) (Or.inr (own_w hw 46 rfl)) (by decide) (t := (.object "java/lang/String")) (t' := .boolean) (by decide) (by decide))))
  have B22 := (Fw10.other W15 (Or.inr (slot_ne (Or.inr (own_w hw 44 rfl)) (Or.inr (own_w hw 46 rfl)) (by decide) (t := (.object "java/lang/String")) (t' := .boolean) (by decide) (by decide))))
  show own_init101_Q Z a1 r1 p1 h0 n0 _ T15.heap _
  rw [e15]
  exact ⟨rfl, N15, K19, B20, B21, B22⟩
theorem own_d_prog_19_method_2_7 : decode prog_19_method_2_code 7 = .ok (.aload_n 0, 1) := by decide +kernel
theorem own_d_prog_19_method_2_8 : decode prog_19_method_2_code 8 = .ok (.getfield 13, 3) := by decide +kernel
theorem own_d_prog_19_method_2_11 : decode prog_19_method_2_code 11 = .ok (.goto 7, 3) := by decide +kernel
def own_cur10_Q (a1 : Addr) (r1 : Addr) (h0 : Heap) (v : Option Value) (h : Heap) (L : List Loc) : Prop := ((v = some (.ref r1))) ∧ h = h0 ∧ L = []
theorem own_cur10_ef (m : MethodId) (a1 : Addr) (r1 : Addr) : entryFrame m #[(.ref a1)] 1 = mkF m 0 #[.val (.ref a1)] [] := by first | (simp [entryFrame, mkF, argsToLocals, Value.category]; done) | rfl
set_option maxRecDepth 65536 in
set_option maxHeartbeats 40000000 in
theorem own_cur10 (l : Launch) (Z : State) (a0 : Array Value) (hw : ∀ d ∈ tables_1, d.before a0 Z = true) (ws : List Jvm.Cond) (a1 : Addr) (r1 : Addr) (h0 : Heap) (n0 : Nat) (Z0 : n0 ≤ h0.size) (F_startingAfter_a1 : Fld Z h0 a1 "com/example/acquirer/acquirer/PageRequest" "startingAfter" "Ljava/lang/String;" (.ref r1)) (F_endingBefore_a1 : Fld Z h0 a1 "com/example/acquirer/acquirer/PageRequest" "endingBefore" "Ljava/lang/String;" .null) :
    MetFree l own_y5 (head1 (Jvm.Cond.code own_y5 prog_19_method_2_code 1 (some (.object "java/lang/String")) :: ws) ({ frames := 0, cells := 0, slots := 0, locals := 0 } : Room)) (fun a U => a = #[(.ref a1)] ∧ Z.Warmed39 U.vm ∧ U.heap = h0) (fun _ _ _ _ _ => True) (fun _ U o U' => ∃ v L, o = .returned v ∧ own_cur10_Q a1 r1 h0 v U'.heap L ∧ FrameEnd U o U' L ({ frames := 0, cells := 0, slots := 0, locals := 0 } : Room).cells ({ frames := 0, cells := 0, slots := 0, locals := 0 } : Room).slots) := by
  refine MetFree.of_bodySF (plainFor_of_name own_pn_PageRequest) hisR ?_
  intro p e s m args below meth c s₁ Bd hml0 hP hK
  obtain ⟨rfl, hZ, hh⟩ := hP
  have hx := Bd.exec
  have hby := Bd.bytes
  have hml : c.maxLocals = 1 := hml0
  have hown : s.vm.findClass "com/example/acquirer/acquirer/PageRequest" = some m.cls := findClass_of_methodNamed Bd.named
  have hnm := (name_of_methodNamed Bd.named Bd.method).1
  have X0 : Stand p l e ({ frames := 0, cells := 0, slots := 0, locals := 0 } : Room) s m #[(.ref a1)] below meth c s₁ [] 0 0 := Stand.of_body Bd
  have e0 : s₁.heap = h0 := by rw [← hh, Bd.state]; rfl
  show own_E p e below (own_K (own_cur10_Q a1 r1 h0) s ({ frames := 0, cells := 0, slots := 0, locals := 0 } : Room).cells ({ frames := 0, cells := 0, slots := 0, locals := 0 } : Room).slots) s₁ (entryFrame m #[(.ref a1)] 1)
  refine own_pre (own_cur10_ef m a1 r1) ?_
  show own_E p e below _ s₁ (mkF m 0 #[rv a1] [])
  refine own_st (fun t k => XS.aloadN X0.here hx rfl (hb hby own_d_prog_19_method_2_0) rfl rfl k) ?_
  show own_E p e below _ s₁ (mkF m 1 #[rv a1] [.ref a1])
  obtain ⟨T1, X1, e1, st1⟩ := getF X0 hx hZ hown (host := "") (Or.inl (own_w hw 41 rfl)) Via.refl e0 F_startingAfter_a1 (g := (mkF m 1 #[rv a1] [.ref a1])) rfl rfl (hb hby own_d_prog_19_method_2_1)
  refine own_st st1 ?_
  show own_E p e below _ T1 (mkF m 4 #[rv a1] [.ref r1])
  refine own_st (fun t k => XS.ifnullNo X1.here hx rfl (hb hby own_d_prog_19_method_2_4) rfl k) ?_
  show own_E p e below _ T1 (mkF m 7 #[rv a1] [])
  refine own_st (fun t k => XS.aloadN X1.here hx rfl (hb hby own_d_prog_19_method_2_7) rfl rfl k) ?_
  show own_E p e below _ T1 (mkF m 8 #[rv a1] [.ref a1])
  obtain ⟨T2, X2, e2, st2⟩ := getF X1 hx hZ hown (host := "") (Or.inl (own_w hw 41 rfl)) Via.refl e1 F_startingAfter_a1 (g := (mkF m 8 #[rv a1] [.ref a1])) rfl rfl (hb hby own_d_prog_19_method_2_8)
  refine own_st st2 ?_
  show own_E p e below _ T2 (mkF m 11 #[rv a1] [.ref r1])
  refine own_st (fun t k => XS.goto X2.here hx rfl (pc0 := 11) (pc' := 18) rfl (hb hby own_d_prog_19_method_2_11) (by decide) (by decide) k) ?_
  show own_E p e below _ T2 (mkF m 18 #[rv a1] [.ref r1])
  refine own_retA X2 hx Bd.notSynchronized Bd.returns rfl rfl (hb hby own_d_prog_19_method_2_18) (by decide) (by decide) ?_
  exact ⟨rfl, e2, rfl⟩
def own_init010_Q (Z : State) (a1 : Addr) (r1 : Addr) (p1 : Int32) (h0 : Heap) (n0 : Nat) (v : Option Value) (h : Heap) (L : List Loc) : Prop := v = none ∧ Fr n0 L ∧ Keep h0 h [a1] ∧ Exa Z h a1 "com/example/acquirer/acquirer/PageRequest" ∧ Fld Z h a1 "com/example/acquirer/acquirer/PageRequest" "startingAfter" "Ljava/lang/String;" .null ∧ Fld Z h a1 "com/example/acquirer/acquirer/PageRequest" "endingBefore" "Ljava/lang/String;" (.ref r1)
theorem own_init010_ef (m : MethodId) (a1 : Addr) (r1 : Addr) (p1 : Int32) : entryFrame m #[(.ref a1), (.int p1), .null, (.ref r1), (.int (0 : Int32))] 5 = mkF m 0 #[.val (.ref a1), .val (.int p1), .val .null, .val (.ref r1), .val (.int (0 : Int32))] [] := by first | (simp [entryFrame, mkF, argsToLocals, Value.category]; done) | rfl
set_option maxRecDepth 65536 in
set_option maxHeartbeats 40000000 in
theorem own_init010 (l : Launch) (Z : State) (a0 : Array Value) (hw : ∀ d ∈ tables_1, d.before a0 Z = true) (ws : List Jvm.Cond) (a1 : Addr) (r1 : Addr) (p1 : Int32) (h0 : Heap) (n0 : Nat) (Z0 : n0 ≤ h0.size) (E_a1 : Exa Z h0 a1 "com/example/acquirer/acquirer/PageRequest") (F_limit_a1 : Fld Z h0 a1 "com/example/acquirer/acquirer/PageRequest" "limit" "I" (.int (0 : Int32))) (F_startingAfter_a1 : Fld Z h0 a1 "com/example/acquirer/acquirer/PageRequest" "startingAfter" "Ljava/lang/String;" .null) (F_endingBefore_a1 : Fld Z h0 a1 "com/example/acquirer/acquirer/PageRequest" "endingBefore" "Ljava/lang/String;" .null) (F_descending_a1 : Fld Z h0 a1 "com/example/acquirer/acquirer/PageRequest" "descending" "Z" (.int (0 : Int32))) (g_a1 : n0 ≤ a1) :
    MetFree l own_y4 (head1 (Jvm.Cond.code own_y4 prog_19_method_1_code 5 none :: ws) ({ frames := 2, cells := 0, slots := 0, locals := 24 } : Room)) (fun a U => a = #[(.ref a1), (.int p1), .null, (.ref r1), (.int (0 : Int32))] ∧ Z.Warmed39 U.vm ∧ U.heap = h0) (fun _ _ _ _ _ => True) (fun _ U o U' => ∃ v L, o = .returned v ∧ own_init010_Q Z a1 r1 p1 h0 n0 v U'.heap L ∧ FrameEnd U o U' L ({ frames := 2, cells := 0, slots := 0, locals := 24 } : Room).cells ({ frames := 2, cells := 0, slots := 0, locals := 24 } : Room).slots) := by
  refine MetFree.of_bodySF (plainFor_of_name own_pn_PageRequest) hisR ?_
  intro p e s m args below meth c s₁ Bd hml0 hP hK
  obtain ⟨rfl, hZ, hh⟩ := hP
  have hx := Bd.exec
  have hby := Bd.bytes
  have hml : c.maxLocals = 5 := hml0
  have hown : s.vm.findClass "com/example/acquirer/acquirer/PageRequest" = some m.cls := findClass_of_methodNamed Bd.named
  have hnm := (name_of_methodNamed Bd.named Bd.method).1
  have X0 : Stand p l e ({ frames := 2, cells := 0, slots := 0, locals := 24 } : Room) s m #[(.ref a1), (.int p1), .null, (.ref r1), (.int (0 : Int32))] below meth c s₁ [] 0 0 := Stand.of_body Bd
  have e0 : s₁.heap = h0 := by rw [← hh, Bd.state]; rfl
  show own_E p e below (own_K (own_init010_Q Z a1 r1 p1 h0 n0) s ({ frames := 2, cells := 0, slots := 0, locals := 24 } : Room).cells ({ frames := 2, cells := 0, slots := 0, locals := 24 } : Room).slots) s₁ (entryFrame m #[(.ref a1), (.int p1), .null, (.ref r1), (.int (0 : Int32))] 5)
  refine own_pre (own_init010_ef m a1 r1 p1) ?_
  show own_E p e below _ s₁ (mkF m 0 #[rv a1, iv p1, .val (.null), rv r1, iv 0] [])
  refine own_st (fun t k => XS.aloadN X0.here hx rfl (hb hby own_d_prog_19_method_1_0) rfl rfl k) ?_
  show own_E p e below _ s₁ (mkF m 1 #[rv a1, iv p1, .val (.null), rv r1, iv 0] [.ref a1])
  obtain ⟨_, _, ⟨T1, L1, k1, n1⟩, -, X1, ⟨Lc1, hQ1, l1, y1, z1⟩, st1⟩ := X0.specialBack hx (y := own_y2) rfl hown (mvT hZ (own_w hw 33 rfl)) (mvT hZ (own_w hw 34 rfl)) (mvT hZ (own_w hw 37 rfl)) (by decide) (backOf (W := 0) (own_rec l Z a0 hw [] a1 h0 n0 Z0 ) hZ (own_w hw 37 rfl) (own_w hw 36 rfl) (by decide) (by decide)) (g := (mkF m 1 #[rv a1, iv p1, .val (.null), rv r1, iv 0] [.ref a1])) rfl (by rw [hml]; rfl) (Steps.refl _) (a := a1) (argsL := []) (rest := []) (lenOf own_pd_1 rfl) rfl (by show 2 * 0 + _ ≤ _; exact Nat.le_of_eq rfl) (hb hby own_d_prog_19_method_1_1) (fun _ _ => ⟨rfl, e0, (by decide : 0 + 0 ≤ _), (by decide : 0 + 0 ≤ _)⟩)
  dsimp only [Pt.U, Pt.locs, Pt.cells, Pt.slots] at X1 l1 y1 z1 st1 hQ1
  subst l1 y1 z1
  obtain ⟨hR1, e1, rfl⟩ := hQ1
  have N1 := Fr.app (Fr.nil n0) (Fr.nil n0)
  obtain rfl := hR1
  refine own_tr st1 ?_
  show own_E p e below _ T1 (mkF m 4 #[rv a1, iv p1, .val (.null), rv r1, iv 0] [])
  refine own_st (fun t k => XS.aloadN X1.here hx rfl (hb hby own_d_prog_19_method_1_4) rfl rfl k) ?_
  show own_E p e below _ T1 (mkF m 5 #[rv a1, iv p1, .val (.null), rv r1, iv 0] [.ref a1])
  refine own_st (fun t k => XS.iloadN X1.here hx rfl (hb hby own_d_prog_19_method_1_5) rfl k) ?_
  show own_E p e below _ T1 (mkF m 6 #[rv a1, iv p1, .val (.null), rv r1, iv 0] [.int p1, .ref a1])
  obtain ⟨T2, h2, X2, e2, W2, st2⟩ := putF X1 hx hZ hown (host := "") (Or.inl (own_w hw 39 rfl)) Via.refl e1 F_limit_a1 E_a1 (Or.inr ⟨(own_w hw 40 rfl), rfl, hnm⟩) (own_w hw 28 rfl) (ty := .int) (by decide) rfl rfl (g := (mkF m 6 #[rv a1, iv p1, .val (.null), rv r1, iv 0] [.int p1, .ref a1])) rfl rfl (hb hby own_d_prog_19_method_1_6)
  have N2 := Fr.snoc X2 N1 g_a1
  have Fw2 := F_limit_a1.same W2
  have Z3 := Nat.le_trans Z0 (Keep.of_wr W2).1
  have K4 : Keep h0 _ [a1] := (Keep.refl h0 [a1]).wr W2 (Or.inl (List.mem_of_getElem? (i := 0) rfl))
  refine own_st st2 ?_
  show own_E p e below _ T2 (mkF m 9 #[rv a1, iv p1, .val (.null), rv r1, iv 0] [])
  refine own_st (fun t k => XS.aloadN X2.here hx rfl (hb hby own_d_prog_19_method_1_9) rfl rfl k) ?_
  show own_E p e below _ T2 (mkF m 10 #[rv a1, iv p1, .val (.null), rv r1, iv 0] [.ref a1])
  refine own_st (fun t k => XS.aloadN X2.here hx rfl (hb hby own_d_prog_19_method_1_10) rfl rfl k) ?_
  show own_E p e below _ T2 (mkF m 11 #[rv a1, iv p1, .val (.null), rv r1, iv 0] [.null, .ref a1])
  have B6 := (F_startingAfter_a1.other W2 (Or.inr (slot_ne (Or.inr (own_w hw 42 rfl)) (Or.inr (own_w hw 40 rfl)) (by decide) (t := (.object "java/lang/String")) (t' := .int) (by decide) (by decide))))
  have B7 := (E_a1.wr W2)
  obtain ⟨T5, h5, X5, e5, W5, st5⟩ := putF X2 hx hZ hown (host := "") (Or.inl (own_w hw 41 rfl)) Via.refl e2 B6 B7 (Or.inr ⟨(own_w hw 42 rfl), rfl, hnm⟩) (own_w hw 28 rfl) (ty := (.object "java/lang/String")) (by decide) rfl rfl (g := (mkF m 11 #[rv a1, iv p1, .val (.null), rv r1, iv 0] [.null, .ref a1])) rfl rfl (hb hby own_d_prog_19_method_1_11)
  have N5 := Fr.snoc X5 N2 g_a1
  have Fw5 := B6.same W5
  have Z8 := Nat.le_trans Z3 (Keep.of_wr W5).1
  have K9 : Keep h0 _ [a1] := K4.wr W5 (Or.inl (List.mem_of_getElem? (i := 0) rfl))
  refine own_st st5 ?_
  show own_E p e below _ T5 (mkF m 14 #[rv a1, iv p1, .val (.null), rv r1, iv 0] [])
  refine own_st (fun t k => XS.aloadN X5.here hx rfl (hb hby own_d_prog_19_method_1_14) rfl rfl k) ?_
  show own_E p e below _ T5 (mkF m 15 #[rv a1, iv p1, .val (.null), rv r1, iv 0] [.ref a1])
  refine own_st (fun t k => XS.aloadN X5.here hx rfl (hb hby own_d_prog_19_method_1_15) rfl rfl k) ?_
  show own_E p e below _ T5 (mkF m 16 #[rv a1, iv p1, .val (.null), rv r1, iv 0] [.ref r1, .ref a1])
  have B11 := ((F_endingBefore_a1.other W2 (Or.inr (slot_ne (Or.inr (own_w hw 44 rfl)) (Or.inr (own_w hw 40 rfl)) (by decide) (t := (.object "java/lang/String")) (t' := .int) (by decide) (by decide)))).other W5 (Or.inr (slot_ne (Or.inr (own_w hw 44 rfl)) (Or.inr (own_w hw 42 rfl)) (by decide) (t := (.object "java/lang/String")) (t' := (.object "java/lang/String")) (by decide) (by decide))))
  have B12 := (B7.wr W5)
  obtain ⟨T10, h10, X10, e10, W10, st10⟩ := putF X5 hx hZ hown (host := "") (Or.inl (own_w hw 43 rfl)) Via.refl e5 B11 B12 (Or.inr ⟨(own_w hw 44 rfl), rfl, hnm⟩) (own_w hw 28 rfl) (ty := (.object "java/lang/String")) (by decide) rfl rfl (g := (mkF m 16 #[rv a1, iv p1, .val (.null), rv r1, iv 0] [.ref r1, .ref a1])) rfl rfl (hb hby own_d_prog_19_method_1_16)
  have N10 := Fr.snoc X10 N5 g_a1
  have Fw10 := B11.same W10
  have Z13 := Nat.le_trans Z8 (Keep.of_wr W10).1
  have K14 : Keep h0 _ [a1] := K9.wr W10 (Or.inl (List.mem_of_getElem? (i := 0) rfl))
  refine own_st st10 ?_
  show own_E p e below _ T10 (mkF m 19 #[rv a1, iv p1, .val (.null), rv r1, iv 0] [])
  refine own_st (fun t k => XS.aloadN X10.here hx rfl (hb hby own_d_prog_19_method_1_19) rfl rfl k) ?_
  show own_E p e below _ T10 (mkF m 20 #[rv a1, iv p1, .val (.null), rv r1, iv 0] [.ref a1])
  refine own_st (fun t k => XS.iload X10.here hx rfl (hb hby own_d_prog_19_method_1_20) rfl k) ?_
  show own_E p e below _ T10 (mkF m 22 #[rv a1, iv p1, .val (.null), rv r1, iv 0] [.int 0, .ref a1])
  have B16 := (((F_descending_a1.other W2 (Or.inr (slot_ne (Or.inr (own_w hw 46 rfl)) (Or.inr (own_w hw 40 rfl)) (by decide) (t := .boolean) (t' := .int) (by decide) (by decide)))).other W5 (Or.inr (slot_ne (Or.inr (own_w hw 46 rfl)) (Or.inr (own_w hw 42 rfl)) (by decide) (t := .boolean) (t' := (.object "java/lang/String")) (by decide) (by decide)))).other W10 (Or.inr (slot_ne (Or.inr (own_w hw 46 rfl)) (Or.inr (own_w hw 44 rfl)) (by decide) (t := .boolean) (t' := (.object "java/lang/String")) (by decide) (by decide))))
  have B17 := (B12.wr W10)
  obtain ⟨T15, h15, X15, e15, W15, st15⟩ := putF X10 hx hZ hown (host := "") (Or.inl (own_w hw 45 rfl)) Via.refl e10 B16 B17 (Or.inr ⟨(own_w hw 46 rfl), rfl, hnm⟩) (own_w hw 28 rfl) (ty := .boolean) (by decide) rfl rfl (g := (mkF m 22 #[rv a1, iv p1, .val (.null), rv r1, iv 0] [.int 0, .ref a1])) rfl rfl (hb hby own_d_prog_19_method_1_22)
  have N15 := Fr.snoc X15 N10 g_a1
  have Fw15 := B16.same W15
  have Z18 := Nat.le_trans Z13 (Keep.of_wr W15).1
  have K19 : Keep h0 _ [a1] := K14.wr W15 (Or.inl (List.mem_of_getElem? (i := 0) rfl))
  refine own_st st15 ?_
  show own_E p e below _ T15 (mkF m 25 #[rv a1, iv p1, .val (.null), rv r1, iv 0] [])
  refine own_retV X15 hx Bd.notSynchronized Bd.returns (hb hby own_d_prog_19_method_1_25) (by decide) (by decide) ?_
  have B20 := (B17.wr W15)
  have B21 := ((Fw5.other W10 (Or.inr (slot_ne (Or.inr (own_w hw 42 rfl)) (Or.inr (own_w hw 44 rfl)) (by decide) (t := (.object "java/lang/String")) (t' := (.object "java/lang/String")) (by decide) (by decide)))).other W15 (Or.inr (slot_ne (Or.inr (own_w hw 42 rfl)) (Or.inr (own_w hw 46 rfl)) (by decide) (t := (.object "java/lang/String")) (t' := .boolean) (by decide) (by decide))))
  have B22 := (Fw10.other W15 (Or.inr (slot_ne (Or.inr (own_w hw 44 rfl)) (Or.inr (own_w hw 46 rfl)) (by decide) (t := (.object "java/lang/String")) (t' := .boolean) (by decide) (by decide))))
  show own_init010_Q Z a1 r1 p1 h0 n0 _ T15.heap _
  rw [e15]
  exact ⟨rfl, N15, K19, B20, B21, B22⟩
def own_init011_Q (Z : State) (a1 : Addr) (r1 : Addr) (p1 : Int32) (h0 : Heap) (n0 : Nat) (v : Option Value) (h : Heap) (L : List Loc) : Prop := v = none ∧ Fr n0 L ∧ Keep h0 h [a1] ∧ Exa Z h a1 "com/example/acquirer/acquirer/PageRequest" ∧ Fld Z h a1 "com/example/acquirer/acquirer/PageRequest" "startingAfter" "Ljava/lang/String;" .null ∧ Fld Z h a1 "com/example/acquirer/acquirer/PageRequest" "endingBefore" "Ljava/lang/String;" (.ref r1)
theorem own_init011_ef (m : MethodId) (a1 : Addr) (r1 : Addr) (p1 : Int32) : entryFrame m #[(.ref a1), (.int p1), .null, (.ref r1), (.int (1 : Int32))] 5 = mkF m 0 #[.val (.ref a1), .val (.int p1), .val .null, .val (.ref r1), .val (.int (1 : Int32))] [] := by first | (simp [entryFrame, mkF, argsToLocals, Value.category]; done) | rfl
set_option maxRecDepth 65536 in
set_option maxHeartbeats 40000000 in
theorem own_init011 (l : Launch) (Z : State) (a0 : Array Value) (hw : ∀ d ∈ tables_1, d.before a0 Z = true) (ws : List Jvm.Cond) (a1 : Addr) (r1 : Addr) (p1 : Int32) (h0 : Heap) (n0 : Nat) (Z0 : n0 ≤ h0.size) (E_a1 : Exa Z h0 a1 "com/example/acquirer/acquirer/PageRequest") (F_limit_a1 : Fld Z h0 a1 "com/example/acquirer/acquirer/PageRequest" "limit" "I" (.int (0 : Int32))) (F_startingAfter_a1 : Fld Z h0 a1 "com/example/acquirer/acquirer/PageRequest" "startingAfter" "Ljava/lang/String;" .null) (F_endingBefore_a1 : Fld Z h0 a1 "com/example/acquirer/acquirer/PageRequest" "endingBefore" "Ljava/lang/String;" .null) (F_descending_a1 : Fld Z h0 a1 "com/example/acquirer/acquirer/PageRequest" "descending" "Z" (.int (0 : Int32))) (g_a1 : n0 ≤ a1) :
    MetFree l own_y4 (head1 (Jvm.Cond.code own_y4 prog_19_method_1_code 5 none :: ws) ({ frames := 2, cells := 0, slots := 0, locals := 24 } : Room)) (fun a U => a = #[(.ref a1), (.int p1), .null, (.ref r1), (.int (1 : Int32))] ∧ Z.Warmed39 U.vm ∧ U.heap = h0) (fun _ _ _ _ _ => True) (fun _ U o U' => ∃ v L, o = .returned v ∧ own_init011_Q Z a1 r1 p1 h0 n0 v U'.heap L ∧ FrameEnd U o U' L ({ frames := 2, cells := 0, slots := 0, locals := 24 } : Room).cells ({ frames := 2, cells := 0, slots := 0, locals := 24 } : Room).slots) := by
  refine MetFree.of_bodySF (plainFor_of_name own_pn_PageRequest) hisR ?_
  intro p e s m args below meth c s₁ Bd hml0 hP hK
  obtain ⟨rfl, hZ, hh⟩ := hP
  have hx := Bd.exec
  have hby := Bd.bytes
  have hml : c.maxLocals = 5 := hml0
  have hown : s.vm.findClass "com/example/acquirer/acquirer/PageRequest" = some m.cls := findClass_of_methodNamed Bd.named
  have hnm := (name_of_methodNamed Bd.named Bd.method).1
  have X0 : Stand p l e ({ frames := 2, cells := 0, slots := 0, locals := 24 } : Room) s m #[(.ref a1), (.int p1), .null, (.ref r1), (.int (1 : Int32))] below meth c s₁ [] 0 0 := Stand.of_body Bd
  have e0 : s₁.heap = h0 := by rw [← hh, Bd.state]; rfl
  show own_E p e below (own_K (own_init011_Q Z a1 r1 p1 h0 n0) s ({ frames := 2, cells := 0, slots := 0, locals := 24 } : Room).cells ({ frames := 2, cells := 0, slots := 0, locals := 24 } : Room).slots) s₁ (entryFrame m #[(.ref a1), (.int p1), .null, (.ref r1), (.int (1 : Int32))] 5)
  refine own_pre (own_init011_ef m a1 r1 p1) ?_
  show own_E p e below _ s₁ (mkF m 0 #[rv a1, iv p1, .val (.null), rv r1, iv 1] [])
  refine own_st (fun t k => XS.aloadN X0.here hx rfl (hb hby own_d_prog_19_method_1_0) rfl rfl k) ?_
  show own_E p e below _ s₁ (mkF m 1 #[rv a1, iv p1, .val (.null), rv r1, iv 1] [.ref a1])
  obtain ⟨_, _, ⟨T1, L1, k1, n1⟩, -, X1, ⟨Lc1, hQ1, l1, y1, z1⟩, st1⟩ := X0.specialBack hx (y := own_y2) rfl hown (mvT hZ (own_w hw 33 rfl)) (mvT hZ (own_w hw 34 rfl)) (mvT hZ (own_w hw 37 rfl)) (by decide) (backOf (W := 0) (own_rec l Z a0 hw [] a1 h0 n0 Z0 ) hZ (own_w hw 37 rfl) (own_w hw 36 rfl) (by decide) (by decide)) (g := (mkF m 1 #[rv a1, iv p1, .val (.null), rv r1, iv 1] [.ref a1])) rfl (by rw [hml]; rfl) (Steps.refl _) (a := a1) (argsL := []) (rest := []) (lenOf own_pd_1 rfl) rfl (by show 2 * 0 + _ ≤ _; exact Nat.le_of_eq rfl) (hb hby own_d_prog_19_method_1_1) (fun _ _ => ⟨rfl, e0, (by decide : 0 + 0 ≤ _), (by decide : 0 + 0 ≤ _)⟩)
  dsimp only [Pt.U, Pt.locs, Pt.cells, Pt.slots] at X1 l1 y1 z1 st1 hQ1
  subst l1 y1 z1
  obtain ⟨hR1, e1, rfl⟩ := hQ1
  have N1 := Fr.app (Fr.nil n0) (Fr.nil n0)
  obtain rfl := hR1
  refine own_tr st1 ?_
  show own_E p e below _ T1 (mkF m 4 #[rv a1, iv p1, .val (.null), rv r1, iv 1] [])
  refine own_st (fun t k => XS.aloadN X1.here hx rfl (hb hby own_d_prog_19_method_1_4) rfl rfl k) ?_
  show own_E p e below _ T1 (mkF m 5 #[rv a1, iv p1, .val (.null), rv r1, iv 1] [.ref a1])
  refine own_st (fun t k => XS.iloadN X1.here hx rfl (hb hby own_d_prog_19_method_1_5) rfl k) ?_
  show own_E p e below _ T1 (mkF m 6 #[rv a1, iv p1, .val (.null), rv r1, iv 1] [.int p1, .ref a1])
  obtain ⟨T2, h2, X2, e2, W2, st2⟩ := putF X1 hx hZ hown (host := "") (Or.inl (own_w hw 39 rfl)) Via.refl e1 F_limit_a1 E_a1 (Or.inr ⟨(own_w hw 40 rfl), rfl, hnm⟩) (own_w hw 28 rfl) (ty := .int) (by decide) rfl rfl (g := (mkF m 6 #[rv a1, iv p1, .val (.null), rv r1, iv 1] [.int p1, .ref a1])) rfl rfl (hb hby own_d_prog_19_method_1_6)
  have N2 := Fr.snoc X2 N1 g_a1
  have Fw2 := F_limit_a1.same W2
  have Z3 := Nat.le_trans Z0 (Keep.of_wr W2).1
  have K4 : Keep h0 _ [a1] := (Keep.refl h0 [a1]).wr W2 (Or.inl (List.mem_of_getElem? (i := 0) rfl))
  refine own_st st2 ?_
  show own_E p e below _ T2 (mkF m 9 #[rv a1, iv p1, .val (.null), rv r1, iv 1] [])
  refine own_st (fun t k => XS.aloadN X2.here hx rfl (hb hby own_d_prog_19_method_1_9) rfl rfl k) ?_
  show own_E p e below _ T2 (mkF m 10 #[rv a1, iv p1, .val (.null), rv r1, iv 1] [.ref a1])
  refine own_st (fun t k => XS.aloadN X2.here hx rfl (hb hby own_d_prog_19_method_1_10) rfl rfl k) ?_
  show own_E p e below _ T2 (mkF m 11 #[rv a1, iv p1, .val (.null), rv r1, iv 1] [.null, .ref a1])
  have B6 := (F_startingAfter_a1.other W2 (Or.inr (slot_ne (Or.inr (own_w hw 42 rfl)) (Or.inr (own_w hw 40 rfl)) (by decide) (t := (.object "java/lang/String")) (t' := .int) (by decide) (by decide))))
  have B7 := (E_a1.wr W2)
  obtain ⟨T5, h5, X5, e5, W5, st5⟩ := putF X2 hx hZ hown (host := "") (Or.inl (own_w hw 41 rfl)) Via.refl e2 B6 B7 (Or.inr ⟨(own_w hw 42 rfl), rfl, hnm⟩) (own_w hw 28 rfl) (ty := (.object "java/lang/String")) (by decide) rfl rfl (g := (mkF m 11 #[rv a1, iv p1, .val (.null), rv r1, iv 1] [.null, .ref a1])) rfl rfl (hb hby own_d_prog_19_method_1_11)
  have N5 := Fr.snoc X5 N2 g_a1
  have Fw5 := B6.same W5
  have Z8 := Nat.le_trans Z3 (Keep.of_wr W5).1
  have K9 : Keep h0 _ [a1] := K4.wr W5 (Or.inl (List.mem_of_getElem? (i := 0) rfl))
  refine own_st st5 ?_
  show own_E p e below _ T5 (mkF m 14 #[rv a1, iv p1, .val (.null), rv r1, iv 1] [])
  refine own_st (fun t k => XS.aloadN X5.here hx rfl (hb hby own_d_prog_19_method_1_14) rfl rfl k) ?_
  show own_E p e below _ T5 (mkF m 15 #[rv a1, iv p1, .val (.null), rv r1, iv 1] [.ref a1])
  refine own_st (fun t k => XS.aloadN X5.here hx rfl (hb hby own_d_prog_19_method_1_15) rfl rfl k) ?_
  show own_E p e below _ T5 (mkF m 16 #[rv a1, iv p1, .val (.null), rv r1, iv 1] [.ref r1, .ref a1])
  have B11 := ((F_endingBefore_a1.other W2 (Or.inr (slot_ne (Or.inr (own_w hw 44 rfl)) (Or.inr (own_w hw 40 rfl)) (by decide) (t := (.object "java/lang/String")) (t' := .int) (by decide) (by decide)))).other W5 (Or.inr (slot_ne (Or.inr (own_w hw 44 rfl)) (Or.inr (own_w hw 42 rfl)) (by decide) (t := (.object "java/lang/String")) (t' := (.object "java/lang/String")) (by decide) (by decide))))
  have B12 := (B7.wr W5)
  obtain ⟨T10, h10, X10, e10, W10, st10⟩ := putF X5 hx hZ hown (host := "") (Or.inl (own_w hw 43 rfl)) Via.refl e5 B11 B12 (Or.inr ⟨(own_w hw 44 rfl), rfl, hnm⟩) (own_w hw 28 rfl) (ty := (.object "java/lang/String")) (by decide) rfl rfl (g := (mkF m 16 #[rv a1, iv p1, .val (.null), rv r1, iv 1] [.ref r1, .ref a1])) rfl rfl (hb hby own_d_prog_19_method_1_16)
  have N10 := Fr.snoc X10 N5 g_a1
  have Fw10 := B11.same W10
  have Z13 := Nat.le_trans Z8 (Keep.of_wr W10).1
  have K14 : Keep h0 _ [a1] := K9.wr W10 (Or.inl (List.mem_of_getElem? (i := 0) rfl))
  refine own_st st10 ?_
  show own_E p e below _ T10 (mkF m 19 #[rv a1, iv p1, .val (.null), rv r1, iv 1] [])
  refine own_st (fun t k => XS.aloadN X10.here hx rfl (hb hby own_d_prog_19_method_1_19) rfl rfl k) ?_
  show own_E p e below _ T10 (mkF m 20 #[rv a1, iv p1, .val (.null), rv r1, iv 1] [.ref a1])
  refine own_st (fun t k => XS.iload X10.here hx rfl (hb hby own_d_prog_19_method_1_20) rfl k) ?_
  show own_E p e below _ T10 (mkF m 22 #[rv a1, iv p1, .val (.null), rv r1, iv 1] [.int 1, .ref a1])
  have B16 := (((F_descending_a1.other W2 (Or.inr (slot_ne (Or.inr (own_w hw 46 rfl)) (Or.inr (own_w hw 40 rfl)) (by decide) (t := .boolean) (t' := .int) (by decide) (by decide)))).other W5 (Or.inr (slot_ne (Or.inr (own_w hw 46 rfl)) (Or.inr (own_w hw 42 rfl)) (by decide) (t := .boolean) (t' := (.object "java/lang/String")) (by decide) (by decide)))).other W10 (Or.inr (slot_ne (Or.inr (own_w hw 46 rfl)) (Or.inr (own_w hw 44 rfl)) (by decide) (t := .boolean) (t' := (.object "java/lang/String")) (by decide) (by decide))))
  have B17 := (B12.wr W10)
  obtain ⟨T15, h15, X15, e15, W15, st15⟩ := putF X10 hx hZ hown (host := "") (Or.inl (own_w hw 45 rfl)) Via.refl e10 B16 B17 (Or.inr ⟨(own_w hw 46 rfl), rfl, hnm⟩) (own_w hw 28 rfl) (ty := .boolean) (by decide) rfl rfl (g := (mkF m 22 #[rv a1, iv p1, .val (.null), rv r1, iv 1] [.int 1, .ref a1])) rfl rfl (hb hby own_d_prog_19_method_1_22)
  have N15 := Fr.snoc X15 N10 g_a1
  have Fw15 := B16.same W15
  have Z18 := Nat.le_trans Z13 (Keep.of_wr W15).1
  have K19 : Keep h0 _ [a1] := K14.wr W15 (Or.inl (List.mem_of_getElem? (i := 0) rfl))
  refine own_st st15 ?_
  show own_E p e below _ T15 (mkF m 25 #[rv a1, iv p1, .val (.null), rv r1, iv 1] [])
  refine own_retV X15 hx Bd.notSynchronized Bd.returns (hb hby own_d_prog_19_method_1_25) (by decide) (by decide) ?_
  have B20 := (B17.wr W15)
  have B21 := ((Fw5.other W10 (Or.inr (slot_ne (Or.inr (own_w hw 42 rfl)) (Or.inr (own_w hw 44 rfl)) (by decide) (t := (.object "java/lang/String")) (t' := (.object "java/lang/String")) (by decide) (by decide)))).other W15 (Or.inr (slot_ne (Or.inr (own_w hw 42 rfl)) (Or.inr (own_w hw 46 rfl)) (by decide) (t := (.object "java/lang/String")) (t' := .boolean) (by decide) (by decide))))
  have B22 := (Fw10.other W15 (Or.inr (slot_ne (Or.inr (own_w hw 44 rfl)) (Or.inr (own_w hw 46 rfl)) (by decide) (t := (.object "java/lang/String")) (t' := .boolean) (by decide) (by decide))))
  show own_init011_Q Z a1 r1 p1 h0 n0 _ T15.heap _
  rw [e15]
  exact ⟨rfl, N15, K19, B20, B21, B22⟩
def own_cur01_Q (a1 : Addr) (r1 : Addr) (h0 : Heap) (v : Option Value) (h : Heap) (L : List Loc) : Prop := ((v = some (.ref r1))) ∧ h = h0 ∧ L = []
theorem own_cur01_ef (m : MethodId) (a1 : Addr) (r1 : Addr) : entryFrame m #[(.ref a1)] 1 = mkF m 0 #[.val (.ref a1)] [] := by first | (simp [entryFrame, mkF, argsToLocals, Value.category]; done) | rfl
set_option maxRecDepth 65536 in
set_option maxHeartbeats 40000000 in
theorem own_cur01 (l : Launch) (Z : State) (a0 : Array Value) (hw : ∀ d ∈ tables_1, d.before a0 Z = true) (ws : List Jvm.Cond) (a1 : Addr) (r1 : Addr) (h0 : Heap) (n0 : Nat) (Z0 : n0 ≤ h0.size) (F_startingAfter_a1 : Fld Z h0 a1 "com/example/acquirer/acquirer/PageRequest" "startingAfter" "Ljava/lang/String;" .null) (F_endingBefore_a1 : Fld Z h0 a1 "com/example/acquirer/acquirer/PageRequest" "endingBefore" "Ljava/lang/String;" (.ref r1)) :
    MetFree l own_y5 (head1 (Jvm.Cond.code own_y5 prog_19_method_2_code 1 (some (.object "java/lang/String")) :: ws) ({ frames := 0, cells := 0, slots := 0, locals := 0 } : Room)) (fun a U => a = #[(.ref a1)] ∧ Z.Warmed39 U.vm ∧ U.heap = h0) (fun _ _ _ _ _ => True) (fun _ U o U' => ∃ v L, o = .returned v ∧ own_cur01_Q a1 r1 h0 v U'.heap L ∧ FrameEnd U o U' L ({ frames := 0, cells := 0, slots := 0, locals := 0 } : Room).cells ({ frames := 0, cells := 0, slots := 0, locals := 0 } : Room).slots) := by
  refine MetFree.of_bodySF (plainFor_of_name own_pn_PageRequest) hisR ?_
  intro p e s m args below meth c s₁ Bd hml0 hP hK
  obtain ⟨rfl, hZ, hh⟩ := hP
  have hx := Bd.exec
  have hby := Bd.bytes
  have hml : c.maxLocals = 1 := hml0
  have hown : s.vm.findClass "com/example/acquirer/acquirer/PageRequest" = some m.cls := findClass_of_methodNamed Bd.named
  have hnm := (name_of_methodNamed Bd.named Bd.method).1
  have X0 : Stand p l e ({ frames := 0, cells := 0, slots := 0, locals := 0 } : Room) s m #[(.ref a1)] below meth c s₁ [] 0 0 := Stand.of_body Bd
  have e0 : s₁.heap = h0 := by rw [← hh, Bd.state]; rfl
  show own_E p e below (own_K (own_cur01_Q a1 r1 h0) s ({ frames := 0, cells := 0, slots := 0, locals := 0 } : Room).cells ({ frames := 0, cells := 0, slots := 0, locals := 0 } : Room).slots) s₁ (entryFrame m #[(.ref a1)] 1)
  refine own_pre (own_cur01_ef m a1 r1) ?_
  show own_E p e below _ s₁ (mkF m 0 #[rv a1] [])
  refine own_st (fun t k => XS.aloadN X0.here hx rfl (hb hby own_d_prog_19_method_2_0) rfl rfl k) ?_
  show own_E p e below _ s₁ (mkF m 1 #[rv a1] [.ref a1])
  obtain ⟨T1, X1, e1, st1⟩ := getF X0 hx hZ hown (host := "") (Or.inl (own_w hw 41 rfl)) Via.refl e0 F_startingAfter_a1 (g := (mkF m 1 #[rv a1] [.ref a1])) rfl rfl (hb hby own_d_prog_19_method_2_1)
  refine own_st st1 ?_
  show own_E p e below _ T1 (mkF m 4 #[rv a1] [.null])
  refine own_st (fun t k => XS.ifnullYes X1.here hx rfl (pc0 := 4) (pc' := 14) rfl (hb hby own_d_prog_19_method_2_4) rfl (by decide) (by decide) k) ?_
  show own_E p e below _ T1 (mkF m 14 #[rv a1] [])
  refine own_st (fun t k => XS.aloadN X1.here hx rfl (hb hby own_d_prog_19_method_2_14) rfl rfl k) ?_
  show own_E p e below _ T1 (mkF m 15 #[rv a1] [.ref a1])
  obtain ⟨T2, X2, e2, st2⟩ := getF X1 hx hZ hown (host := "") (Or.inl (own_w hw 43 rfl)) Via.refl e1 F_endingBefore_a1 (g := (mkF m 15 #[rv a1] [.ref a1])) rfl rfl (hb hby own_d_prog_19_method_2_15)
  refine own_st st2 ?_
  show own_E p e below _ T2 (mkF m 18 #[rv a1] [.ref r1])
  refine own_retA X2 hx Bd.notSynchronized Bd.returns rfl rfl (hb hby own_d_prog_19_method_2_18) (by decide) (by decide) ?_
  exact ⟨rfl, e2, rfl⟩
theorem own_mod3 (x : Int32) : ((x &&& (2147483647 : Int32)) % (3 : Int32)) = (0 : Int32) ∨ ((x &&& (2147483647 : Int32)) % (3 : Int32)) = (1 : Int32) ∨ ((x &&& (2147483647 : Int32)) % (3 : Int32)) = (2 : Int32) := by
  have h1 : (x &&& (2147483647 : Int32)).toInt = x.toInt % 2147483648 := c_mask x 2147483647 31 (by decide) (by decide)
  have h2 := c_irem (x &&& (2147483647 : Int32)) (3 : Int32) 3 rfl
  simp only [← Int32.toInt_inj]
  have k0 : (0 : Int32).toInt = 0 := rfl
  have k1 : (1 : Int32).toInt = 1 := rfl
  have k2 : (2 : Int32).toInt = 2 := rfl
  omega
theorem own_len3 (x : Int32) : (((x.toUInt32 >>> ((1 : Int32) &&& 31).toUInt32).toInt32) % (3 : Int32)) = (0 : Int32) ∨ (((x.toUInt32 >>> ((1 : Int32) &&& 31).toUInt32).toInt32) % (3 : Int32)) = (1 : Int32) ∨ (((x.toUInt32 >>> ((1 : Int32) &&& 31).toUInt32).toInt32) % (3 : Int32)) = (2 : Int32) := by
  have h1 : ((x.toUInt32 >>> ((1 : Int32) &&& 31).toUInt32).toInt32).toInt = (x.toInt % 4294967296) / 2 := c_iushr x 1 1 (by decide) (by decide)
  have h2 := c_irem ((x.toUInt32 >>> ((1 : Int32) &&& 31).toUInt32).toInt32) (3 : Int32) 3 rfl
  simp only [← Int32.toInt_inj]
  have k0 : (0 : Int32).toInt = 0 := rfl
  have k1 : (1 : Int32).toInt = 1 := rfl
  have k2 : (2 : Int32).toInt = 2 := rfl
  omega
theorem own_pd_2 : parseMethodDescriptor "(III)Ljava/lang/String;" = some ⟨[.int, .int, .int], some (.object "java/lang/String")⟩ := by decide +kernel
theorem own_pd_4 : parseMethodDescriptor "(ILjava/lang/String;Ljava/lang/String;Z)V" = some ⟨[.int, (.object "java/lang/String"), (.object "java/lang/String"), .boolean], none⟩ := by decide +kernel
theorem own_pd_0 : parseMethodDescriptor "()Ljava/lang/String;" = some ⟨[], some (.object "java/lang/String")⟩ := by decide +kernel
def own_law_Q (n0 : Nat) (v : Option Value) (h : Heap) (L : List Loc) : Prop := v = some (.int 1) ∧ Fr n0 L
theorem own_law_ef (m : MethodId) (zc : Int32) (p1 : Int32) (p2 : Int32) (p3 : Int32) (p4 : Int32) (p5 : Int32) : entryFrame m #[(.int p1), (.int p2), (.int p3), (.int p4), (.int p5)] maxLocals = mkF m 0 #[.val (.int p1), .val (.int p2), .val (.int p3), .val (.int p4), .val (.int p5), .unset, .unset, .unset, .unset, .unset, .unset, .unset, .unset] [] := by first | (simp [entryFrame, mkF, argsToLocals, Value.category, maxLocals]; done) | rfl
set_option maxRecDepth 65536 in
set_option maxHeartbeats 40000000 in
theorem own_law (l : Launch) (Z : State) (a0 : Array Value) (hw : ∀ d ∈ tables_1, d.before a0 Z = true) (ws : List Jvm.Cond) (zc : Int32) (p1 : Int32) (p2 : Int32) (p3 : Int32) (p4 : Int32) (p5 : Int32) (h0 : Heap) (n0 : Nat) (Z0 : n0 ≤ h0.size) (hO : Ext Z.heap h0) (hheld : Jvm.Lit.constHeld Z "java/lang/String" 7) (hcw : Jvm.Lit.compactW.before a0 Z = true) (SC : Sta Z h0 "java/lang/String" "COMPACT_STRINGS" "Z" (.int zc)) (hzc : ¬ zc = 0) :
    MetFree l x (head1 (Jvm.Cond.code x code maxLocals ret :: ws) room_1) (fun a U => a = #[(.int p1), (.int p2), (.int p3), (.int p4), (.int p5)] ∧ Z.Warmed39 U.vm ∧ IB Z U.vm [] ∧ U.heap = h0) (fun _ _ _ _ _ => True) (fun _ U o U' => ∃ v L, o = .returned v ∧ own_law_Q n0 v U'.heap L ∧ ReturnedEndW U o U' L room_1.cells room_1.slots) := by
  refine MetFree.of_bodySF (plainFor_of_name own_pn_PageRequestCursorPinLaw) hisR ?_
  intro p e s m args below meth c s₁ Bd hml0 hP hK
  obtain ⟨rfl, hZ, hI, hh⟩ := hP
  have hx := Bd.exec
  have hby := Bd.bytes
  have hml : c.maxLocals = 13 := hml0
  have hown : s.vm.findClass "com/example/acquirer/acquirer/PageRequestCursorPinLaw" = some m.cls := findClass_of_methodNamed Bd.named
  have hnm := (name_of_methodNamed Bd.named Bd.method).1
  have X0 : Stand p l e room_1 s m #[(.int p1), (.int p2), (.int p3), (.int p4), (.int p5)] below meth c s₁ [] 0 0 := Stand.of_body Bd
  have e0 : s₁.heap = h0 := by rw [← hh, Bd.state]; rfl
  show own_E p e below (own_KW (own_law_Q n0) s room_1.cells room_1.slots) s₁ (entryFrame m #[(.int p1), (.int p2), (.int p3), (.int p4), (.int p5)] maxLocals)
  refine own_pre (own_law_ef m zc p1 p2 p3 p4 p5) ?_
  show own_E p e below _ s₁ (mkF m 0 #[iv p1, iv p2, iv p3, iv p4, iv p5, .unset, .unset, .unset, .unset, .unset, .unset, .unset, .unset] [])
  refine own_st (fun t k => XS.iloadN X0.here hx rfl (hb hby at_0) rfl k) ?_
  show own_E p e below _ s₁ (mkF m 1 #[iv p1, iv p2, iv p3, iv p4, iv p5, .unset, .unset, .unset, .unset, .unset, .unset, .unset, .unset] [.int p1])
  refine own_st (X0.ldcInt hx hown (mvT hZ (own_w hw 0 rfl)) (g := (mkF m 1 #[iv p1, iv p2, iv p3, iv p4, iv p5, .unset, .unset, .unset, .unset, .unset, .unset, .unset, .unset] [.int p1])) rfl (hb hby at_1)) ?_
  show own_E p e below _ s₁ (mkF m 3 #[iv p1, iv p2, iv p3, iv p4, iv p5, .unset, .unset, .unset, .unset, .unset, .unset, .unset, .unset] [.int 2147483647, .int p1])
  refine own_st (fun t k => XS.iand X0.here hx rfl (hb hby at_3) rfl k) ?_
  show own_E p e below _ s₁ (mkF m 4 #[iv p1, iv p2, iv p3, iv p4, iv p5, .unset, .unset, .unset, .unset, .unset, .unset, .unset, .unset] [.int (p1 &&& (2147483647 : Int32))])
  refine own_st (fun t k => XS.iconst X0.here hx rfl (hb hby at_4) k) ?_
  show own_E p e below _ s₁ (mkF m 5 #[iv p1, iv p2, iv p3, iv p4, iv p5, .unset, .unset, .unset, .unset, .unset, .unset, .unset, .unset] [.int 3, .int (p1 &&& (2147483647 : Int32))])
  refine own_st (fun t k => iremM X0 hx rfl (hb hby at_5) rfl (by decide) k) ?_
  show own_E p e below _ s₁ (mkF m 6 #[iv p1, iv p2, iv p3, iv p4, iv p5, .unset, .unset, .unset, .unset, .unset, .unset, .unset, .unset] [.int ((p1 &&& (2147483647 : Int32)) % (3 : Int32))])
  refine own_st (fun t k => XS.istore X0.here hx rfl (hb hby at_6) rfl (l' := #[iv p1, iv p2, iv p3, iv p4, iv p5, iv ((p1 &&& (2147483647 : Int32)) % (3 : Int32)), .unset, .unset, .unset, .unset, .unset, .unset, .unset]) rfl k) ?_
  show own_E p e below _ s₁ (mkF m 8 #[iv p1, iv p2, iv p3, iv p4, iv p5, iv ((p1 &&& (2147483647 : Int32)) % (3 : Int32)), .unset, .unset, .unset, .unset, .unset, .unset, .unset] [])
  rcases own_mod3 p1 with hs1 | hs1 | hs1
  · rw [hs1]
    show own_E p e below _ s₁ (mkF m 8 #[iv p1, iv p2, iv p3, iv p4, iv p5, iv 0, .unset, .unset, .unset, .unset, .unset, .unset, .unset] [])
    refine own_st (fun t k => XS.iload X0.here hx rfl (hb hby at_8) rfl k) ?_
    show own_E p e below _ s₁ (mkF m 10 #[iv p1, iv p2, iv p3, iv p4, iv p5, iv 0, .unset, .unset, .unset, .unset, .unset, .unset, .unset] [.int p5])
    refine own_st (fun t k => XS.iconst X0.here hx rfl (hb hby at_10) k) ?_
    show own_E p e below _ s₁ (mkF m 11 #[iv p1, iv p2, iv p3, iv p4, iv p5, iv 0, .unset, .unset, .unset, .unset, .unset, .unset, .unset] [.int 1, .int p5])
    refine own_st (fun t k => XS.iand X0.here hx rfl (hb hby at_11) rfl k) ?_
    show own_E p e below _ s₁ (mkF m 12 #[iv p1, iv p2, iv p3, iv p4, iv p5, iv 0, .unset, .unset, .unset, .unset, .unset, .unset, .unset] [.int (p5 &&& (1 : Int32))])
    by_cases hc2 : (p5 &&& (1 : Int32)) = (0 : Int32)
    · refine own_st (fun t k => XS.ifYes X0.here hx rfl (pc0 := 12) (pc' := 19) rfl (hb hby at_12) rfl ((if0 _ _).trans (teq hc2).1) (by decide) (by decide) k) ?_
      show own_E p e below _ s₁ (mkF m 19 #[iv p1, iv p2, iv p3, iv p4, iv p5, iv 0, .unset, .unset, .unset, .unset, .unset, .unset, .unset] [])
      refine own_st (fun t k => XS.iconst X0.here hx rfl (hb hby at_19) k) ?_
      show own_E p e below _ s₁ (mkF m 20 #[iv p1, iv p2, iv p3, iv p4, iv p5, iv 0, .unset, .unset, .unset, .unset, .unset, .unset, .unset] [.int 0])
      refine own_st (fun t k => XS.istore X0.here hx rfl (hb hby at_20) rfl (l' := #[iv p1, iv p2, iv p3, iv p4, iv p5, iv 0, iv 0, .unset, .unset, .unset, .unset, .unset, .unset]) rfl k) ?_
      show own_E p e below _ s₁ (mkF m 22 #[iv p1, iv p2, iv p3, iv p4, iv p5, iv 0, iv 0, .unset, .unset, .unset, .unset, .unset, .unset] [])
      refine own_st (fun t k => XS.iload X0.here hx rfl (hb hby at_22) rfl k) ?_
      show own_E p e below _ s₁ (mkF m 24 #[iv p1, iv p2, iv p3, iv p4, iv p5, iv 0, iv 0, .unset, .unset, .unset, .unset, .unset, .unset] [.int p5])
      refine own_st (fun t k => XS.iconst X0.here hx rfl (hb hby at_24) k) ?_
      show own_E p e below _ s₁ (mkF m 25 #[iv p1, iv p2, iv p3, iv p4, iv p5, iv 0, iv 0, .unset, .unset, .unset, .unset, .unset, .unset] [.int 1, .int p5])
      refine own_st (fun t k => XS.iushr X0.here hx rfl (hb hby at_25) rfl k) ?_
      show own_E p e below _ s₁ (mkF m 26 #[iv p1, iv p2, iv p3, iv p4, iv p5, iv 0, iv 0, .unset, .unset, .unset, .unset, .unset, .unset] [.int ((p5.toUInt32 >>> ((1 : Int32) &&& 31).toUInt32).toInt32)])
      refine own_st (fun t k => XS.iconst X0.here hx rfl (hb hby at_26) k) ?_
      show own_E p e below _ s₁ (mkF m 27 #[iv p1, iv p2, iv p3, iv p4, iv p5, iv 0, iv 0, .unset, .unset, .unset, .unset, .unset, .unset] [.int 3, .int ((p5.toUInt32 >>> ((1 : Int32) &&& 31).toUInt32).toInt32)])
      refine own_st (fun t k => iremM X0 hx rfl (hb hby at_27) rfl (by decide) k) ?_
      show own_E p e below _ s₁ (mkF m 28 #[iv p1, iv p2, iv p3, iv p4, iv p5, iv 0, iv 0, .unset, .unset, .unset, .unset, .unset, .unset] [.int (((p5.toUInt32 >>> ((1 : Int32) &&& 31).toUInt32).toInt32) % (3 : Int32))])
      refine own_st (fun t k => XS.istore X0.here hx rfl (hb hby at_28) rfl (l' := #[iv p1, iv p2, iv p3, iv p4, iv p5, iv 0, iv 0, iv (((p5.toUInt32 >>> ((1 : Int32) &&& 31).toUInt32).toInt32) % (3 : Int32)), .unset, .unset, .unset, .unset, .unset]) rfl k) ?_
      show own_E p e below _ s₁ (mkF m 30 #[iv p1, iv p2, iv p3, iv p4, iv p5, iv 0, iv 0, iv (((p5.toUInt32 >>> ((1 : Int32) &&& 31).toUInt32).toInt32) % (3 : Int32)), .unset, .unset, .unset, .unset, .unset] [])
      rcases own_len3 p5 with hs3 | hs3 | hs3
      · rw [hs3]
        show own_E p e below _ s₁ (mkF m 30 #[iv p1, iv p2, iv p3, iv p4, iv p5, iv 0, iv 0, iv 0, .unset, .unset, .unset, .unset, .unset] [])
        refine own_st (fun t k => XS.iload X0.here hx rfl (hb hby at_30) rfl k) ?_
        show own_E p e below _ s₁ (mkF m 32 #[iv p1, iv p2, iv p3, iv p4, iv p5, iv 0, iv 0, iv 0, .unset, .unset, .unset, .unset, .unset] [.int 0])
        refine own_st (fun t k => XS.iloadN X0.here hx rfl (hb hby at_32) rfl k) ?_
        show own_E p e below _ s₁ (mkF m 33 #[iv p1, iv p2, iv p3, iv p4, iv p5, iv 0, iv 0, iv 0, .unset, .unset, .unset, .unset, .unset] [.int p3, .int 0])
        refine own_st (fun t k => XS.iloadN X0.here hx rfl (hb hby at_33) rfl k) ?_
        show own_E p e below _ s₁ (mkF m 34 #[iv p1, iv p2, iv p3, iv p4, iv p5, iv 0, iv 0, iv 0, .unset, .unset, .unset, .unset, .unset] [.int p4, .int p3, .int 0])
        obtain ⟨_, _, ⟨T4, L4, k4, n4⟩, -, X4, hS4, hgr4, ⟨Lc4, hQ4, l4, y4, z4⟩, st4⟩ := callSS X0 hx (y := own_y3) hown (mvT hZ (own_w hw 1 rfl)) (mvT hZ (own_w hw 2 rfl)) (mvT hZ (own_w hw 3 rfl)) (mvT hZ (own_w hw 4 rfl)) (by decide) (own_backI (W := 0) (own_drawn0 l Z a0 hw [] p3 p4 h0 n0 Z0 hO hheld hcw) hZ hI (own_w hw 4 rfl) (own_w hw 3 rfl) (by decide) (by decide)) (g := (mkF m 34 #[iv p1, iv p2, iv p3, iv p4, iv p5, iv 0, iv 0, iv 0, .unset, .unset, .unset, .unset, .unset] [.int p4, .int p3, .int 0])) rfl (by rw [hml]; rfl) (argsL := [(.int (0 : Int32)), (.int p3), (.int p4)]) (rest := []) (lenOf own_pd_2 rfl) rfl (by show 2 * 0 + _ ≤ _; exact Nat.le_of_eq rfl) (hb hby at_34) (fun _ _ => ⟨rfl, e0, (by decide : 0 + 4 ≤ _), (by decide : 0 + 8 ≤ _)⟩)
        dsimp only [Pt.U, Pt.locs, Pt.cells, Pt.slots] at X4 l4 y4 z4 st4 hQ4 hS4 hgr4
        subst l4 y4 z4
        have hZ4 := own_Zw hZ hS4
        have ho4 := own_ow hown hS4
        have hk4 := Nat.le_refl T4.heap.size
        obtain ⟨b4_o0, rfl, Nq4, Kq4, sz4_0, P4_0⟩ := hQ4
        have N4 := Fr.app (Fr.nil n0) Nq4
        have g_b4_o0 : n0 ≤ b4_o0 := Nat.le_trans Z0 sz4_0
        have sz_b4_o0 : h0.size ≤ b4_o0 := Nat.le_trans (Keep.refl h0 []).1 sz4_0
        have e4 : T4.heap = T4.heap := rfl
        have Z5 := Nat.le_trans Z0 Kq4.1
        have K6 : Keep h0 _ [] := (Keep.refl h0 []).trans Kq4 all0
        refine own_tr st4 ?_
        show own_E p e below _ T4 (mkF m 37 #[iv p1, iv p2, iv p3, iv p4, iv p5, iv 0, iv 0, iv 0, .unset, .unset, .unset, .unset, .unset] [.ref b4_o0])
        refine own_st (fun t k => XS.astore X4.here hx rfl (hb hby at_37) rfl rfl (l' := #[iv p1, iv p2, iv p3, iv p4, iv p5, iv 0, iv 0, iv 0, rv b4_o0, .unset, .unset, .unset, .unset]) rfl k) ?_
        show own_E p e below _ T4 (mkF m 39 #[iv p1, iv p2, iv p3, iv p4, iv p5, iv 0, iv 0, iv 0, rv b4_o0, .unset, .unset, .unset, .unset] [])
        refine own_st (fun t k => XS.iload X4.here hx rfl (hb hby at_39) rfl k) ?_
        show own_E p e below _ T4 (mkF m 41 #[iv p1, iv p2, iv p3, iv p4, iv p5, iv 0, iv 0, iv 0, rv b4_o0, .unset, .unset, .unset, .unset] [.int 0])
        refine own_st (fun t k => XS.iconst X4.here hx rfl (hb hby at_41) k) ?_
        show own_E p e below _ T4 (mkF m 42 #[iv p1, iv p2, iv p3, iv p4, iv p5, iv 0, iv 0, iv 0, rv b4_o0, .unset, .unset, .unset, .unset] [.int 1, .int 0])
        refine own_st (fun t k => XS.icmpYes X4.here hx rfl (pc0 := 42) (pc' := 50) rfl (hb hby at_42) rfl (by decide) (by decide) (by decide) k) ?_
        show own_E p e below _ T4 (mkF m 50 #[iv p1, iv p2, iv p3, iv p4, iv p5, iv 0, iv 0, iv 0, rv b4_o0, .unset, .unset, .unset, .unset] [])
        refine own_st (fun t k => XS.aconstNull X4.here hx rfl (hb hby at_50) k) ?_
        show own_E p e below _ T4 (mkF m 51 #[iv p1, iv p2, iv p3, iv p4, iv p5, iv 0, iv 0, iv 0, rv b4_o0, .unset, .unset, .unset, .unset] [.null])
        refine own_st (fun t k => XS.astore X4.here hx rfl (hb hby at_51) rfl rfl (l' := #[iv p1, iv p2, iv p3, iv p4, iv p5, iv 0, iv 0, iv 0, rv b4_o0, .val (.null), .unset, .unset, .unset]) rfl k) ?_
        show own_E p e below _ T4 (mkF m 53 #[iv p1, iv p2, iv p3, iv p4, iv p5, iv 0, iv 0, iv 0, rv b4_o0, .val (.null), .unset, .unset, .unset] [])
        refine own_st (fun t k => XS.iload X4.here hx rfl (hb hby at_53) rfl k) ?_
        show own_E p e below _ T4 (mkF m 55 #[iv p1, iv p2, iv p3, iv p4, iv p5, iv 0, iv 0, iv 0, rv b4_o0, .val (.null), .unset, .unset, .unset] [.int 0])
        refine own_st (fun t k => XS.iconst X4.here hx rfl (hb hby at_55) k) ?_
        show own_E p e below _ T4 (mkF m 56 #[iv p1, iv p2, iv p3, iv p4, iv p5, iv 0, iv 0, iv 0, rv b4_o0, .val (.null), .unset, .unset, .unset] [.int 2, .int 0])
        refine own_st (fun t k => XS.icmpYes X4.here hx rfl (pc0 := 56) (pc' := 64) rfl (hb hby at_56) rfl (by decide) (by decide) (by decide) k) ?_
        show own_E p e below _ T4 (mkF m 64 #[iv p1, iv p2, iv p3, iv p4, iv p5, iv 0, iv 0, iv 0, rv b4_o0, .val (.null), .unset, .unset, .unset] [])
        refine own_st (fun t k => XS.aconstNull X4.here hx rfl (hb hby at_64) k) ?_
        show own_E p e below _ T4 (mkF m 65 #[iv p1, iv p2, iv p3, iv p4, iv p5, iv 0, iv 0, iv 0, rv b4_o0, .val (.null), .unset, .unset, .unset] [.null])
        refine own_st (fun t k => XS.astore X4.here hx rfl (hb hby at_65) rfl rfl (l' := #[iv p1, iv p2, iv p3, iv p4, iv p5, iv 0, iv 0, iv 0, rv b4_o0, .val (.null), .val (.null), .unset, .unset]) rfl k) ?_
        show own_E p e below _ T4 (mkF m 67 #[iv p1, iv p2, iv p3, iv p4, iv p5, iv 0, iv 0, iv 0, rv b4_o0, .val (.null), .val (.null), .unset, .unset] [])
        obtain ⟨T7, h7, X7, e7, E7, A7, D7, -, st7⟩ := newO X4 hx hZ4 ho4 (own_w hw 27 rfl) (own_w hw 28 rfl) (own_w hw 29 rfl) e4 (g := (mkF m 67 #[iv p1, iv p2, iv p3, iv p4, iv p5, iv 0, iv 0, iv 0, rv b4_o0, .val (.null), .val (.null), .unset, .unset] [])) rfl (hb hby at_67) (by decide) (by decide)
        obtain ⟨b7, g7⟩ : ∃ z, z = T4.heap.size := ⟨_, rfl⟩
        rw [← g7] at A7 D7 st7
        have ne_b4_o0_b7 : b4_o0 ≠ b7 := Nat.ne_of_lt (Nat.lt_of_lt_of_le P4_0.lt (Nat.le_of_eq g7.symm))
        have g_b7 : n0 ≤ b7 := Nat.le_trans Z5 (Nat.le_of_eq g7.symm)
        have sz_b7 : h0.size ≤ b7 := Nat.le_trans K6.1 (Nat.le_of_eq g7.symm)
        have Z8 := Nat.le_trans Z5 E7.1
        have hk9 := Nat.le_trans hk4 E7.1
        have K10 : Keep h0 _ [] := K6.ext E7
        have F_limit_b7 : Fld Z h7 b7 "com/example/acquirer/acquirer/PageRequest" "limit" "I" (.int (0 : Int32)) := D7 (Or.inr (own_w hw 40 rfl)) (ty := .int) (by decide)
        have F_startingAfter_b7 : Fld Z h7 b7 "com/example/acquirer/acquirer/PageRequest" "startingAfter" "Ljava/lang/String;" .null := D7 (Or.inr (own_w hw 42 rfl)) (ty := (.object "java/lang/String")) (by decide)
        have F_endingBefore_b7 : Fld Z h7 b7 "com/example/acquirer/acquirer/PageRequest" "endingBefore" "Ljava/lang/String;" .null := D7 (Or.inr (own_w hw 44 rfl)) (ty := (.object "java/lang/String")) (by decide)
        have F_descending_b7 : Fld Z h7 b7 "com/example/acquirer/acquirer/PageRequest" "descending" "Z" (.int (0 : Int32)) := D7 (Or.inr (own_w hw 46 rfl)) (ty := .boolean) (by decide)
        refine own_st st7 ?_
        show own_E p e below _ T7 (mkF m 70 #[iv p1, iv p2, iv p3, iv p4, iv p5, iv 0, iv 0, iv 0, rv b4_o0, .val (.null), .val (.null), .unset, .unset] [.ref b7])
        refine own_st (fun t k => XS.dup X7.here hx rfl (hb hby at_70) rfl rfl k) ?_
        show own_E p e below _ T7 (mkF m 71 #[iv p1, iv p2, iv p3, iv p4, iv p5, iv 0, iv 0, iv 0, rv b4_o0, .val (.null), .val (.null), .unset, .unset] [.ref b7, .ref b7])
        refine own_st (fun t k => XS.iloadN X7.here hx rfl (hb hby at_71) rfl k) ?_
        show own_E p e below _ T7 (mkF m 72 #[iv p1, iv p2, iv p3, iv p4, iv p5, iv 0, iv 0, iv 0, rv b4_o0, .val (.null), .val (.null), .unset, .unset] [.int p2, .ref b7, .ref b7])
        refine own_st (fun t k => XS.aload X7.here hx rfl (hb hby at_72) rfl rfl k) ?_
        show own_E p e below _ T7 (mkF m 74 #[iv p1, iv p2, iv p3, iv p4, iv p5, iv 0, iv 0, iv 0, rv b4_o0, .val (.null), .val (.null), .unset, .unset] [.null, .int p2, .ref b7, .ref b7])
        refine own_st (fun t k => XS.aload X7.here hx rfl (hb hby at_74) rfl rfl k) ?_
        show own_E p e below _ T7 (mkF m 76 #[iv p1, iv p2, iv p3, iv p4, iv p5, iv 0, iv 0, iv 0, rv b4_o0, .val (.null), .val (.null), .unset, .unset] [.null, .null, .int p2, .ref b7, .ref b7])
        refine own_st (fun t k => XS.iload X7.here hx rfl (hb hby at_76) rfl k) ?_
        show own_E p e below _ T7 (mkF m 78 #[iv p1, iv p2, iv p3, iv p4, iv p5, iv 0, iv 0, iv 0, rv b4_o0, .val (.null), .val (.null), .unset, .unset] [.int 0, .null, .null, .int p2, .ref b7, .ref b7])
        obtain ⟨_, _, ⟨T11, L11, k11, n11⟩, -, X11, ⟨Lc11, hQ11, l11, y11, z11⟩, st11⟩ := X7.specialBack hx (y := own_y4) rfl ho4 (mvT hZ4 (own_w hw 30 rfl)) (mvT hZ4 (own_w hw 31 rfl)) (mvT hZ4 (own_w hw 32 rfl)) (by decide) (backOf (W := 1) (own_init000 l Z a0 hw [] b7 p2 h7 n0 Z8 A7 F_limit_b7 F_startingAfter_b7 F_endingBefore_b7 F_descending_b7 g_b7) hZ4 (own_w hw 32 rfl) (own_w hw 29 rfl) (by decide) (by decide)) (g := (mkF m 78 #[iv p1, iv p2, iv p3, iv p4, iv p5, iv 0, iv 0, iv 0, rv b4_o0, .val (.null), .val (.null), .unset, .unset] [.int 0, .null, .null, .int p2, .ref b7, .ref b7])) rfl (by rw [hml]; rfl) (Steps.refl _) (a := b7) (argsL := [(.int p2), .null, .null, (.int (0 : Int32))]) (rest := [(.ref b7)]) (lenOf own_pd_4 rfl) rfl (by show 2 * 0 + _ ≤ _; exact Nat.le_of_eq rfl) (hb hby at_78) (fun _ _ => ⟨rfl, e7, (by decide : 5 + 0 ≤ _), (by decide : 12 + 0 ≤ _)⟩)
        dsimp only [Pt.U, Pt.locs, Pt.cells, Pt.slots] at X11 l11 y11 z11 st11 hQ11
        subst l11 y11 z11
        obtain ⟨rfl, Nq11, Kq11, P11_0, P11_1, P11_2⟩ := hQ11
        have N11 := Fr.app N4 Nq11
        have e11 : T11.heap = T11.heap := rfl
        have Z12 := Nat.le_trans Z8 Kq11.1
        have hk13 := Nat.le_trans hk9 Kq11.1
        have K14 : Keep h0 _ [] := K10.trans Kq11 (allS (P := fun x => x ∈ [] ∨ h0.size ≤ x) (Or.inr sz_b7) all0)
        refine own_tr st11 ?_
        show own_E p e below _ T11 (mkF m 81 #[iv p1, iv p2, iv p3, iv p4, iv p5, iv 0, iv 0, iv 0, rv b4_o0, .val (.null), .val (.null), .unset, .unset] [.ref b7])
        refine own_st (fun t k => XS.astore X11.here hx rfl (hb hby at_81) rfl rfl (l' := #[iv p1, iv p2, iv p3, iv p4, iv p5, iv 0, iv 0, iv 0, rv b4_o0, .val (.null), .val (.null), rv b7, .unset]) rfl k) ?_
        show own_E p e below _ T11 (mkF m 83 #[iv p1, iv p2, iv p3, iv p4, iv p5, iv 0, iv 0, iv 0, rv b4_o0, .val (.null), .val (.null), rv b7, .unset] [])
        refine own_st (fun t k => XS.aload X11.here hx rfl (hb hby at_83) rfl rfl k) ?_
        show own_E p e below _ T11 (mkF m 85 #[iv p1, iv p2, iv p3, iv p4, iv p5, iv 0, iv 0, iv 0, rv b4_o0, .val (.null), .val (.null), rv b7, .unset] [.ref b7])
        obtain ⟨cq15, kq15, q15a, q15b, q15c⟩ := isOf hZ4 e11 P11_0
        obtain ⟨_, _, ⟨T15, L15, k15, n15⟩, -, X15, ⟨Lc15, hQ15, l15, y15, z15⟩, st15⟩ := X11.virtualBack hx (y := own_y5) (z := own_y5) ho4 (mvT hZ4 (own_w hw 47 rfl)) (mvT hZ4 (own_w hw 48 rfl)) (notFace_of_selects (args := #[]) (mvT hZ4 (own_w hw 50 rfl))) (mvT hZ4 (own_w hw 50 rfl)) (mvT hZ4 (own_w hw 49 rfl)) (by decide) (backOf (W := 0) (own_cur00 l Z a0 hw [] b7 T11.heap n0 Z12 P11_1 P11_2) hZ4 (own_w hw 51 rfl) (own_w hw 29 rfl) (by decide) (by decide)) q15a q15c (g := (mkF m 85 #[iv p1, iv p2, iv p3, iv p4, iv p5, iv 0, iv 0, iv 0, rv b4_o0, .val (.null), .val (.null), rv b7, .unset] [.ref b7])) rfl (by rw [hml]; rfl) (Steps.refl _) (argsL := []) (rest := []) (lenOf own_pd_0 rfl) rfl (by show 2 * 0 + _ ≤ _; exact Nat.le_of_eq rfl) (hb hby at_85) (fun _ _ => ⟨rfl, e11, (by decide : 5 + 0 ≤ _), (by decide : 12 + 0 ≤ _)⟩)
        dsimp only [Pt.U, Pt.locs, Pt.cells, Pt.slots] at X15 l15 y15 z15 st15 hQ15
        subst l15 y15 z15
        obtain ⟨hR15, e15, rfl⟩ := hQ15
        have N15 := Fr.app N11 (Fr.nil n0)
        obtain rfl := hR15
        refine own_tr st15 ?_
        show own_E p e below _ T15 (mkF m 88 #[iv p1, iv p2, iv p3, iv p4, iv p5, iv 0, iv 0, iv 0, rv b4_o0, .val (.null), .val (.null), rv b7, .unset] [.null])
        refine own_st (fun t k => XS.astore X15.here hx rfl (hb hby at_88) rfl rfl (l' := #[iv p1, iv p2, iv p3, iv p4, iv p5, iv 0, iv 0, iv 0, rv b4_o0, .val (.null), .val (.null), rv b7, .val (.null)]) rfl k) ?_
        show own_E p e below _ T15 (mkF m 90 #[iv p1, iv p2, iv p3, iv p4, iv p5, iv 0, iv 0, iv 0, rv b4_o0, .val (.null), .val (.null), rv b7, .val (.null)] [])
        refine own_st (fun t k => XS.iload X15.here hx rfl (hb hby at_90) rfl k) ?_
        show own_E p e below _ T15 (mkF m 92 #[iv p1, iv p2, iv p3, iv p4, iv p5, iv 0, iv 0, iv 0, rv b4_o0, .val (.null), .val (.null), rv b7, .val (.null)] [.int 0])
        refine own_st (fun t k => XS.ifNo X15.here hx rfl (hb hby at_92) rfl (by decide) k) ?_
        show own_E p e below _ T15 (mkF m 95 #[iv p1, iv p2, iv p3, iv p4, iv p5, iv 0, iv 0, iv 0, rv b4_o0, .val (.null), .val (.null), rv b7, .val (.null)] [])
        refine own_st (fun t k => XS.aload X15.here hx rfl (hb hby at_95) rfl rfl k) ?_
        show own_E p e below _ T15 (mkF m 97 #[iv p1, iv p2, iv p3, iv p4, iv p5, iv 0, iv 0, iv 0, rv b4_o0, .val (.null), .val (.null), rv b7, .val (.null)] [.null])
        refine own_st (fun t k => XS.ifnonnullNo X15.here hx rfl (hb hby at_97) rfl k) ?_
        show own_E p e below _ T15 (mkF m 100 #[iv p1, iv p2, iv p3, iv p4, iv p5, iv 0, iv 0, iv 0, rv b4_o0, .val (.null), .val (.null), rv b7, .val (.null)] [])
        refine own_st (fun t k => XS.iconst X15.here hx rfl (hb hby at_100) k) ?_
        show own_E p e below _ T15 (mkF m 101 #[iv p1, iv p2, iv p3, iv p4, iv p5, iv 0, iv 0, iv 0, rv b4_o0, .val (.null), .val (.null), rv b7, .val (.null)] [.int 1])
        refine own_st (fun t k => XS.goto X15.here hx rfl (pc0 := 101) (pc' := 105) rfl (hb hby at_101) (by decide) (by decide) k) ?_
        show own_E p e below _ T15 (mkF m 105 #[iv p1, iv p2, iv p3, iv p4, iv p5, iv 0, iv 0, iv 0, rv b4_o0, .val (.null), .val (.null), rv b7, .val (.null)] [.int 1])
        refine own_retSW X15 hS4 (by rw [e15]; exact hk13) hx Bd.notSynchronized Bd.returns rfl (by decide) (hb hby at_105) (by decide) (by decide) ?_
        exact ⟨rfl, N15⟩
      · rw [hs3]
        show own_E p e below _ s₁ (mkF m 30 #[iv p1, iv p2, iv p3, iv p4, iv p5, iv 0, iv 0, iv 1, .unset, .unset, .unset, .unset, .unset] [])
        refine own_st (fun t k => XS.iload X0.here hx rfl (hb hby at_30) rfl k) ?_
        show own_E p e below _ s₁ (mkF m 32 #[iv p1, iv p2, iv p3, iv p4, iv p5, iv 0, iv 0, iv 1, .unset, .unset, .unset, .unset, .unset] [.int 1])
        refine own_st (fun t k => XS.iloadN X0.here hx rfl (hb hby at_32) rfl k) ?_
        show own_E p e below _ s₁ (mkF m 33 #[iv p1, iv p2, iv p3, iv p4, iv p5, iv 0, iv 0, iv 1, .unset, .unset, .unset, .unset, .unset] [.int p3, .int 1])
        refine own_st (fun t k => XS.iloadN X0.here hx rfl (hb hby at_33) rfl k) ?_
        show own_E p e below _ s₁ (mkF m 34 #[iv p1, iv p2, iv p3, iv p4, iv p5, iv 0, iv 0, iv 1, .unset, .unset, .unset, .unset, .unset] [.int p4, .int p3, .int 1])
        obtain ⟨_, _, ⟨T16, L16, k16, n16⟩, -, X16, ⟨Lc16, hQ16, l16, y16, z16⟩, st16⟩ := Jvm.LawKit.callS X0 hx (y := own_y3) hown (mvT hZ (own_w hw 1 rfl)) (mvT hZ (own_w hw 2 rfl)) (mvT hZ (own_w hw 3 rfl)) (mvT hZ (own_w hw 4 rfl)) (by decide) (backOf (W := 0) (own_drawn1 l Z a0 hw [] zc p3 p4 h0 n0 Z0 SC hzc) hZ (own_w hw 4 rfl) (own_w hw 3 rfl) (by decide) (by decide)) (g := (mkF m 34 #[iv p1, iv p2, iv p3, iv p4, iv p5, iv 0, iv 0, iv 1, .unset, .unset, .unset, .unset, .unset] [.int p4, .int p3, .int 1])) rfl (by rw [hml]; rfl) (argsL := [(.int (1 : Int32)), (.int p3), (.int p4)]) (rest := []) (lenOf own_pd_2 rfl) rfl (by show 2 * 0 + _ ≤ _; exact Nat.le_of_eq rfl) (hb hby at_34) (fun _ _ => ⟨rfl, e0, (by decide : 0 + 3 ≤ _), (by decide : 0 + 6 ≤ _)⟩)
        dsimp only [Pt.U, Pt.locs, Pt.cells, Pt.slots] at X16 l16 y16 z16 st16 hQ16
        subst l16 y16 z16
        obtain ⟨b16_o0, rfl, Nq16, Kq16, sz16_0, P16_0⟩ := hQ16
        have N16 := Fr.app (Fr.nil n0) Nq16
        have g_b16_o0 : n0 ≤ b16_o0 := Nat.le_trans Z0 sz16_0
        have sz_b16_o0 : h0.size ≤ b16_o0 := Nat.le_trans (Keep.refl h0 []).1 sz16_0
        have e16 : T16.heap = T16.heap := rfl
        have Z17 := Nat.le_trans Z0 Kq16.1
        have K18 : Keep h0 _ [] := (Keep.refl h0 []).trans Kq16 all0
        refine own_st st16 ?_
        show own_E p e below _ T16 (mkF m 37 #[iv p1, iv p2, iv p3, iv p4, iv p5, iv 0, iv 0, iv 1, .unset, .unset, .unset, .unset, .unset] [.ref b16_o0])
        refine own_st (fun t k => XS.astore X16.here hx rfl (hb hby at_37) rfl rfl (l' := #[iv p1, iv p2, iv p3, iv p4, iv p5, iv 0, iv 0, iv 1, rv b16_o0, .unset, .unset, .unset, .unset]) rfl k) ?_
        show own_E p e below _ T16 (mkF m 39 #[iv p1, iv p2, iv p3, iv p4, iv p5, iv 0, iv 0, iv 1, rv b16_o0, .unset, .unset, .unset, .unset] [])
        refine own_st (fun t k => XS.iload X16.here hx rfl (hb hby at_39) rfl k) ?_
        show own_E p e below _ T16 (mkF m 41 #[iv p1, iv p2, iv p3, iv p4, iv p5, iv 0, iv 0, iv 1, rv b16_o0, .unset, .unset, .unset, .unset] [.int 0])
        refine own_st (fun t k => XS.iconst X16.here hx rfl (hb hby at_41) k) ?_
        show own_E p e below _ T16 (mkF m 42 #[iv p1, iv p2, iv p3, iv p4, iv p5, iv 0, iv 0, iv 1, rv b16_o0, .unset, .unset, .unset, .unset] [.int 1, .int 0])
        refine own_st (fun t k => XS.icmpYes X16.here hx rfl (pc0 := 42) (pc' := 50) rfl (hb hby at_42) rfl (by decide) (by decide) (by decide) k) ?_
        show own_E p e below _ T16 (mkF m 50 #[iv p1, iv p2, iv p3, iv p4, iv p5, iv 0, iv 0, iv 1, rv b16_o0, .unset, .unset, .unset, .unset] [])
        refine own_st (fun t k => XS.aconstNull X16.here hx rfl (hb hby at_50) k) ?_
        show own_E p e below _ T16 (mkF m 51 #[iv p1, iv p2, iv p3, iv p4, iv p5, iv 0, iv 0, iv 1, rv b16_o0, .unset, .unset, .unset, .unset] [.null])
        refine own_st (fun t k => XS.astore X16.here hx rfl (hb hby at_51) rfl rfl (l' := #[iv p1, iv p2, iv p3, iv p4, iv p5, iv 0, iv 0, iv 1, rv b16_o0, .val (.null), .unset, .unset, .unset]) rfl k) ?_
        show own_E p e below _ T16 (mkF m 53 #[iv p1, iv p2, iv p3, iv p4, iv p5, iv 0, iv 0, iv 1, rv b16_o0, .val (.null), .unset, .unset, .unset] [])
        refine own_st (fun t k => XS.iload X16.here hx rfl (hb hby at_53) rfl k) ?_
        show own_E p e below _ T16 (mkF m 55 #[iv p1, iv p2, iv p3, iv p4, iv p5, iv 0, iv 0, iv 1, rv b16_o0, .val (.null), .unset, .unset, .unset] [.int 0])
        refine own_st (fun t k => XS.iconst X16.here hx rfl (hb hby at_55) k) ?_
        show own_E p e below _ T16 (mkF m 56 #[iv p1, iv p2, iv p3, iv p4, iv p5, iv 0, iv 0, iv 1, rv b16_o0, .val (.null), .unset, .unset, .unset] [.int 2, .int 0])
        refine own_st (fun t k => XS.icmpYes X16.here hx rfl (pc0 := 56) (pc' := 64) rfl (hb hby at_56) rfl (by decide) (by decide) (by decide) k) ?_
        show own_E p e below _ T16 (mkF m 64 #[iv p1, iv p2, iv p3, iv p4, iv p5, iv 0, iv 0, iv 1, rv b16_o0, .val (.null), .unset, .unset, .unset] [])
        refine own_st (fun t k => XS.aconstNull X16.here hx rfl (hb hby at_64) k) ?_
        show own_E p e below _ T16 (mkF m 65 #[iv p1, iv p2, iv p3, iv p4, iv p5, iv 0, iv 0, iv 1, rv b16_o0, .val (.null), .unset, .unset, .unset] [.null])
        refine own_st (fun t k => XS.astore X16.here hx rfl (hb hby at_65) rfl rfl (l' := #[iv p1, iv p2, iv p3, iv p4, iv p5, iv 0, iv 0, iv 1, rv b16_o0, .val (.null), .val (.null), .unset, .unset]) rfl k) ?_
        show own_E p e below _ T16 (mkF m 67 #[iv p1, iv p2, iv p3, iv p4, iv p5, iv 0, iv 0, iv 1, rv b16_o0, .val (.null), .val (.null), .unset, .unset] [])
        obtain ⟨T19, h19, X19, e19, E19, A19, D19, -, st19⟩ := newO X16 hx hZ hown (own_w hw 27 rfl) (own_w hw 28 rfl) (own_w hw 29 rfl) e16 (g := (mkF m 67 #[iv p1, iv p2, iv p3, iv p4, iv p5, iv 0, iv 0, iv 1, rv b16_o0, .val (.null), .val (.null), .unset, .unset] [])) rfl (hb hby at_67) (by decide) (by decide)
        obtain ⟨b19, g19⟩ : ∃ z, z = T16.heap.size := ⟨_, rfl⟩
        rw [← g19] at A19 D19 st19
        have ne_b16_o0_b19 : b16_o0 ≠ b19 := Nat.ne_of_lt (Nat.lt_of_lt_of_le P16_0.lt (Nat.le_of_eq g19.symm))
        have g_b19 : n0 ≤ b19 := Nat.le_trans Z17 (Nat.le_of_eq g19.symm)
        have sz_b19 : h0.size ≤ b19 := Nat.le_trans K18.1 (Nat.le_of_eq g19.symm)
        have Z20 := Nat.le_trans Z17 E19.1
        have K21 : Keep h0 _ [] := K18.ext E19
        have F_limit_b19 : Fld Z h19 b19 "com/example/acquirer/acquirer/PageRequest" "limit" "I" (.int (0 : Int32)) := D19 (Or.inr (own_w hw 40 rfl)) (ty := .int) (by decide)
        have F_startingAfter_b19 : Fld Z h19 b19 "com/example/acquirer/acquirer/PageRequest" "startingAfter" "Ljava/lang/String;" .null := D19 (Or.inr (own_w hw 42 rfl)) (ty := (.object "java/lang/String")) (by decide)
        have F_endingBefore_b19 : Fld Z h19 b19 "com/example/acquirer/acquirer/PageRequest" "endingBefore" "Ljava/lang/String;" .null := D19 (Or.inr (own_w hw 44 rfl)) (ty := (.object "java/lang/String")) (by decide)
        have F_descending_b19 : Fld Z h19 b19 "com/example/acquirer/acquirer/PageRequest" "descending" "Z" (.int (0 : Int32)) := D19 (Or.inr (own_w hw 46 rfl)) (ty := .boolean) (by decide)
        refine own_st st19 ?_
        show own_E p e below _ T19 (mkF m 70 #[iv p1, iv p2, iv p3, iv p4, iv p5, iv 0, iv 0, iv 1, rv b16_o0, .val (.null), .val (.null), .unset, .unset] [.ref b19])
        refine own_st (fun t k => XS.dup X19.here hx rfl (hb hby at_70) rfl rfl k) ?_
        show own_E p e below _ T19 (mkF m 71 #[iv p1, iv p2, iv p3, iv p4, iv p5, iv 0, iv 0, iv 1, rv b16_o0, .val (.null), .val (.null), .unset, .unset] [.ref b19, .ref b19])
        refine own_st (fun t k => XS.iloadN X19.here hx rfl (hb hby at_71) rfl k) ?_
        show own_E p e below _ T19 (mkF m 72 #[iv p1, iv p2, iv p3, iv p4, iv p5, iv 0, iv 0, iv 1, rv b16_o0, .val (.null), .val (.null), .unset, .unset] [.int p2, .ref b19, .ref b19])
        refine own_st (fun t k => XS.aload X19.here hx rfl (hb hby at_72) rfl rfl k) ?_
        show own_E p e below _ T19 (mkF m 74 #[iv p1, iv p2, iv p3, iv p4, iv p5, iv 0, iv 0, iv 1, rv b16_o0, .val (.null), .val (.null), .unset, .unset] [.null, .int p2, .ref b19, .ref b19])
        refine own_st (fun t k => XS.aload X19.here hx rfl (hb hby at_74) rfl rfl k) ?_
        show own_E p e below _ T19 (mkF m 76 #[iv p1, iv p2, iv p3, iv p4, iv p5, iv 0, iv 0, iv 1, rv b16_o0, .val (.null), .val (.null), .unset, .unset] [.null, .null, .int p2, .ref b19, .ref b19])
        refine own_st (fun t k => XS.iload X19.here hx rfl (hb hby at_76) rfl k) ?_
        show own_E p e below _ T19 (mkF m 78 #[iv p1, iv p2, iv p3, iv p4, iv p5, iv 0, iv 0, iv 1, rv b16_o0, .val (.null), .val (.null), .unset, .unset] [.int 0, .null, .null, .int p2, .ref b19, .ref b19])
        obtain ⟨_, _, ⟨T22, L22, k22, n22⟩, -, X22, ⟨Lc22, hQ22, l22, y22, z22⟩, st22⟩ := X19.specialBack hx (y := own_y4) rfl hown (mvT hZ (own_w hw 30 rfl)) (mvT hZ (own_w hw 31 rfl)) (mvT hZ (own_w hw 32 rfl)) (by decide) (backOf (W := 1) (own_init000 l Z a0 hw [] b19 p2 h19 n0 Z20 A19 F_limit_b19 F_startingAfter_b19 F_endingBefore_b19 F_descending_b19 g_b19) hZ (own_w hw 32 rfl) (own_w hw 29 rfl) (by decide) (by decide)) (g := (mkF m 78 #[iv p1, iv p2, iv p3, iv p4, iv p5, iv 0, iv 0, iv 1, rv b16_o0, .val (.null), .val (.null), .unset, .unset] [.int 0, .null, .null, .int p2, .ref b19, .ref b19])) rfl (by rw [hml]; rfl) (Steps.refl _) (a := b19) (argsL := [(.int p2), .null, .null, (.int (0 : Int32))]) (rest := [(.ref b19)]) (lenOf own_pd_4 rfl) rfl (by show 2 * 0 + _ ≤ _; exact Nat.le_of_eq rfl) (hb hby at_78) (fun _ _ => ⟨rfl, e19, (by decide : 4 + 0 ≤ _), (by decide : 10 + 0 ≤ _)⟩)
        dsimp only [Pt.U, Pt.locs, Pt.cells, Pt.slots] at X22 l22 y22 z22 st22 hQ22
        subst l22 y22 z22
        obtain ⟨rfl, Nq22, Kq22, P22_0, P22_1, P22_2⟩ := hQ22
        have N22 := Fr.app N16 Nq22
        have e22 : T22.heap = T22.heap := rfl
        have Z23 := Nat.le_trans Z20 Kq22.1
        have K24 : Keep h0 _ [] := K21.trans Kq22 (allS (P := fun x => x ∈ [] ∨ h0.size ≤ x) (Or.inr sz_b19) all0)
        refine own_tr st22 ?_
        show own_E p e below _ T22 (mkF m 81 #[iv p1, iv p2, iv p3, iv p4, iv p5, iv 0, iv 0, iv 1, rv b16_o0, .val (.null), .val (.null), .unset, .unset] [.ref b19])
        refine own_st (fun t k => XS.astore X22.here hx rfl (hb hby at_81) rfl rfl (l' := #[iv p1, iv p2, iv p3, iv p4, iv p5, iv 0, iv 0, iv 1, rv b16_o0, .val (.null), .val (.null), rv b19, .unset]) rfl k) ?_
        show own_E p e below _ T22 (mkF m 83 #[iv p1, iv p2, iv p3, iv p4, iv p5, iv 0, iv 0, iv 1, rv b16_o0, .val (.null), .val (.null), rv b19, .unset] [])
        refine own_st (fun t k => XS.aload X22.here hx rfl (hb hby at_83) rfl rfl k) ?_
        show own_E p e below _ T22 (mkF m 85 #[iv p1, iv p2, iv p3, iv p4, iv p5, iv 0, iv 0, iv 1, rv b16_o0, .val (.null), .val (.null), rv b19, .unset] [.ref b19])
        obtain ⟨cq25, kq25, q25a, q25b, q25c⟩ := isOf hZ e22 P22_0
        obtain ⟨_, _, ⟨T25, L25, k25, n25⟩, -, X25, ⟨Lc25, hQ25, l25, y25, z25⟩, st25⟩ := X22.virtualBack hx (y := own_y5) (z := own_y5) hown (mvT hZ (own_w hw 47 rfl)) (mvT hZ (own_w hw 48 rfl)) (notFace_of_selects (args := #[]) (mvT hZ (own_w hw 50 rfl))) (mvT hZ (own_w hw 50 rfl)) (mvT hZ (own_w hw 49 rfl)) (by decide) (backOf (W := 0) (own_cur00 l Z a0 hw [] b19 T22.heap n0 Z23 P22_1 P22_2) hZ (own_w hw 51 rfl) (own_w hw 29 rfl) (by decide) (by decide)) q25a q25c (g := (mkF m 85 #[iv p1, iv p2, iv p3, iv p4, iv p5, iv 0, iv 0, iv 1, rv b16_o0, .val (.null), .val (.null), rv b19, .unset] [.ref b19])) rfl (by rw [hml]; rfl) (Steps.refl _) (argsL := []) (rest := []) (lenOf own_pd_0 rfl) rfl (by show 2 * 0 + _ ≤ _; exact Nat.le_of_eq rfl) (hb hby at_85) (fun _ _ => ⟨rfl, e22, (by decide : 4 + 0 ≤ _), (by decide : 10 + 0 ≤ _)⟩)
        dsimp only [Pt.U, Pt.locs, Pt.cells, Pt.slots] at X25 l25 y25 z25 st25 hQ25
        subst l25 y25 z25
        obtain ⟨hR25, e25, rfl⟩ := hQ25
        have N25 := Fr.app N22 (Fr.nil n0)
        obtain rfl := hR25
        refine own_tr st25 ?_
        show own_E p e below _ T25 (mkF m 88 #[iv p1, iv p2, iv p3, iv p4, iv p5, iv 0, iv 0, iv 1, rv b16_o0, .val (.null), .val (.null), rv b19, .unset] [.null])
        refine own_st (fun t k => XS.astore X25.here hx rfl (hb hby at_88) rfl rfl (l' := #[iv p1, iv p2, iv p3, iv p4, iv p5, iv 0, iv 0, iv 1, rv b16_o0, .val (.null), .val (.null), rv b19, .val (.null)]) rfl k) ?_
        show own_E p e below _ T25 (mkF m 90 #[iv p1, iv p2, iv p3, iv p4, iv p5, iv 0, iv 0, iv 1, rv b16_o0, .val (.null), .val (.null), rv b19, .val (.null)] [])
        refine own_st (fun t k => XS.iload X25.here hx rfl (hb hby at_90) rfl k) ?_
        show own_E p e below _ T25 (mkF m 92 #[iv p1, iv p2, iv p3, iv p4, iv p5, iv 0, iv 0, iv 1, rv b16_o0, .val (.null), .val (.null), rv b19, .val (.null)] [.int 0])
        refine own_st (fun t k => XS.ifNo X25.here hx rfl (hb hby at_92) rfl (by decide) k) ?_
        show own_E p e below _ T25 (mkF m 95 #[iv p1, iv p2, iv p3, iv p4, iv p5, iv 0, iv 0, iv 1, rv b16_o0, .val (.null), .val (.null), rv b19, .val (.null)] [])
        refine own_st (fun t k => XS.aload X25.here hx rfl (hb hby at_95) rfl rfl k) ?_
        show own_E p e below _ T25 (mkF m 97 #[iv p1, iv p2, iv p3, iv p4, iv p5, iv 0, iv 0, iv 1, rv b16_o0, .val (.null), .val (.null), rv b19, .val (.null)] [.null])
        refine own_st (fun t k => XS.ifnonnullNo X25.here hx rfl (hb hby at_97) rfl k) ?_
        show own_E p e below _ T25 (mkF m 100 #[iv p1, iv p2, iv p3, iv p4, iv p5, iv 0, iv 0, iv 1, rv b16_o0, .val (.null), .val (.null), rv b19, .val (.null)] [])
        refine own_st (fun t k => XS.iconst X25.here hx rfl (hb hby at_100) k) ?_
        show own_E p e below _ T25 (mkF m 101 #[iv p1, iv p2, iv p3, iv p4, iv p5, iv 0, iv 0, iv 1, rv b16_o0, .val (.null), .val (.null), rv b19, .val (.null)] [.int 1])
        refine own_st (fun t k => XS.goto X25.here hx rfl (pc0 := 101) (pc' := 105) rfl (hb hby at_101) (by decide) (by decide) k) ?_
        show own_E p e below _ T25 (mkF m 105 #[iv p1, iv p2, iv p3, iv p4, iv p5, iv 0, iv 0, iv 1, rv b16_o0, .val (.null), .val (.null), rv b19, .val (.null)] [.int 1])
        refine own_retSW X25 (own_since s) (by rw [e25]; exact (Nat.zero_le _)) hx Bd.notSynchronized Bd.returns rfl (by decide) (hb hby at_105) (by decide) (by decide) ?_
        exact ⟨rfl, N25⟩
      · rw [hs3]
        show own_E p e below _ s₁ (mkF m 30 #[iv p1, iv p2, iv p3, iv p4, iv p5, iv 0, iv 0, iv 2, .unset, .unset, .unset, .unset, .unset] [])
        refine own_st (fun t k => XS.iload X0.here hx rfl (hb hby at_30) rfl k) ?_
        show own_E p e below _ s₁ (mkF m 32 #[iv p1, iv p2, iv p3, iv p4, iv p5, iv 0, iv 0, iv 2, .unset, .unset, .unset, .unset, .unset] [.int 2])
        refine own_st (fun t k => XS.iloadN X0.here hx rfl (hb hby at_32) rfl k) ?_
        show own_E p e below _ s₁ (mkF m 33 #[iv p1, iv p2, iv p3, iv p4, iv p5, iv 0, iv 0, iv 2, .unset, .unset, .unset, .unset, .unset] [.int p3, .int 2])
        refine own_st (fun t k => XS.iloadN X0.here hx rfl (hb hby at_33) rfl k) ?_
        show own_E p e below _ s₁ (mkF m 34 #[iv p1, iv p2, iv p3, iv p4, iv p5, iv 0, iv 0, iv 2, .unset, .unset, .unset, .unset, .unset] [.int p4, .int p3, .int 2])
        obtain ⟨_, _, ⟨T26, L26, k26, n26⟩, -, X26, ⟨Lc26, hQ26, l26, y26, z26⟩, st26⟩ := Jvm.LawKit.callS X0 hx (y := own_y3) hown (mvT hZ (own_w hw 1 rfl)) (mvT hZ (own_w hw 2 rfl)) (mvT hZ (own_w hw 3 rfl)) (mvT hZ (own_w hw 4 rfl)) (by decide) (backOf (W := 0) (own_drawn2 l Z a0 hw [] zc p3 p4 h0 n0 Z0 SC hzc) hZ (own_w hw 4 rfl) (own_w hw 3 rfl) (by decide) (by decide)) (g := (mkF m 34 #[iv p1, iv p2, iv p3, iv p4, iv p5, iv 0, iv 0, iv 2, .unset, .unset, .unset, .unset, .unset] [.int p4, .int p3, .int 2])) rfl (by rw [hml]; rfl) (argsL := [(.int (2 : Int32)), (.int p3), (.int p4)]) (rest := []) (lenOf own_pd_2 rfl) rfl (by show 2 * 0 + _ ≤ _; exact Nat.le_of_eq rfl) (hb hby at_34) (fun _ _ => ⟨rfl, e0, (by decide : 0 + 3 ≤ _), (by decide : 0 + 8 ≤ _)⟩)
        dsimp only [Pt.U, Pt.locs, Pt.cells, Pt.slots] at X26 l26 y26 z26 st26 hQ26
        subst l26 y26 z26
        obtain ⟨b26_o0, rfl, Nq26, Kq26, sz26_0, P26_0⟩ := hQ26
        have N26 := Fr.app (Fr.nil n0) Nq26
        have g_b26_o0 : n0 ≤ b26_o0 := Nat.le_trans Z0 sz26_0
        have sz_b26_o0 : h0.size ≤ b26_o0 := Nat.le_trans (Keep.refl h0 []).1 sz26_0
        have e26 : T26.heap = T26.heap := rfl
        have Z27 := Nat.le_trans Z0 Kq26.1
        have K28 : Keep h0 _ [] := (Keep.refl h0 []).trans Kq26 all0
        refine own_st st26 ?_
        show own_E p e below _ T26 (mkF m 37 #[iv p1, iv p2, iv p3, iv p4, iv p5, iv 0, iv 0, iv 2, .unset, .unset, .unset, .unset, .unset] [.ref b26_o0])
        refine own_st (fun t k => XS.astore X26.here hx rfl (hb hby at_37) rfl rfl (l' := #[iv p1, iv p2, iv p3, iv p4, iv p5, iv 0, iv 0, iv 2, rv b26_o0, .unset, .unset, .unset, .unset]) rfl k) ?_
        show own_E p e below _ T26 (mkF m 39 #[iv p1, iv p2, iv p3, iv p4, iv p5, iv 0, iv 0, iv 2, rv b26_o0, .unset, .unset, .unset, .unset] [])
        refine own_st (fun t k => XS.iload X26.here hx rfl (hb hby at_39) rfl k) ?_
        show own_E p e below _ T26 (mkF m 41 #[iv p1, iv p2, iv p3, iv p4, iv p5, iv 0, iv 0, iv 2, rv b26_o0, .unset, .unset, .unset, .unset] [.int 0])
        refine own_st (fun t k => XS.iconst X26.here hx rfl (hb hby at_41) k) ?_
        show own_E p e below _ T26 (mkF m 42 #[iv p1, iv p2, iv p3, iv p4, iv p5, iv 0, iv 0, iv 2, rv b26_o0, .unset, .unset, .unset, .unset] [.int 1, .int 0])
        refine own_st (fun t k => XS.icmpYes X26.here hx rfl (pc0 := 42) (pc' := 50) rfl (hb hby at_42) rfl (by decide) (by decide) (by decide) k) ?_
        show own_E p e below _ T26 (mkF m 50 #[iv p1, iv p2, iv p3, iv p4, iv p5, iv 0, iv 0, iv 2, rv b26_o0, .unset, .unset, .unset, .unset] [])
        refine own_st (fun t k => XS.aconstNull X26.here hx rfl (hb hby at_50) k) ?_
        show own_E p e below _ T26 (mkF m 51 #[iv p1, iv p2, iv p3, iv p4, iv p5, iv 0, iv 0, iv 2, rv b26_o0, .unset, .unset, .unset, .unset] [.null])
        refine own_st (fun t k => XS.astore X26.here hx rfl (hb hby at_51) rfl rfl (l' := #[iv p1, iv p2, iv p3, iv p4, iv p5, iv 0, iv 0, iv 2, rv b26_o0, .val (.null), .unset, .unset, .unset]) rfl k) ?_
        show own_E p e below _ T26 (mkF m 53 #[iv p1, iv p2, iv p3, iv p4, iv p5, iv 0, iv 0, iv 2, rv b26_o0, .val (.null), .unset, .unset, .unset] [])
        refine own_st (fun t k => XS.iload X26.here hx rfl (hb hby at_53) rfl k) ?_
        show own_E p e below _ T26 (mkF m 55 #[iv p1, iv p2, iv p3, iv p4, iv p5, iv 0, iv 0, iv 2, rv b26_o0, .val (.null), .unset, .unset, .unset] [.int 0])
        refine own_st (fun t k => XS.iconst X26.here hx rfl (hb hby at_55) k) ?_
        show own_E p e below _ T26 (mkF m 56 #[iv p1, iv p2, iv p3, iv p4, iv p5, iv 0, iv 0, iv 2, rv b26_o0, .val (.null), .unset, .unset, .unset] [.int 2, .int 0])
        refine own_st (fun t k => XS.icmpYes X26.here hx rfl (pc0 := 56) (pc' := 64) rfl (hb hby at_56) rfl (by decide) (by decide) (by decide) k) ?_
        show own_E p e below _ T26 (mkF m 64 #[iv p1, iv p2, iv p3, iv p4, iv p5, iv 0, iv 0, iv 2, rv b26_o0, .val (.null), .unset, .unset, .unset] [])
        refine own_st (fun t k => XS.aconstNull X26.here hx rfl (hb hby at_64) k) ?_
        show own_E p e below _ T26 (mkF m 65 #[iv p1, iv p2, iv p3, iv p4, iv p5, iv 0, iv 0, iv 2, rv b26_o0, .val (.null), .unset, .unset, .unset] [.null])
        refine own_st (fun t k => XS.astore X26.here hx rfl (hb hby at_65) rfl rfl (l' := #[iv p1, iv p2, iv p3, iv p4, iv p5, iv 0, iv 0, iv 2, rv b26_o0, .val (.null), .val (.null), .unset, .unset]) rfl k) ?_
        show own_E p e below _ T26 (mkF m 67 #[iv p1, iv p2, iv p3, iv p4, iv p5, iv 0, iv 0, iv 2, rv b26_o0, .val (.null), .val (.null), .unset, .unset] [])
        obtain ⟨T29, h29, X29, e29, E29, A29, D29, -, st29⟩ := newO X26 hx hZ hown (own_w hw 27 rfl) (own_w hw 28 rfl) (own_w hw 29 rfl) e26 (g := (mkF m 67 #[iv p1, iv p2, iv p3, iv p4, iv p5, iv 0, iv 0, iv 2, rv b26_o0, .val (.null), .val (.null), .unset, .unset] [])) rfl (hb hby at_67) (by decide) (by decide)
        obtain ⟨b29, g29⟩ : ∃ z, z = T26.heap.size := ⟨_, rfl⟩
        rw [← g29] at A29 D29 st29
        have ne_b26_o0_b29 : b26_o0 ≠ b29 := Nat.ne_of_lt (Nat.lt_of_lt_of_le P26_0.lt (Nat.le_of_eq g29.symm))
        have g_b29 : n0 ≤ b29 := Nat.le_trans Z27 (Nat.le_of_eq g29.symm)
        have sz_b29 : h0.size ≤ b29 := Nat.le_trans K28.1 (Nat.le_of_eq g29.symm)
        have Z30 := Nat.le_trans Z27 E29.1
        have K31 : Keep h0 _ [] := K28.ext E29
        have F_limit_b29 : Fld Z h29 b29 "com/example/acquirer/acquirer/PageRequest" "limit" "I" (.int (0 : Int32)) := D29 (Or.inr (own_w hw 40 rfl)) (ty := .int) (by decide)
        have F_startingAfter_b29 : Fld Z h29 b29 "com/example/acquirer/acquirer/PageRequest" "startingAfter" "Ljava/lang/String;" .null := D29 (Or.inr (own_w hw 42 rfl)) (ty := (.object "java/lang/String")) (by decide)
        have F_endingBefore_b29 : Fld Z h29 b29 "com/example/acquirer/acquirer/PageRequest" "endingBefore" "Ljava/lang/String;" .null := D29 (Or.inr (own_w hw 44 rfl)) (ty := (.object "java/lang/String")) (by decide)
        have F_descending_b29 : Fld Z h29 b29 "com/example/acquirer/acquirer/PageRequest" "descending" "Z" (.int (0 : Int32)) := D29 (Or.inr (own_w hw 46 rfl)) (ty := .boolean) (by decide)
        refine own_st st29 ?_
        show own_E p e below _ T29 (mkF m 70 #[iv p1, iv p2, iv p3, iv p4, iv p5, iv 0, iv 0, iv 2, rv b26_o0, .val (.null), .val (.null), .unset, .unset] [.ref b29])
        refine own_st (fun t k => XS.dup X29.here hx rfl (hb hby at_70) rfl rfl k) ?_
        show own_E p e below _ T29 (mkF m 71 #[iv p1, iv p2, iv p3, iv p4, iv p5, iv 0, iv 0, iv 2, rv b26_o0, .val (.null), .val (.null), .unset, .unset] [.ref b29, .ref b29])
        refine own_st (fun t k => XS.iloadN X29.here hx rfl (hb hby at_71) rfl k) ?_
        show own_E p e below _ T29 (mkF m 72 #[iv p1, iv p2, iv p3, iv p4, iv p5, iv 0, iv 0, iv 2, rv b26_o0, .val (.null), .val (.null), .unset, .unset] [.int p2, .ref b29, .ref b29])
        refine own_st (fun t k => XS.aload X29.here hx rfl (hb hby at_72) rfl rfl k) ?_
        show own_E p e below _ T29 (mkF m 74 #[iv p1, iv p2, iv p3, iv p4, iv p5, iv 0, iv 0, iv 2, rv b26_o0, .val (.null), .val (.null), .unset, .unset] [.null, .int p2, .ref b29, .ref b29])
        refine own_st (fun t k => XS.aload X29.here hx rfl (hb hby at_74) rfl rfl k) ?_
        show own_E p e below _ T29 (mkF m 76 #[iv p1, iv p2, iv p3, iv p4, iv p5, iv 0, iv 0, iv 2, rv b26_o0, .val (.null), .val (.null), .unset, .unset] [.null, .null, .int p2, .ref b29, .ref b29])
        refine own_st (fun t k => XS.iload X29.here hx rfl (hb hby at_76) rfl k) ?_
        show own_E p e below _ T29 (mkF m 78 #[iv p1, iv p2, iv p3, iv p4, iv p5, iv 0, iv 0, iv 2, rv b26_o0, .val (.null), .val (.null), .unset, .unset] [.int 0, .null, .null, .int p2, .ref b29, .ref b29])
        obtain ⟨_, _, ⟨T32, L32, k32, n32⟩, -, X32, ⟨Lc32, hQ32, l32, y32, z32⟩, st32⟩ := X29.specialBack hx (y := own_y4) rfl hown (mvT hZ (own_w hw 30 rfl)) (mvT hZ (own_w hw 31 rfl)) (mvT hZ (own_w hw 32 rfl)) (by decide) (backOf (W := 1) (own_init000 l Z a0 hw [] b29 p2 h29 n0 Z30 A29 F_limit_b29 F_startingAfter_b29 F_endingBefore_b29 F_descending_b29 g_b29) hZ (own_w hw 32 rfl) (own_w hw 29 rfl) (by decide) (by decide)) (g := (mkF m 78 #[iv p1, iv p2, iv p3, iv p4, iv p5, iv 0, iv 0, iv 2, rv b26_o0, .val (.null), .val (.null), .unset, .unset] [.int 0, .null, .null, .int p2, .ref b29, .ref b29])) rfl (by rw [hml]; rfl) (Steps.refl _) (a := b29) (argsL := [(.int p2), .null, .null, (.int (0 : Int32))]) (rest := [(.ref b29)]) (lenOf own_pd_4 rfl) rfl (by show 2 * 0 + _ ≤ _; exact Nat.le_of_eq rfl) (hb hby at_78) (fun _ _ => ⟨rfl, e29, (by decide : 4 + 0 ≤ _), (by decide : 12 + 0 ≤ _)⟩)
        dsimp only [Pt.U, Pt.locs, Pt.cells, Pt.slots] at X32 l32 y32 z32 st32 hQ32
        subst l32 y32 z32
        obtain ⟨rfl, Nq32, Kq32, P32_0, P32_1, P32_2⟩ := hQ32
        have N32 := Fr.app N26 Nq32
        have e32 : T32.heap = T32.heap := rfl
        have Z33 := Nat.le_trans Z30 Kq32.1
        have K34 : Keep h0 _ [] := K31.trans Kq32 (allS (P := fun x => x ∈ [] ∨ h0.size ≤ x) (Or.inr sz_b29) all0)
        refine own_tr st32 ?_
        show own_E p e below _ T32 (mkF m 81 #[iv p1, iv p2, iv p3, iv p4, iv p5, iv 0, iv 0, iv 2, rv b26_o0, .val (.null), .val (.null), .unset, .unset] [.ref b29])
        refine own_st (fun t k => XS.astore X32.here hx rfl (hb hby at_81) rfl rfl (l' := #[iv p1, iv p2, iv p3, iv p4, iv p5, iv 0, iv 0, iv 2, rv b26_o0, .val (.null), .val (.null), rv b29, .unset]) rfl k) ?_
        show own_E p e below _ T32 (mkF m 83 #[iv p1, iv p2, iv p3, iv p4, iv p5, iv 0, iv 0, iv 2, rv b26_o0, .val (.null), .val (.null), rv b29, .unset] [])
        refine own_st (fun t k => XS.aload X32.here hx rfl (hb hby at_83) rfl rfl k) ?_
        show own_E p e below _ T32 (mkF m 85 #[iv p1, iv p2, iv p3, iv p4, iv p5, iv 0, iv 0, iv 2, rv b26_o0, .val (.null), .val (.null), rv b29, .unset] [.ref b29])
        obtain ⟨cq35, kq35, q35a, q35b, q35c⟩ := isOf hZ e32 P32_0
        obtain ⟨_, _, ⟨T35, L35, k35, n35⟩, -, X35, ⟨Lc35, hQ35, l35, y35, z35⟩, st35⟩ := X32.virtualBack hx (y := own_y5) (z := own_y5) hown (mvT hZ (own_w hw 47 rfl)) (mvT hZ (own_w hw 48 rfl)) (notFace_of_selects (args := #[]) (mvT hZ (own_w hw 50 rfl))) (mvT hZ (own_w hw 50 rfl)) (mvT hZ (own_w hw 49 rfl)) (by decide) (backOf (W := 0) (own_cur00 l Z a0 hw [] b29 T32.heap n0 Z33 P32_1 P32_2) hZ (own_w hw 51 rfl) (own_w hw 29 rfl) (by decide) (by decide)) q35a q35c (g := (mkF m 85 #[iv p1, iv p2, iv p3, iv p4, iv p5, iv 0, iv 0, iv 2, rv b26_o0, .val (.null), .val (.null), rv b29, .unset] [.ref b29])) rfl (by rw [hml]; rfl) (Steps.refl _) (argsL := []) (rest := []) (lenOf own_pd_0 rfl) rfl (by show 2 * 0 + _ ≤ _; exact Nat.le_of_eq rfl) (hb hby at_85) (fun _ _ => ⟨rfl, e32, (by decide : 4 + 0 ≤ _), (by decide : 12 + 0 ≤ _)⟩)
        dsimp only [Pt.U, Pt.locs, Pt.cells, Pt.slots] at X35 l35 y35 z35 st35 hQ35
        subst l35 y35 z35
        obtain ⟨hR35, e35, rfl⟩ := hQ35
        have N35 := Fr.app N32 (Fr.nil n0)
        obtain rfl := hR35
        refine own_tr st35 ?_
        show own_E p e below _ T35 (mkF m 88 #[iv p1, iv p2, iv p3, iv p4, iv p5, iv 0, iv 0, iv 2, rv b26_o0, .val (.null), .val (.null), rv b29, .unset] [.null])
        refine own_st (fun t k => XS.astore X35.here hx rfl (hb hby at_88) rfl rfl (l' := #[iv p1, iv p2, iv p3, iv p4, iv p5, iv 0, iv 0, iv 2, rv b26_o0, .val (.null), .val (.null), rv b29, .val (.null)]) rfl k) ?_
        show own_E p e below _ T35 (mkF m 90 #[iv p1, iv p2, iv p3, iv p4, iv p5, iv 0, iv 0, iv 2, rv b26_o0, .val (.null), .val (.null), rv b29, .val (.null)] [])
        refine own_st (fun t k => XS.iload X35.here hx rfl (hb hby at_90) rfl k) ?_
        show own_E p e below _ T35 (mkF m 92 #[iv p1, iv p2, iv p3, iv p4, iv p5, iv 0, iv 0, iv 2, rv b26_o0, .val (.null), .val (.null), rv b29, .val (.null)] [.int 0])
        refine own_st (fun t k => XS.ifNo X35.here hx rfl (hb hby at_92) rfl (by decide) k) ?_
        show own_E p e below _ T35 (mkF m 95 #[iv p1, iv p2, iv p3, iv p4, iv p5, iv 0, iv 0, iv 2, rv b26_o0, .val (.null), .val (.null), rv b29, .val (.null)] [])
        refine own_st (fun t k => XS.aload X35.here hx rfl (hb hby at_95) rfl rfl k) ?_
        show own_E p e below _ T35 (mkF m 97 #[iv p1, iv p2, iv p3, iv p4, iv p5, iv 0, iv 0, iv 2, rv b26_o0, .val (.null), .val (.null), rv b29, .val (.null)] [.null])
        refine own_st (fun t k => XS.ifnonnullNo X35.here hx rfl (hb hby at_97) rfl k) ?_
        show own_E p e below _ T35 (mkF m 100 #[iv p1, iv p2, iv p3, iv p4, iv p5, iv 0, iv 0, iv 2, rv b26_o0, .val (.null), .val (.null), rv b29, .val (.null)] [])
        refine own_st (fun t k => XS.iconst X35.here hx rfl (hb hby at_100) k) ?_
        show own_E p e below _ T35 (mkF m 101 #[iv p1, iv p2, iv p3, iv p4, iv p5, iv 0, iv 0, iv 2, rv b26_o0, .val (.null), .val (.null), rv b29, .val (.null)] [.int 1])
        refine own_st (fun t k => XS.goto X35.here hx rfl (pc0 := 101) (pc' := 105) rfl (hb hby at_101) (by decide) (by decide) k) ?_
        show own_E p e below _ T35 (mkF m 105 #[iv p1, iv p2, iv p3, iv p4, iv p5, iv 0, iv 0, iv 2, rv b26_o0, .val (.null), .val (.null), rv b29, .val (.null)] [.int 1])
        refine own_retSW X35 (own_since s) (by rw [e35]; exact (Nat.zero_le _)) hx Bd.notSynchronized Bd.returns rfl (by decide) (hb hby at_105) (by decide) (by decide) ?_
        exact ⟨rfl, N35⟩
    · refine own_st (fun t k => XS.ifNo X0.here hx rfl (hb hby at_12) rfl ((if0 _ _).trans (feq hc2).1) k) ?_
      show own_E p e below _ s₁ (mkF m 15 #[iv p1, iv p2, iv p3, iv p4, iv p5, iv 0, .unset, .unset, .unset, .unset, .unset, .unset, .unset] [])
      refine own_st (fun t k => XS.iconst X0.here hx rfl (hb hby at_15) k) ?_
      show own_E p e below _ s₁ (mkF m 16 #[iv p1, iv p2, iv p3, iv p4, iv p5, iv 0, .unset, .unset, .unset, .unset, .unset, .unset, .unset] [.int 1])
      refine own_st (fun t k => XS.goto X0.here hx rfl (pc0 := 16) (pc' := 20) rfl (hb hby at_16) (by decide) (by decide) k) ?_
      show own_E p e below _ s₁ (mkF m 20 #[iv p1, iv p2, iv p3, iv p4, iv p5, iv 0, .unset, .unset, .unset, .unset, .unset, .unset, .unset] [.int 1])
      refine own_st (fun t k => XS.istore X0.here hx rfl (hb hby at_20) rfl (l' := #[iv p1, iv p2, iv p3, iv p4, iv p5, iv 0, iv 1, .unset, .unset, .unset, .unset, .unset, .unset]) rfl k) ?_
      show own_E p e below _ s₁ (mkF m 22 #[iv p1, iv p2, iv p3, iv p4, iv p5, iv 0, iv 1, .unset, .unset, .unset, .unset, .unset, .unset] [])
      refine own_st (fun t k => XS.iload X0.here hx rfl (hb hby at_22) rfl k) ?_
      show own_E p e below _ s₁ (mkF m 24 #[iv p1, iv p2, iv p3, iv p4, iv p5, iv 0, iv 1, .unset, .unset, .unset, .unset, .unset, .unset] [.int p5])
      refine own_st (fun t k => XS.iconst X0.here hx rfl (hb hby at_24) k) ?_
      show own_E p e below _ s₁ (mkF m 25 #[iv p1, iv p2, iv p3, iv p4, iv p5, iv 0, iv 1, .unset, .unset, .unset, .unset, .unset, .unset] [.int 1, .int p5])
      refine own_st (fun t k => XS.iushr X0.here hx rfl (hb hby at_25) rfl k) ?_
      show own_E p e below _ s₁ (mkF m 26 #[iv p1, iv p2, iv p3, iv p4, iv p5, iv 0, iv 1, .unset, .unset, .unset, .unset, .unset, .unset] [.int ((p5.toUInt32 >>> ((1 : Int32) &&& 31).toUInt32).toInt32)])
      refine own_st (fun t k => XS.iconst X0.here hx rfl (hb hby at_26) k) ?_
      show own_E p e below _ s₁ (mkF m 27 #[iv p1, iv p2, iv p3, iv p4, iv p5, iv 0, iv 1, .unset, .unset, .unset, .unset, .unset, .unset] [.int 3, .int ((p5.toUInt32 >>> ((1 : Int32) &&& 31).toUInt32).toInt32)])
      refine own_st (fun t k => iremM X0 hx rfl (hb hby at_27) rfl (by decide) k) ?_
      show own_E p e below _ s₁ (mkF m 28 #[iv p1, iv p2, iv p3, iv p4, iv p5, iv 0, iv 1, .unset, .unset, .unset, .unset, .unset, .unset] [.int (((p5.toUInt32 >>> ((1 : Int32) &&& 31).toUInt32).toInt32) % (3 : Int32))])
      refine own_st (fun t k => XS.istore X0.here hx rfl (hb hby at_28) rfl (l' := #[iv p1, iv p2, iv p3, iv p4, iv p5, iv 0, iv 1, iv (((p5.toUInt32 >>> ((1 : Int32) &&& 31).toUInt32).toInt32) % (3 : Int32)), .unset, .unset, .unset, .unset, .unset]) rfl k) ?_
      show own_E p e below _ s₁ (mkF m 30 #[iv p1, iv p2, iv p3, iv p4, iv p5, iv 0, iv 1, iv (((p5.toUInt32 >>> ((1 : Int32) &&& 31).toUInt32).toInt32) % (3 : Int32)), .unset, .unset, .unset, .unset, .unset] [])
      rcases own_len3 p5 with hs36 | hs36 | hs36
      · rw [hs36]
        show own_E p e below _ s₁ (mkF m 30 #[iv p1, iv p2, iv p3, iv p4, iv p5, iv 0, iv 1, iv 0, .unset, .unset, .unset, .unset, .unset] [])
        refine own_st (fun t k => XS.iload X0.here hx rfl (hb hby at_30) rfl k) ?_
        show own_E p e below _ s₁ (mkF m 32 #[iv p1, iv p2, iv p3, iv p4, iv p5, iv 0, iv 1, iv 0, .unset, .unset, .unset, .unset, .unset] [.int 0])
        refine own_st (fun t k => XS.iloadN X0.here hx rfl (hb hby at_32) rfl k) ?_
        show own_E p e below _ s₁ (mkF m 33 #[iv p1, iv p2, iv p3, iv p4, iv p5, iv 0, iv 1, iv 0, .unset, .unset, .unset, .unset, .unset] [.int p3, .int 0])
        refine own_st (fun t k => XS.iloadN X0.here hx rfl (hb hby at_33) rfl k) ?_
        show own_E p e below _ s₁ (mkF m 34 #[iv p1, iv p2, iv p3, iv p4, iv p5, iv 0, iv 1, iv 0, .unset, .unset, .unset, .unset, .unset] [.int p4, .int p3, .int 0])
        obtain ⟨_, _, ⟨T37, L37, k37, n37⟩, -, X37, hS37, hgr37, ⟨Lc37, hQ37, l37, y37, z37⟩, st37⟩ := callSS X0 hx (y := own_y3) hown (mvT hZ (own_w hw 1 rfl)) (mvT hZ (own_w hw 2 rfl)) (mvT hZ (own_w hw 3 rfl)) (mvT hZ (own_w hw 4 rfl)) (by decide) (own_backI (W := 0) (own_drawn0 l Z a0 hw [] p3 p4 h0 n0 Z0 hO hheld hcw) hZ hI (own_w hw 4 rfl) (own_w hw 3 rfl) (by decide) (by decide)) (g := (mkF m 34 #[iv p1, iv p2, iv p3, iv p4, iv p5, iv 0, iv 1, iv 0, .unset, .unset, .unset, .unset, .unset] [.int p4, .int p3, .int 0])) rfl (by rw [hml]; rfl) (argsL := [(.int (0 : Int32)), (.int p3), (.int p4)]) (rest := []) (lenOf own_pd_2 rfl) rfl (by show 2 * 0 + _ ≤ _; exact Nat.le_of_eq rfl) (hb hby at_34) (fun _ _ => ⟨rfl, e0, (by decide : 0 + 4 ≤ _), (by decide : 0 + 8 ≤ _)⟩)
        dsimp only [Pt.U, Pt.locs, Pt.cells, Pt.slots] at X37 l37 y37 z37 st37 hQ37 hS37 hgr37
        subst l37 y37 z37
        have hZ37 := own_Zw hZ hS37
        have ho37 := own_ow hown hS37
        have hk37 := Nat.le_refl T37.heap.size
        obtain ⟨b37_o0, rfl, Nq37, Kq37, sz37_0, P37_0⟩ := hQ37
        have N37 := Fr.app (Fr.nil n0) Nq37
        have g_b37_o0 : n0 ≤ b37_o0 := Nat.le_trans Z0 sz37_0
        have sz_b37_o0 : h0.size ≤ b37_o0 := Nat.le_trans (Keep.refl h0 []).1 sz37_0
        have e37 : T37.heap = T37.heap := rfl
        have Z38 := Nat.le_trans Z0 Kq37.1
        have K39 : Keep h0 _ [] := (Keep.refl h0 []).trans Kq37 all0
        refine own_tr st37 ?_
        show own_E p e below _ T37 (mkF m 37 #[iv p1, iv p2, iv p3, iv p4, iv p5, iv 0, iv 1, iv 0, .unset, .unset, .unset, .unset, .unset] [.ref b37_o0])
        refine own_st (fun t k => XS.astore X37.here hx rfl (hb hby at_37) rfl rfl (l' := #[iv p1, iv p2, iv p3, iv p4, iv p5, iv 0, iv 1, iv 0, rv b37_o0, .unset, .unset, .unset, .unset]) rfl k) ?_
        show own_E p e below _ T37 (mkF m 39 #[iv p1, iv p2, iv p3, iv p4, iv p5, iv 0, iv 1, iv 0, rv b37_o0, .unset, .unset, .unset, .unset] [])
        refine own_st (fun t k => XS.iload X37.here hx rfl (hb hby at_39) rfl k) ?_
        show own_E p e below _ T37 (mkF m 41 #[iv p1, iv p2, iv p3, iv p4, iv p5, iv 0, iv 1, iv 0, rv b37_o0, .unset, .unset, .unset, .unset] [.int 0])
        refine own_st (fun t k => XS.iconst X37.here hx rfl (hb hby at_41) k) ?_
        show own_E p e below _ T37 (mkF m 42 #[iv p1, iv p2, iv p3, iv p4, iv p5, iv 0, iv 1, iv 0, rv b37_o0, .unset, .unset, .unset, .unset] [.int 1, .int 0])
        refine own_st (fun t k => XS.icmpYes X37.here hx rfl (pc0 := 42) (pc' := 50) rfl (hb hby at_42) rfl (by decide) (by decide) (by decide) k) ?_
        show own_E p e below _ T37 (mkF m 50 #[iv p1, iv p2, iv p3, iv p4, iv p5, iv 0, iv 1, iv 0, rv b37_o0, .unset, .unset, .unset, .unset] [])
        refine own_st (fun t k => XS.aconstNull X37.here hx rfl (hb hby at_50) k) ?_
        show own_E p e below _ T37 (mkF m 51 #[iv p1, iv p2, iv p3, iv p4, iv p5, iv 0, iv 1, iv 0, rv b37_o0, .unset, .unset, .unset, .unset] [.null])
        refine own_st (fun t k => XS.astore X37.here hx rfl (hb hby at_51) rfl rfl (l' := #[iv p1, iv p2, iv p3, iv p4, iv p5, iv 0, iv 1, iv 0, rv b37_o0, .val (.null), .unset, .unset, .unset]) rfl k) ?_
        show own_E p e below _ T37 (mkF m 53 #[iv p1, iv p2, iv p3, iv p4, iv p5, iv 0, iv 1, iv 0, rv b37_o0, .val (.null), .unset, .unset, .unset] [])
        refine own_st (fun t k => XS.iload X37.here hx rfl (hb hby at_53) rfl k) ?_
        show own_E p e below _ T37 (mkF m 55 #[iv p1, iv p2, iv p3, iv p4, iv p5, iv 0, iv 1, iv 0, rv b37_o0, .val (.null), .unset, .unset, .unset] [.int 0])
        refine own_st (fun t k => XS.iconst X37.here hx rfl (hb hby at_55) k) ?_
        show own_E p e below _ T37 (mkF m 56 #[iv p1, iv p2, iv p3, iv p4, iv p5, iv 0, iv 1, iv 0, rv b37_o0, .val (.null), .unset, .unset, .unset] [.int 2, .int 0])
        refine own_st (fun t k => XS.icmpYes X37.here hx rfl (pc0 := 56) (pc' := 64) rfl (hb hby at_56) rfl (by decide) (by decide) (by decide) k) ?_
        show own_E p e below _ T37 (mkF m 64 #[iv p1, iv p2, iv p3, iv p4, iv p5, iv 0, iv 1, iv 0, rv b37_o0, .val (.null), .unset, .unset, .unset] [])
        refine own_st (fun t k => XS.aconstNull X37.here hx rfl (hb hby at_64) k) ?_
        show own_E p e below _ T37 (mkF m 65 #[iv p1, iv p2, iv p3, iv p4, iv p5, iv 0, iv 1, iv 0, rv b37_o0, .val (.null), .unset, .unset, .unset] [.null])
        refine own_st (fun t k => XS.astore X37.here hx rfl (hb hby at_65) rfl rfl (l' := #[iv p1, iv p2, iv p3, iv p4, iv p5, iv 0, iv 1, iv 0, rv b37_o0, .val (.null), .val (.null), .unset, .unset]) rfl k) ?_
        show own_E p e below _ T37 (mkF m 67 #[iv p1, iv p2, iv p3, iv p4, iv p5, iv 0, iv 1, iv 0, rv b37_o0, .val (.null), .val (.null), .unset, .unset] [])
        obtain ⟨T40, h40, X40, e40, E40, A40, D40, -, st40⟩ := newO X37 hx hZ37 ho37 (own_w hw 27 rfl) (own_w hw 28 rfl) (own_w hw 29 rfl) e37 (g := (mkF m 67 #[iv p1, iv p2, iv p3, iv p4, iv p5, iv 0, iv 1, iv 0, rv b37_o0, .val (.null), .val (.null), .unset, .unset] [])) rfl (hb hby at_67) (by decide) (by decide)
        obtain ⟨b40, g40⟩ : ∃ z, z = T37.heap.size := ⟨_, rfl⟩
        rw [← g40] at A40 D40 st40
        have ne_b37_o0_b40 : b37_o0 ≠ b40 := Nat.ne_of_lt (Nat.lt_of_lt_of_le P37_0.lt (Nat.le_of_eq g40.symm))
        have g_b40 : n0 ≤ b40 := Nat.le_trans Z38 (Nat.le_of_eq g40.symm)
        have sz_b40 : h0.size ≤ b40 := Nat.le_trans K39.1 (Nat.le_of_eq g40.symm)
        have Z41 := Nat.le_trans Z38 E40.1
        have hk42 := Nat.le_trans hk37 E40.1
        have K43 : Keep h0 _ [] := K39.ext E40
        have F_limit_b40 : Fld Z h40 b40 "com/example/acquirer/acquirer/PageRequest" "limit" "I" (.int (0 : Int32)) := D40 (Or.inr (own_w hw 40 rfl)) (ty := .int) (by decide)
        have F_startingAfter_b40 : Fld Z h40 b40 "com/example/acquirer/acquirer/PageRequest" "startingAfter" "Ljava/lang/String;" .null := D40 (Or.inr (own_w hw 42 rfl)) (ty := (.object "java/lang/String")) (by decide)
        have F_endingBefore_b40 : Fld Z h40 b40 "com/example/acquirer/acquirer/PageRequest" "endingBefore" "Ljava/lang/String;" .null := D40 (Or.inr (own_w hw 44 rfl)) (ty := (.object "java/lang/String")) (by decide)
        have F_descending_b40 : Fld Z h40 b40 "com/example/acquirer/acquirer/PageRequest" "descending" "Z" (.int (0 : Int32)) := D40 (Or.inr (own_w hw 46 rfl)) (ty := .boolean) (by decide)
        refine own_st st40 ?_
        show own_E p e below _ T40 (mkF m 70 #[iv p1, iv p2, iv p3, iv p4, iv p5, iv 0, iv 1, iv 0, rv b37_o0, .val (.null), .val (.null), .unset, .unset] [.ref b40])
        refine own_st (fun t k => XS.dup X40.here hx rfl (hb hby at_70) rfl rfl k) ?_
        show own_E p e below _ T40 (mkF m 71 #[iv p1, iv p2, iv p3, iv p4, iv p5, iv 0, iv 1, iv 0, rv b37_o0, .val (.null), .val (.null), .unset, .unset] [.ref b40, .ref b40])
        refine own_st (fun t k => XS.iloadN X40.here hx rfl (hb hby at_71) rfl k) ?_
        show own_E p e below _ T40 (mkF m 72 #[iv p1, iv p2, iv p3, iv p4, iv p5, iv 0, iv 1, iv 0, rv b37_o0, .val (.null), .val (.null), .unset, .unset] [.int p2, .ref b40, .ref b40])
        refine own_st (fun t k => XS.aload X40.here hx rfl (hb hby at_72) rfl rfl k) ?_
        show own_E p e below _ T40 (mkF m 74 #[iv p1, iv p2, iv p3, iv p4, iv p5, iv 0, iv 1, iv 0, rv b37_o0, .val (.null), .val (.null), .unset, .unset] [.null, .int p2, .ref b40, .ref b40])
        refine own_st (fun t k => XS.aload X40.here hx rfl (hb hby at_74) rfl rfl k) ?_
        show own_E p e below _ T40 (mkF m 76 #[iv p1, iv p2, iv p3, iv p4, iv p5, iv 0, iv 1, iv 0, rv b37_o0, .val (.null), .val (.null), .unset, .unset] [.null, .null, .int p2, .ref b40, .ref b40])
        refine own_st (fun t k => XS.iload X40.here hx rfl (hb hby at_76) rfl k) ?_
        show own_E p e below _ T40 (mkF m 78 #[iv p1, iv p2, iv p3, iv p4, iv p5, iv 0, iv 1, iv 0, rv b37_o0, .val (.null), .val (.null), .unset, .unset] [.int 1, .null, .null, .int p2, .ref b40, .ref b40])
        obtain ⟨_, _, ⟨T44, L44, k44, n44⟩, -, X44, ⟨Lc44, hQ44, l44, y44, z44⟩, st44⟩ := X40.specialBack hx (y := own_y4) rfl ho37 (mvT hZ37 (own_w hw 30 rfl)) (mvT hZ37 (own_w hw 31 rfl)) (mvT hZ37 (own_w hw 32 rfl)) (by decide) (backOf (W := 1) (own_init001 l Z a0 hw [] b40 p2 h40 n0 Z41 A40 F_limit_b40 F_startingAfter_b40 F_endingBefore_b40 F_descending_b40 g_b40) hZ37 (own_w hw 32 rfl) (own_w hw 29 rfl) (by decide) (by decide)) (g := (mkF m 78 #[iv p1, iv p2, iv p3, iv p4, iv p5, iv 0, iv 1, iv 0, rv b37_o0, .val (.null), .val (.null), .unset, .unset] [.int 1, .null, .null, .int p2, .ref b40, .ref b40])) rfl (by rw [hml]; rfl) (Steps.refl _) (a := b40) (argsL := [(.int p2), .null, .null, (.int (1 : Int32))]) (rest := [(.ref b40)]) (lenOf own_pd_4 rfl) rfl (by show 2 * 0 + _ ≤ _; exact Nat.le_of_eq rfl) (hb hby at_78) (fun _ _ => ⟨rfl, e40, (by decide : 5 + 0 ≤ _), (by decide : 12 + 0 ≤ _)⟩)
        dsimp only [Pt.U, Pt.locs, Pt.cells, Pt.slots] at X44 l44 y44 z44 st44 hQ44
        subst l44 y44 z44
        obtain ⟨rfl, Nq44, Kq44, P44_0, P44_1, P44_2⟩ := hQ44
        have N44 := Fr.app N37 Nq44
        have e44 : T44.heap = T44.heap := rfl
        have Z45 := Nat.le_trans Z41 Kq44.1
        have hk46 := Nat.le_trans hk42 Kq44.1
        have K47 : Keep h0 _ [] := K43.trans Kq44 (allS (P := fun x => x ∈ [] ∨ h0.size ≤ x) (Or.inr sz_b40) all0)
        refine own_tr st44 ?_
        show own_E p e below _ T44 (mkF m 81 #[iv p1, iv p2, iv p3, iv p4, iv p5, iv 0, iv 1, iv 0, rv b37_o0, .val (.null), .val (.null), .unset, .unset] [.ref b40])
        refine own_st (fun t k => XS.astore X44.here hx rfl (hb hby at_81) rfl rfl (l' := #[iv p1, iv p2, iv p3, iv p4, iv p5, iv 0, iv 1, iv 0, rv b37_o0, .val (.null), .val (.null), rv b40, .unset]) rfl k) ?_
        show own_E p e below _ T44 (mkF m 83 #[iv p1, iv p2, iv p3, iv p4, iv p5, iv 0, iv 1, iv 0, rv b37_o0, .val (.null), .val (.null), rv b40, .unset] [])
        refine own_st (fun t k => XS.aload X44.here hx rfl (hb hby at_83) rfl rfl k) ?_
        show own_E p e below _ T44 (mkF m 85 #[iv p1, iv p2, iv p3, iv p4, iv p5, iv 0, iv 1, iv 0, rv b37_o0, .val (.null), .val (.null), rv b40, .unset] [.ref b40])
        obtain ⟨cq48, kq48, q48a, q48b, q48c⟩ := isOf hZ37 e44 P44_0
        obtain ⟨_, _, ⟨T48, L48, k48, n48⟩, -, X48, ⟨Lc48, hQ48, l48, y48, z48⟩, st48⟩ := X44.virtualBack hx (y := own_y5) (z := own_y5) ho37 (mvT hZ37 (own_w hw 47 rfl)) (mvT hZ37 (own_w hw 48 rfl)) (notFace_of_selects (args := #[]) (mvT hZ37 (own_w hw 50 rfl))) (mvT hZ37 (own_w hw 50 rfl)) (mvT hZ37 (own_w hw 49 rfl)) (by decide) (backOf (W := 0) (own_cur00 l Z a0 hw [] b40 T44.heap n0 Z45 P44_1 P44_2) hZ37 (own_w hw 51 rfl) (own_w hw 29 rfl) (by decide) (by decide)) q48a q48c (g := (mkF m 85 #[iv p1, iv p2, iv p3, iv p4, iv p5, iv 0, iv 1, iv 0, rv b37_o0, .val (.null), .val (.null), rv b40, .unset] [.ref b40])) rfl (by rw [hml]; rfl) (Steps.refl _) (argsL := []) (rest := []) (lenOf own_pd_0 rfl) rfl (by show 2 * 0 + _ ≤ _; exact Nat.le_of_eq rfl) (hb hby at_85) (fun _ _ => ⟨rfl, e44, (by decide : 5 + 0 ≤ _), (by decide : 12 + 0 ≤ _)⟩)
        dsimp only [Pt.U, Pt.locs, Pt.cells, Pt.slots] at X48 l48 y48 z48 st48 hQ48
        subst l48 y48 z48
        obtain ⟨hR48, e48, rfl⟩ := hQ48
        have N48 := Fr.app N44 (Fr.nil n0)
        obtain rfl := hR48
        refine own_tr st48 ?_
        show own_E p e below _ T48 (mkF m 88 #[iv p1, iv p2, iv p3, iv p4, iv p5, iv 0, iv 1, iv 0, rv b37_o0, .val (.null), .val (.null), rv b40, .unset] [.null])
        refine own_st (fun t k => XS.astore X48.here hx rfl (hb hby at_88) rfl rfl (l' := #[iv p1, iv p2, iv p3, iv p4, iv p5, iv 0, iv 1, iv 0, rv b37_o0, .val (.null), .val (.null), rv b40, .val (.null)]) rfl k) ?_
        show own_E p e below _ T48 (mkF m 90 #[iv p1, iv p2, iv p3, iv p4, iv p5, iv 0, iv 1, iv 0, rv b37_o0, .val (.null), .val (.null), rv b40, .val (.null)] [])
        refine own_st (fun t k => XS.iload X48.here hx rfl (hb hby at_90) rfl k) ?_
        show own_E p e below _ T48 (mkF m 92 #[iv p1, iv p2, iv p3, iv p4, iv p5, iv 0, iv 1, iv 0, rv b37_o0, .val (.null), .val (.null), rv b40, .val (.null)] [.int 0])
        refine own_st (fun t k => XS.ifNo X48.here hx rfl (hb hby at_92) rfl (by decide) k) ?_
        show own_E p e below _ T48 (mkF m 95 #[iv p1, iv p2, iv p3, iv p4, iv p5, iv 0, iv 1, iv 0, rv b37_o0, .val (.null), .val (.null), rv b40, .val (.null)] [])
        refine own_st (fun t k => XS.aload X48.here hx rfl (hb hby at_95) rfl rfl k) ?_
        show own_E p e below _ T48 (mkF m 97 #[iv p1, iv p2, iv p3, iv p4, iv p5, iv 0, iv 1, iv 0, rv b37_o0, .val (.null), .val (.null), rv b40, .val (.null)] [.null])
        refine own_st (fun t k => XS.ifnonnullNo X48.here hx rfl (hb hby at_97) rfl k) ?_
        show own_E p e below _ T48 (mkF m 100 #[iv p1, iv p2, iv p3, iv p4, iv p5, iv 0, iv 1, iv 0, rv b37_o0, .val (.null), .val (.null), rv b40, .val (.null)] [])
        refine own_st (fun t k => XS.iconst X48.here hx rfl (hb hby at_100) k) ?_
        show own_E p e below _ T48 (mkF m 101 #[iv p1, iv p2, iv p3, iv p4, iv p5, iv 0, iv 1, iv 0, rv b37_o0, .val (.null), .val (.null), rv b40, .val (.null)] [.int 1])
        refine own_st (fun t k => XS.goto X48.here hx rfl (pc0 := 101) (pc' := 105) rfl (hb hby at_101) (by decide) (by decide) k) ?_
        show own_E p e below _ T48 (mkF m 105 #[iv p1, iv p2, iv p3, iv p4, iv p5, iv 0, iv 1, iv 0, rv b37_o0, .val (.null), .val (.null), rv b40, .val (.null)] [.int 1])
        refine own_retSW X48 hS37 (by rw [e48]; exact hk46) hx Bd.notSynchronized Bd.returns rfl (by decide) (hb hby at_105) (by decide) (by decide) ?_
        exact ⟨rfl, N48⟩
      · rw [hs36]
        show own_E p e below _ s₁ (mkF m 30 #[iv p1, iv p2, iv p3, iv p4, iv p5, iv 0, iv 1, iv 1, .unset, .unset, .unset, .unset, .unset] [])
        refine own_st (fun t k => XS.iload X0.here hx rfl (hb hby at_30) rfl k) ?_
        show own_E p e below _ s₁ (mkF m 32 #[iv p1, iv p2, iv p3, iv p4, iv p5, iv 0, iv 1, iv 1, .unset, .unset, .unset, .unset, .unset] [.int 1])
        refine own_st (fun t k => XS.iloadN X0.here hx rfl (hb hby at_32) rfl k) ?_
        show own_E p e below _ s₁ (mkF m 33 #[iv p1, iv p2, iv p3, iv p4, iv p5, iv 0, iv 1, iv 1, .unset, .unset, .unset, .unset, .unset] [.int p3, .int 1])
        refine own_st (fun t k => XS.iloadN X0.here hx rfl (hb hby at_33) rfl k) ?_
        show own_E p e below _ s₁ (mkF m 34 #[iv p1, iv p2, iv p3, iv p4, iv p5, iv 0, iv 1, iv 1, .unset, .unset, .unset, .unset, .unset] [.int p4, .int p3, .int 1])
        obtain ⟨_, _, ⟨T49, L49, k49, n49⟩, -, X49, ⟨Lc49, hQ49, l49, y49, z49⟩, st49⟩ := Jvm.LawKit.callS X0 hx (y := own_y3) hown (mvT hZ (own_w hw 1 rfl)) (mvT hZ (own_w hw 2 rfl)) (mvT hZ (own_w hw 3 rfl)) (mvT hZ (own_w hw 4 rfl)) (by decide) (backOf (W := 0) (own_drawn1 l Z a0 hw [] zc p3 p4 h0 n0 Z0 SC hzc) hZ (own_w hw 4 rfl) (own_w hw 3 rfl) (by decide) (by decide)) (g := (mkF m 34 #[iv p1, iv p2, iv p3, iv p4, iv p5, iv 0, iv 1, iv 1, .unset, .unset, .unset, .unset, .unset] [.int p4, .int p3, .int 1])) rfl (by rw [hml]; rfl) (argsL := [(.int (1 : Int32)), (.int p3), (.int p4)]) (rest := []) (lenOf own_pd_2 rfl) rfl (by show 2 * 0 + _ ≤ _; exact Nat.le_of_eq rfl) (hb hby at_34) (fun _ _ => ⟨rfl, e0, (by decide : 0 + 3 ≤ _), (by decide : 0 + 6 ≤ _)⟩)
        dsimp only [Pt.U, Pt.locs, Pt.cells, Pt.slots] at X49 l49 y49 z49 st49 hQ49
        subst l49 y49 z49
        obtain ⟨b49_o0, rfl, Nq49, Kq49, sz49_0, P49_0⟩ := hQ49
        have N49 := Fr.app (Fr.nil n0) Nq49
        have g_b49_o0 : n0 ≤ b49_o0 := Nat.le_trans Z0 sz49_0
        have sz_b49_o0 : h0.size ≤ b49_o0 := Nat.le_trans (Keep.refl h0 []).1 sz49_0
        have e49 : T49.heap = T49.heap := rfl
        have Z50 := Nat.le_trans Z0 Kq49.1
        have K51 : Keep h0 _ [] := (Keep.refl h0 []).trans Kq49 all0
        refine own_st st49 ?_
        show own_E p e below _ T49 (mkF m 37 #[iv p1, iv p2, iv p3, iv p4, iv p5, iv 0, iv 1, iv 1, .unset, .unset, .unset, .unset, .unset] [.ref b49_o0])
        refine own_st (fun t k => XS.astore X49.here hx rfl (hb hby at_37) rfl rfl (l' := #[iv p1, iv p2, iv p3, iv p4, iv p5, iv 0, iv 1, iv 1, rv b49_o0, .unset, .unset, .unset, .unset]) rfl k) ?_
        show own_E p e below _ T49 (mkF m 39 #[iv p1, iv p2, iv p3, iv p4, iv p5, iv 0, iv 1, iv 1, rv b49_o0, .unset, .unset, .unset, .unset] [])
        refine own_st (fun t k => XS.iload X49.here hx rfl (hb hby at_39) rfl k) ?_
        show own_E p e below _ T49 (mkF m 41 #[iv p1, iv p2, iv p3, iv p4, iv p5, iv 0, iv 1, iv 1, rv b49_o0, .unset, .unset, .unset, .unset] [.int 0])
        refine own_st (fun t k => XS.iconst X49.here hx rfl (hb hby at_41) k) ?_
        show own_E p e below _ T49 (mkF m 42 #[iv p1, iv p2, iv p3, iv p4, iv p5, iv 0, iv 1, iv 1, rv b49_o0, .unset, .unset, .unset, .unset] [.int 1, .int 0])
        refine own_st (fun t k => XS.icmpYes X49.here hx rfl (pc0 := 42) (pc' := 50) rfl (hb hby at_42) rfl (by decide) (by decide) (by decide) k) ?_
        show own_E p e below _ T49 (mkF m 50 #[iv p1, iv p2, iv p3, iv p4, iv p5, iv 0, iv 1, iv 1, rv b49_o0, .unset, .unset, .unset, .unset] [])
        refine own_st (fun t k => XS.aconstNull X49.here hx rfl (hb hby at_50) k) ?_
        show own_E p e below _ T49 (mkF m 51 #[iv p1, iv p2, iv p3, iv p4, iv p5, iv 0, iv 1, iv 1, rv b49_o0, .unset, .unset, .unset, .unset] [.null])
        refine own_st (fun t k => XS.astore X49.here hx rfl (hb hby at_51) rfl rfl (l' := #[iv p1, iv p2, iv p3, iv p4, iv p5, iv 0, iv 1, iv 1, rv b49_o0, .val (.null), .unset, .unset, .unset]) rfl k) ?_
        show own_E p e below _ T49 (mkF m 53 #[iv p1, iv p2, iv p3, iv p4, iv p5, iv 0, iv 1, iv 1, rv b49_o0, .val (.null), .unset, .unset, .unset] [])
        refine own_st (fun t k => XS.iload X49.here hx rfl (hb hby at_53) rfl k) ?_
        show own_E p e below _ T49 (mkF m 55 #[iv p1, iv p2, iv p3, iv p4, iv p5, iv 0, iv 1, iv 1, rv b49_o0, .val (.null), .unset, .unset, .unset] [.int 0])
        refine own_st (fun t k => XS.iconst X49.here hx rfl (hb hby at_55) k) ?_
        show own_E p e below _ T49 (mkF m 56 #[iv p1, iv p2, iv p3, iv p4, iv p5, iv 0, iv 1, iv 1, rv b49_o0, .val (.null), .unset, .unset, .unset] [.int 2, .int 0])
        refine own_st (fun t k => XS.icmpYes X49.here hx rfl (pc0 := 56) (pc' := 64) rfl (hb hby at_56) rfl (by decide) (by decide) (by decide) k) ?_
        show own_E p e below _ T49 (mkF m 64 #[iv p1, iv p2, iv p3, iv p4, iv p5, iv 0, iv 1, iv 1, rv b49_o0, .val (.null), .unset, .unset, .unset] [])
        refine own_st (fun t k => XS.aconstNull X49.here hx rfl (hb hby at_64) k) ?_
        show own_E p e below _ T49 (mkF m 65 #[iv p1, iv p2, iv p3, iv p4, iv p5, iv 0, iv 1, iv 1, rv b49_o0, .val (.null), .unset, .unset, .unset] [.null])
        refine own_st (fun t k => XS.astore X49.here hx rfl (hb hby at_65) rfl rfl (l' := #[iv p1, iv p2, iv p3, iv p4, iv p5, iv 0, iv 1, iv 1, rv b49_o0, .val (.null), .val (.null), .unset, .unset]) rfl k) ?_
        show own_E p e below _ T49 (mkF m 67 #[iv p1, iv p2, iv p3, iv p4, iv p5, iv 0, iv 1, iv 1, rv b49_o0, .val (.null), .val (.null), .unset, .unset] [])
        obtain ⟨T52, h52, X52, e52, E52, A52, D52, -, st52⟩ := newO X49 hx hZ hown (own_w hw 27 rfl) (own_w hw 28 rfl) (own_w hw 29 rfl) e49 (g := (mkF m 67 #[iv p1, iv p2, iv p3, iv p4, iv p5, iv 0, iv 1, iv 1, rv b49_o0, .val (.null), .val (.null), .unset, .unset] [])) rfl (hb hby at_67) (by decide) (by decide)
        obtain ⟨b52, g52⟩ : ∃ z, z = T49.heap.size := ⟨_, rfl⟩
        rw [← g52] at A52 D52 st52
        have ne_b49_o0_b52 : b49_o0 ≠ b52 := Nat.ne_of_lt (Nat.lt_of_lt_of_le P49_0.lt (Nat.le_of_eq g52.symm))
        have g_b52 : n0 ≤ b52 := Nat.le_trans Z50 (Nat.le_of_eq g52.symm)
        have sz_b52 : h0.size ≤ b52 := Nat.le_trans K51.1 (Nat.le_of_eq g52.symm)
        have Z53 := Nat.le_trans Z50 E52.1
        have K54 : Keep h0 _ [] := K51.ext E52
        have F_limit_b52 : Fld Z h52 b52 "com/example/acquirer/acquirer/PageRequest" "limit" "I" (.int (0 : Int32)) := D52 (Or.inr (own_w hw 40 rfl)) (ty := .int) (by decide)
        have F_startingAfter_b52 : Fld Z h52 b52 "com/example/acquirer/acquirer/PageRequest" "startingAfter" "Ljava/lang/String;" .null := D52 (Or.inr (own_w hw 42 rfl)) (ty := (.object "java/lang/String")) (by decide)
        have F_endingBefore_b52 : Fld Z h52 b52 "com/example/acquirer/acquirer/PageRequest" "endingBefore" "Ljava/lang/String;" .null := D52 (Or.inr (own_w hw 44 rfl)) (ty := (.object "java/lang/String")) (by decide)
        have F_descending_b52 : Fld Z h52 b52 "com/example/acquirer/acquirer/PageRequest" "descending" "Z" (.int (0 : Int32)) := D52 (Or.inr (own_w hw 46 rfl)) (ty := .boolean) (by decide)
        refine own_st st52 ?_
        show own_E p e below _ T52 (mkF m 70 #[iv p1, iv p2, iv p3, iv p4, iv p5, iv 0, iv 1, iv 1, rv b49_o0, .val (.null), .val (.null), .unset, .unset] [.ref b52])
        refine own_st (fun t k => XS.dup X52.here hx rfl (hb hby at_70) rfl rfl k) ?_
        show own_E p e below _ T52 (mkF m 71 #[iv p1, iv p2, iv p3, iv p4, iv p5, iv 0, iv 1, iv 1, rv b49_o0, .val (.null), .val (.null), .unset, .unset] [.ref b52, .ref b52])
        refine own_st (fun t k => XS.iloadN X52.here hx rfl (hb hby at_71) rfl k) ?_
        show own_E p e below _ T52 (mkF m 72 #[iv p1, iv p2, iv p3, iv p4, iv p5, iv 0, iv 1, iv 1, rv b49_o0, .val (.null), .val (.null), .unset, .unset] [.int p2, .ref b52, .ref b52])
        refine own_st (fun t k => XS.aload X52.here hx rfl (hb hby at_72) rfl rfl k) ?_
        show own_E p e below _ T52 (mkF m 74 #[iv p1, iv p2, iv p3, iv p4, iv p5, iv 0, iv 1, iv 1, rv b49_o0, .val (.null), .val (.null), .unset, .unset] [.null, .int p2, .ref b52, .ref b52])
        refine own_st (fun t k => XS.aload X52.here hx rfl (hb hby at_74) rfl rfl k) ?_
        show own_E p e below _ T52 (mkF m 76 #[iv p1, iv p2, iv p3, iv p4, iv p5, iv 0, iv 1, iv 1, rv b49_o0, .val (.null), .val (.null), .unset, .unset] [.null, .null, .int p2, .ref b52, .ref b52])
        refine own_st (fun t k => XS.iload X52.here hx rfl (hb hby at_76) rfl k) ?_
        show own_E p e below _ T52 (mkF m 78 #[iv p1, iv p2, iv p3, iv p4, iv p5, iv 0, iv 1, iv 1, rv b49_o0, .val (.null), .val (.null), .unset, .unset] [.int 1, .null, .null, .int p2, .ref b52, .ref b52])
        obtain ⟨_, _, ⟨T55, L55, k55, n55⟩, -, X55, ⟨Lc55, hQ55, l55, y55, z55⟩, st55⟩ := X52.specialBack hx (y := own_y4) rfl hown (mvT hZ (own_w hw 30 rfl)) (mvT hZ (own_w hw 31 rfl)) (mvT hZ (own_w hw 32 rfl)) (by decide) (backOf (W := 1) (own_init001 l Z a0 hw [] b52 p2 h52 n0 Z53 A52 F_limit_b52 F_startingAfter_b52 F_endingBefore_b52 F_descending_b52 g_b52) hZ (own_w hw 32 rfl) (own_w hw 29 rfl) (by decide) (by decide)) (g := (mkF m 78 #[iv p1, iv p2, iv p3, iv p4, iv p5, iv 0, iv 1, iv 1, rv b49_o0, .val (.null), .val (.null), .unset, .unset] [.int 1, .null, .null, .int p2, .ref b52, .ref b52])) rfl (by rw [hml]; rfl) (Steps.refl _) (a := b52) (argsL := [(.int p2), .null, .null, (.int (1 : Int32))]) (rest := [(.ref b52)]) (lenOf own_pd_4 rfl) rfl (by show 2 * 0 + _ ≤ _; exact Nat.le_of_eq rfl) (hb hby at_78) (fun _ _ => ⟨rfl, e52, (by decide : 4 + 0 ≤ _), (by decide : 10 + 0 ≤ _)⟩)
        dsimp only [Pt.U, Pt.locs, Pt.cells, Pt.slots] at X55 l55 y55 z55 st55 hQ55
        subst l55 y55 z55
        obtain ⟨rfl, Nq55, Kq55, P55_0, P55_1, P55_2⟩ := hQ55
        have N55 := Fr.app N49 Nq55
        have e55 : T55.heap = T55.heap := rfl
        have Z56 := Nat.le_trans Z53 Kq55.1
        have K57 : Keep h0 _ [] := K54.trans Kq55 (allS (P := fun x => x ∈ [] ∨ h0.size ≤ x) (Or.inr sz_b52) all0)
        refine own_tr st55 ?_
        show own_E p e below _ T55 (mkF m 81 #[iv p1, iv p2, iv p3, iv p4, iv p5, iv 0, iv 1, iv 1, rv b49_o0, .val (.null), .val (.null), .unset, .unset] [.ref b52])
        refine own_st (fun t k => XS.astore X55.here hx rfl (hb hby at_81) rfl rfl (l' := #[iv p1, iv p2, iv p3, iv p4, iv p5, iv 0, iv 1, iv 1, rv b49_o0, .val (.null), .val (.null), rv b52, .unset]) rfl k) ?_
        show own_E p e below _ T55 (mkF m 83 #[iv p1, iv p2, iv p3, iv p4, iv p5, iv 0, iv 1, iv 1, rv b49_o0, .val (.null), .val (.null), rv b52, .unset] [])
        refine own_st (fun t k => XS.aload X55.here hx rfl (hb hby at_83) rfl rfl k) ?_
        show own_E p e below _ T55 (mkF m 85 #[iv p1, iv p2, iv p3, iv p4, iv p5, iv 0, iv 1, iv 1, rv b49_o0, .val (.null), .val (.null), rv b52, .unset] [.ref b52])
        obtain ⟨cq58, kq58, q58a, q58b, q58c⟩ := isOf hZ e55 P55_0
        obtain ⟨_, _, ⟨T58, L58, k58, n58⟩, -, X58, ⟨Lc58, hQ58, l58, y58, z58⟩, st58⟩ := X55.virtualBack hx (y := own_y5) (z := own_y5) hown (mvT hZ (own_w hw 47 rfl)) (mvT hZ (own_w hw 48 rfl)) (notFace_of_selects (args := #[]) (mvT hZ (own_w hw 50 rfl))) (mvT hZ (own_w hw 50 rfl)) (mvT hZ (own_w hw 49 rfl)) (by decide) (backOf (W := 0) (own_cur00 l Z a0 hw [] b52 T55.heap n0 Z56 P55_1 P55_2) hZ (own_w hw 51 rfl) (own_w hw 29 rfl) (by decide) (by decide)) q58a q58c (g := (mkF m 85 #[iv p1, iv p2, iv p3, iv p4, iv p5, iv 0, iv 1, iv 1, rv b49_o0, .val (.null), .val (.null), rv b52, .unset] [.ref b52])) rfl (by rw [hml]; rfl) (Steps.refl _) (argsL := []) (rest := []) (lenOf own_pd_0 rfl) rfl (by show 2 * 0 + _ ≤ _; exact Nat.le_of_eq rfl) (hb hby at_85) (fun _ _ => ⟨rfl, e55, (by decide : 4 + 0 ≤ _), (by decide : 10 + 0 ≤ _)⟩)
        dsimp only [Pt.U, Pt.locs, Pt.cells, Pt.slots] at X58 l58 y58 z58 st58 hQ58
        subst l58 y58 z58
        obtain ⟨hR58, e58, rfl⟩ := hQ58
        have N58 := Fr.app N55 (Fr.nil n0)
        obtain rfl := hR58
        refine own_tr st58 ?_
        show own_E p e below _ T58 (mkF m 88 #[iv p1, iv p2, iv p3, iv p4, iv p5, iv 0, iv 1, iv 1, rv b49_o0, .val (.null), .val (.null), rv b52, .unset] [.null])
        refine own_st (fun t k => XS.astore X58.here hx rfl (hb hby at_88) rfl rfl (l' := #[iv p1, iv p2, iv p3, iv p4, iv p5, iv 0, iv 1, iv 1, rv b49_o0, .val (.null), .val (.null), rv b52, .val (.null)]) rfl k) ?_
        show own_E p e below _ T58 (mkF m 90 #[iv p1, iv p2, iv p3, iv p4, iv p5, iv 0, iv 1, iv 1, rv b49_o0, .val (.null), .val (.null), rv b52, .val (.null)] [])
        refine own_st (fun t k => XS.iload X58.here hx rfl (hb hby at_90) rfl k) ?_
        show own_E p e below _ T58 (mkF m 92 #[iv p1, iv p2, iv p3, iv p4, iv p5, iv 0, iv 1, iv 1, rv b49_o0, .val (.null), .val (.null), rv b52, .val (.null)] [.int 0])
        refine own_st (fun t k => XS.ifNo X58.here hx rfl (hb hby at_92) rfl (by decide) k) ?_
        show own_E p e below _ T58 (mkF m 95 #[iv p1, iv p2, iv p3, iv p4, iv p5, iv 0, iv 1, iv 1, rv b49_o0, .val (.null), .val (.null), rv b52, .val (.null)] [])
        refine own_st (fun t k => XS.aload X58.here hx rfl (hb hby at_95) rfl rfl k) ?_
        show own_E p e below _ T58 (mkF m 97 #[iv p1, iv p2, iv p3, iv p4, iv p5, iv 0, iv 1, iv 1, rv b49_o0, .val (.null), .val (.null), rv b52, .val (.null)] [.null])
        refine own_st (fun t k => XS.ifnonnullNo X58.here hx rfl (hb hby at_97) rfl k) ?_
        show own_E p e below _ T58 (mkF m 100 #[iv p1, iv p2, iv p3, iv p4, iv p5, iv 0, iv 1, iv 1, rv b49_o0, .val (.null), .val (.null), rv b52, .val (.null)] [])
        refine own_st (fun t k => XS.iconst X58.here hx rfl (hb hby at_100) k) ?_
        show own_E p e below _ T58 (mkF m 101 #[iv p1, iv p2, iv p3, iv p4, iv p5, iv 0, iv 1, iv 1, rv b49_o0, .val (.null), .val (.null), rv b52, .val (.null)] [.int 1])
        refine own_st (fun t k => XS.goto X58.here hx rfl (pc0 := 101) (pc' := 105) rfl (hb hby at_101) (by decide) (by decide) k) ?_
        show own_E p e below _ T58 (mkF m 105 #[iv p1, iv p2, iv p3, iv p4, iv p5, iv 0, iv 1, iv 1, rv b49_o0, .val (.null), .val (.null), rv b52, .val (.null)] [.int 1])
        refine own_retSW X58 (own_since s) (by rw [e58]; exact (Nat.zero_le _)) hx Bd.notSynchronized Bd.returns rfl (by decide) (hb hby at_105) (by decide) (by decide) ?_
        exact ⟨rfl, N58⟩
      · rw [hs36]
        show own_E p e below _ s₁ (mkF m 30 #[iv p1, iv p2, iv p3, iv p4, iv p5, iv 0, iv 1, iv 2, .unset, .unset, .unset, .unset, .unset] [])
        refine own_st (fun t k => XS.iload X0.here hx rfl (hb hby at_30) rfl k) ?_
        show own_E p e below _ s₁ (mkF m 32 #[iv p1, iv p2, iv p3, iv p4, iv p5, iv 0, iv 1, iv 2, .unset, .unset, .unset, .unset, .unset] [.int 2])
        refine own_st (fun t k => XS.iloadN X0.here hx rfl (hb hby at_32) rfl k) ?_
        show own_E p e below _ s₁ (mkF m 33 #[iv p1, iv p2, iv p3, iv p4, iv p5, iv 0, iv 1, iv 2, .unset, .unset, .unset, .unset, .unset] [.int p3, .int 2])
        refine own_st (fun t k => XS.iloadN X0.here hx rfl (hb hby at_33) rfl k) ?_
        show own_E p e below _ s₁ (mkF m 34 #[iv p1, iv p2, iv p3, iv p4, iv p5, iv 0, iv 1, iv 2, .unset, .unset, .unset, .unset, .unset] [.int p4, .int p3, .int 2])
        obtain ⟨_, _, ⟨T59, L59, k59, n59⟩, -, X59, ⟨Lc59, hQ59, l59, y59, z59⟩, st59⟩ := Jvm.LawKit.callS X0 hx (y := own_y3) hown (mvT hZ (own_w hw 1 rfl)) (mvT hZ (own_w hw 2 rfl)) (mvT hZ (own_w hw 3 rfl)) (mvT hZ (own_w hw 4 rfl)) (by decide) (backOf (W := 0) (own_drawn2 l Z a0 hw [] zc p3 p4 h0 n0 Z0 SC hzc) hZ (own_w hw 4 rfl) (own_w hw 3 rfl) (by decide) (by decide)) (g := (mkF m 34 #[iv p1, iv p2, iv p3, iv p4, iv p5, iv 0, iv 1, iv 2, .unset, .unset, .unset, .unset, .unset] [.int p4, .int p3, .int 2])) rfl (by rw [hml]; rfl) (argsL := [(.int (2 : Int32)), (.int p3), (.int p4)]) (rest := []) (lenOf own_pd_2 rfl) rfl (by show 2 * 0 + _ ≤ _; exact Nat.le_of_eq rfl) (hb hby at_34) (fun _ _ => ⟨rfl, e0, (by decide : 0 + 3 ≤ _), (by decide : 0 + 8 ≤ _)⟩)
        dsimp only [Pt.U, Pt.locs, Pt.cells, Pt.slots] at X59 l59 y59 z59 st59 hQ59
        subst l59 y59 z59
        obtain ⟨b59_o0, rfl, Nq59, Kq59, sz59_0, P59_0⟩ := hQ59
        have N59 := Fr.app (Fr.nil n0) Nq59
        have g_b59_o0 : n0 ≤ b59_o0 := Nat.le_trans Z0 sz59_0
        have sz_b59_o0 : h0.size ≤ b59_o0 := Nat.le_trans (Keep.refl h0 []).1 sz59_0
        have e59 : T59.heap = T59.heap := rfl
        have Z60 := Nat.le_trans Z0 Kq59.1
        have K61 : Keep h0 _ [] := (Keep.refl h0 []).trans Kq59 all0
        refine own_st st59 ?_
        show own_E p e below _ T59 (mkF m 37 #[iv p1, iv p2, iv p3, iv p4, iv p5, iv 0, iv 1, iv 2, .unset, .unset, .unset, .unset, .unset] [.ref b59_o0])
        refine own_st (fun t k => XS.astore X59.here hx rfl (hb hby at_37) rfl rfl (l' := #[iv p1, iv p2, iv p3, iv p4, iv p5, iv 0, iv 1, iv 2, rv b59_o0, .unset, .unset, .unset, .unset]) rfl k) ?_
        show own_E p e below _ T59 (mkF m 39 #[iv p1, iv p2, iv p3, iv p4, iv p5, iv 0, iv 1, iv 2, rv b59_o0, .unset, .unset, .unset, .unset] [])
        refine own_st (fun t k => XS.iload X59.here hx rfl (hb hby at_39) rfl k) ?_
        show own_E p e below _ T59 (mkF m 41 #[iv p1, iv p2, iv p3, iv p4, iv p5, iv 0, iv 1, iv 2, rv b59_o0, .unset, .unset, .unset, .unset] [.int 0])
        refine own_st (fun t k => XS.iconst X59.here hx rfl (hb hby at_41) k) ?_
        show own_E p e below _ T59 (mkF m 42 #[iv p1, iv p2, iv p3, iv p4, iv p5, iv 0, iv 1, iv 2, rv b59_o0, .unset, .unset, .unset, .unset] [.int 1, .int 0])
        refine own_st (fun t k => XS.icmpYes X59.here hx rfl (pc0 := 42) (pc' := 50) rfl (hb hby at_42) rfl (by decide) (by decide) (by decide) k) ?_
        show own_E p e below _ T59 (mkF m 50 #[iv p1, iv p2, iv p3, iv p4, iv p5, iv 0, iv 1, iv 2, rv b59_o0, .unset, .unset, .unset, .unset] [])
        refine own_st (fun t k => XS.aconstNull X59.here hx rfl (hb hby at_50) k) ?_
        show own_E p e below _ T59 (mkF m 51 #[iv p1, iv p2, iv p3, iv p4, iv p5, iv 0, iv 1, iv 2, rv b59_o0, .unset, .unset, .unset, .unset] [.null])
        refine own_st (fun t k => XS.astore X59.here hx rfl (hb hby at_51) rfl rfl (l' := #[iv p1, iv p2, iv p3, iv p4, iv p5, iv 0, iv 1, iv 2, rv b59_o0, .val (.null), .unset, .unset, .unset]) rfl k) ?_
        show own_E p e below _ T59 (mkF m 53 #[iv p1, iv p2, iv p3, iv p4, iv p5, iv 0, iv 1, iv 2, rv b59_o0, .val (.null), .unset, .unset, .unset] [])
        refine own_st (fun t k => XS.iload X59.here hx rfl (hb hby at_53) rfl k) ?_
        show own_E p e below _ T59 (mkF m 55 #[iv p1, iv p2, iv p3, iv p4, iv p5, iv 0, iv 1, iv 2, rv b59_o0, .val (.null), .unset, .unset, .unset] [.int 0])
        refine own_st (fun t k => XS.iconst X59.here hx rfl (hb hby at_55) k) ?_
        show own_E p e below _ T59 (mkF m 56 #[iv p1, iv p2, iv p3, iv p4, iv p5, iv 0, iv 1, iv 2, rv b59_o0, .val (.null), .unset, .unset, .unset] [.int 2, .int 0])
        refine own_st (fun t k => XS.icmpYes X59.here hx rfl (pc0 := 56) (pc' := 64) rfl (hb hby at_56) rfl (by decide) (by decide) (by decide) k) ?_
        show own_E p e below _ T59 (mkF m 64 #[iv p1, iv p2, iv p3, iv p4, iv p5, iv 0, iv 1, iv 2, rv b59_o0, .val (.null), .unset, .unset, .unset] [])
        refine own_st (fun t k => XS.aconstNull X59.here hx rfl (hb hby at_64) k) ?_
        show own_E p e below _ T59 (mkF m 65 #[iv p1, iv p2, iv p3, iv p4, iv p5, iv 0, iv 1, iv 2, rv b59_o0, .val (.null), .unset, .unset, .unset] [.null])
        refine own_st (fun t k => XS.astore X59.here hx rfl (hb hby at_65) rfl rfl (l' := #[iv p1, iv p2, iv p3, iv p4, iv p5, iv 0, iv 1, iv 2, rv b59_o0, .val (.null), .val (.null), .unset, .unset]) rfl k) ?_
        show own_E p e below _ T59 (mkF m 67 #[iv p1, iv p2, iv p3, iv p4, iv p5, iv 0, iv 1, iv 2, rv b59_o0, .val (.null), .val (.null), .unset, .unset] [])
        obtain ⟨T62, h62, X62, e62, E62, A62, D62, -, st62⟩ := newO X59 hx hZ hown (own_w hw 27 rfl) (own_w hw 28 rfl) (own_w hw 29 rfl) e59 (g := (mkF m 67 #[iv p1, iv p2, iv p3, iv p4, iv p5, iv 0, iv 1, iv 2, rv b59_o0, .val (.null), .val (.null), .unset, .unset] [])) rfl (hb hby at_67) (by decide) (by decide)
        obtain ⟨b62, g62⟩ : ∃ z, z = T59.heap.size := ⟨_, rfl⟩
        rw [← g62] at A62 D62 st62
        have ne_b59_o0_b62 : b59_o0 ≠ b62 := Nat.ne_of_lt (Nat.lt_of_lt_of_le P59_0.lt (Nat.le_of_eq g62.symm))
        have g_b62 : n0 ≤ b62 := Nat.le_trans Z60 (Nat.le_of_eq g62.symm)
        have sz_b62 : h0.size ≤ b62 := Nat.le_trans K61.1 (Nat.le_of_eq g62.symm)
        have Z63 := Nat.le_trans Z60 E62.1
        have K64 : Keep h0 _ [] := K61.ext E62
        have F_limit_b62 : Fld Z h62 b62 "com/example/acquirer/acquirer/PageRequest" "limit" "I" (.int (0 : Int32)) := D62 (Or.inr (own_w hw 40 rfl)) (ty := .int) (by decide)
        have F_startingAfter_b62 : Fld Z h62 b62 "com/example/acquirer/acquirer/PageRequest" "startingAfter" "Ljava/lang/String;" .null := D62 (Or.inr (own_w hw 42 rfl)) (ty := (.object "java/lang/String")) (by decide)
        have F_endingBefore_b62 : Fld Z h62 b62 "com/example/acquirer/acquirer/PageRequest" "endingBefore" "Ljava/lang/String;" .null := D62 (Or.inr (own_w hw 44 rfl)) (ty := (.object "java/lang/String")) (by decide)
        have F_descending_b62 : Fld Z h62 b62 "com/example/acquirer/acquirer/PageRequest" "descending" "Z" (.int (0 : Int32)) := D62 (Or.inr (own_w hw 46 rfl)) (ty := .boolean) (by decide)
        refine own_st st62 ?_
        show own_E p e below _ T62 (mkF m 70 #[iv p1, iv p2, iv p3, iv p4, iv p5, iv 0, iv 1, iv 2, rv b59_o0, .val (.null), .val (.null), .unset, .unset] [.ref b62])
        refine own_st (fun t k => XS.dup X62.here hx rfl (hb hby at_70) rfl rfl k) ?_
        show own_E p e below _ T62 (mkF m 71 #[iv p1, iv p2, iv p3, iv p4, iv p5, iv 0, iv 1, iv 2, rv b59_o0, .val (.null), .val (.null), .unset, .unset] [.ref b62, .ref b62])
        refine own_st (fun t k => XS.iloadN X62.here hx rfl (hb hby at_71) rfl k) ?_
        show own_E p e below _ T62 (mkF m 72 #[iv p1, iv p2, iv p3, iv p4, iv p5, iv 0, iv 1, iv 2, rv b59_o0, .val (.null), .val (.null), .unset, .unset] [.int p2, .ref b62, .ref b62])
        refine own_st (fun t k => XS.aload X62.here hx rfl (hb hby at_72) rfl rfl k) ?_
        show own_E p e below _ T62 (mkF m 74 #[iv p1, iv p2, iv p3, iv p4, iv p5, iv 0, iv 1, iv 2, rv b59_o0, .val (.null), .val (.null), .unset, .unset] [.null, .int p2, .ref b62, .ref b62])
        refine own_st (fun t k => XS.aload X62.here hx rfl (hb hby at_74) rfl rfl k) ?_
        show own_E p e below _ T62 (mkF m 76 #[iv p1, iv p2, iv p3, iv p4, iv p5, iv 0, iv 1, iv 2, rv b59_o0, .val (.null), .val (.null), .unset, .unset] [.null, .null, .int p2, .ref b62, .ref b62])
        refine own_st (fun t k => XS.iload X62.here hx rfl (hb hby at_76) rfl k) ?_
        show own_E p e below _ T62 (mkF m 78 #[iv p1, iv p2, iv p3, iv p4, iv p5, iv 0, iv 1, iv 2, rv b59_o0, .val (.null), .val (.null), .unset, .unset] [.int 1, .null, .null, .int p2, .ref b62, .ref b62])
        obtain ⟨_, _, ⟨T65, L65, k65, n65⟩, -, X65, ⟨Lc65, hQ65, l65, y65, z65⟩, st65⟩ := X62.specialBack hx (y := own_y4) rfl hown (mvT hZ (own_w hw 30 rfl)) (mvT hZ (own_w hw 31 rfl)) (mvT hZ (own_w hw 32 rfl)) (by decide) (backOf (W := 1) (own_init001 l Z a0 hw [] b62 p2 h62 n0 Z63 A62 F_limit_b62 F_startingAfter_b62 F_endingBefore_b62 F_descending_b62 g_b62) hZ (own_w hw 32 rfl) (own_w hw 29 rfl) (by decide) (by decide)) (g := (mkF m 78 #[iv p1, iv p2, iv p3, iv p4, iv p5, iv 0, iv 1, iv 2, rv b59_o0, .val (.null), .val (.null), .unset, .unset] [.int 1, .null, .null, .int p2, .ref b62, .ref b62])) rfl (by rw [hml]; rfl) (Steps.refl _) (a := b62) (argsL := [(.int p2), .null, .null, (.int (1 : Int32))]) (rest := [(.ref b62)]) (lenOf own_pd_4 rfl) rfl (by show 2 * 0 + _ ≤ _; exact Nat.le_of_eq rfl) (hb hby at_78) (fun _ _ => ⟨rfl, e62, (by decide : 4 + 0 ≤ _), (by decide : 12 + 0 ≤ _)⟩)
        dsimp only [Pt.U, Pt.locs, Pt.cells, Pt.slots] at X65 l65 y65 z65 st65 hQ65
        subst l65 y65 z65
        obtain ⟨rfl, Nq65, Kq65, P65_0, P65_1, P65_2⟩ := hQ65
        have N65 := Fr.app N59 Nq65
        have e65 : T65.heap = T65.heap := rfl
        have Z66 := Nat.le_trans Z63 Kq65.1
        have K67 : Keep h0 _ [] := K64.trans Kq65 (allS (P := fun x => x ∈ [] ∨ h0.size ≤ x) (Or.inr sz_b62) all0)
        refine own_tr st65 ?_
        show own_E p e below _ T65 (mkF m 81 #[iv p1, iv p2, iv p3, iv p4, iv p5, iv 0, iv 1, iv 2, rv b59_o0, .val (.null), .val (.null), .unset, .unset] [.ref b62])
        refine own_st (fun t k => XS.astore X65.here hx rfl (hb hby at_81) rfl rfl (l' := #[iv p1, iv p2, iv p3, iv p4, iv p5, iv 0, iv 1, iv 2, rv b59_o0, .val (.null), .val (.null), rv b62, .unset]) rfl k) ?_
        show own_E p e below _ T65 (mkF m 83 #[iv p1, iv p2, iv p3, iv p4, iv p5, iv 0, iv 1, iv 2, rv b59_o0, .val (.null), .val (.null), rv b62, .unset] [])
        refine own_st (fun t k => XS.aload X65.here hx rfl (hb hby at_83) rfl rfl k) ?_
        show own_E p e below _ T65 (mkF m 85 #[iv p1, iv p2, iv p3, iv p4, iv p5, iv 0, iv 1, iv 2, rv b59_o0, .val (.null), .val (.null), rv b62, .unset] [.ref b62])
        obtain ⟨cq68, kq68, q68a, q68b, q68c⟩ := isOf hZ e65 P65_0
        obtain ⟨_, _, ⟨T68, L68, k68, n68⟩, -, X68, ⟨Lc68, hQ68, l68, y68, z68⟩, st68⟩ := X65.virtualBack hx (y := own_y5) (z := own_y5) hown (mvT hZ (own_w hw 47 rfl)) (mvT hZ (own_w hw 48 rfl)) (notFace_of_selects (args := #[]) (mvT hZ (own_w hw 50 rfl))) (mvT hZ (own_w hw 50 rfl)) (mvT hZ (own_w hw 49 rfl)) (by decide) (backOf (W := 0) (own_cur00 l Z a0 hw [] b62 T65.heap n0 Z66 P65_1 P65_2) hZ (own_w hw 51 rfl) (own_w hw 29 rfl) (by decide) (by decide)) q68a q68c (g := (mkF m 85 #[iv p1, iv p2, iv p3, iv p4, iv p5, iv 0, iv 1, iv 2, rv b59_o0, .val (.null), .val (.null), rv b62, .unset] [.ref b62])) rfl (by rw [hml]; rfl) (Steps.refl _) (argsL := []) (rest := []) (lenOf own_pd_0 rfl) rfl (by show 2 * 0 + _ ≤ _; exact Nat.le_of_eq rfl) (hb hby at_85) (fun _ _ => ⟨rfl, e65, (by decide : 4 + 0 ≤ _), (by decide : 12 + 0 ≤ _)⟩)
        dsimp only [Pt.U, Pt.locs, Pt.cells, Pt.slots] at X68 l68 y68 z68 st68 hQ68
        subst l68 y68 z68
        obtain ⟨hR68, e68, rfl⟩ := hQ68
        have N68 := Fr.app N65 (Fr.nil n0)
        obtain rfl := hR68
        refine own_tr st68 ?_
        show own_E p e below _ T68 (mkF m 88 #[iv p1, iv p2, iv p3, iv p4, iv p5, iv 0, iv 1, iv 2, rv b59_o0, .val (.null), .val (.null), rv b62, .unset] [.null])
        refine own_st (fun t k => XS.astore X68.here hx rfl (hb hby at_88) rfl rfl (l' := #[iv p1, iv p2, iv p3, iv p4, iv p5, iv 0, iv 1, iv 2, rv b59_o0, .val (.null), .val (.null), rv b62, .val (.null)]) rfl k) ?_
        show own_E p e below _ T68 (mkF m 90 #[iv p1, iv p2, iv p3, iv p4, iv p5, iv 0, iv 1, iv 2, rv b59_o0, .val (.null), .val (.null), rv b62, .val (.null)] [])
        refine own_st (fun t k => XS.iload X68.here hx rfl (hb hby at_90) rfl k) ?_
        show own_E p e below _ T68 (mkF m 92 #[iv p1, iv p2, iv p3, iv p4, iv p5, iv 0, iv 1, iv 2, rv b59_o0, .val (.null), .val (.null), rv b62, .val (.null)] [.int 0])
        refine own_st (fun t k => XS.ifNo X68.here hx rfl (hb hby at_92) rfl (by decide) k) ?_
        show own_E p e below _ T68 (mkF m 95 #[iv p1, iv p2, iv p3, iv p4, iv p5, iv 0, iv 1, iv 2, rv b59_o0, .val (.null), .val (.null), rv b62, .val (.null)] [])
        refine own_st (fun t k => XS.aload X68.here hx rfl (hb hby at_95) rfl rfl k) ?_
        show own_E p e below _ T68 (mkF m 97 #[iv p1, iv p2, iv p3, iv p4, iv p5, iv 0, iv 1, iv 2, rv b59_o0, .val (.null), .val (.null), rv b62, .val (.null)] [.null])
        refine own_st (fun t k => XS.ifnonnullNo X68.here hx rfl (hb hby at_97) rfl k) ?_
        show own_E p e below _ T68 (mkF m 100 #[iv p1, iv p2, iv p3, iv p4, iv p5, iv 0, iv 1, iv 2, rv b59_o0, .val (.null), .val (.null), rv b62, .val (.null)] [])
        refine own_st (fun t k => XS.iconst X68.here hx rfl (hb hby at_100) k) ?_
        show own_E p e below _ T68 (mkF m 101 #[iv p1, iv p2, iv p3, iv p4, iv p5, iv 0, iv 1, iv 2, rv b59_o0, .val (.null), .val (.null), rv b62, .val (.null)] [.int 1])
        refine own_st (fun t k => XS.goto X68.here hx rfl (pc0 := 101) (pc' := 105) rfl (hb hby at_101) (by decide) (by decide) k) ?_
        show own_E p e below _ T68 (mkF m 105 #[iv p1, iv p2, iv p3, iv p4, iv p5, iv 0, iv 1, iv 2, rv b59_o0, .val (.null), .val (.null), rv b62, .val (.null)] [.int 1])
        refine own_retSW X68 (own_since s) (by rw [e68]; exact (Nat.zero_le _)) hx Bd.notSynchronized Bd.returns rfl (by decide) (hb hby at_105) (by decide) (by decide) ?_
        exact ⟨rfl, N68⟩
  · rw [hs1]
    show own_E p e below _ s₁ (mkF m 8 #[iv p1, iv p2, iv p3, iv p4, iv p5, iv 1, .unset, .unset, .unset, .unset, .unset, .unset, .unset] [])
    refine own_st (fun t k => XS.iload X0.here hx rfl (hb hby at_8) rfl k) ?_
    show own_E p e below _ s₁ (mkF m 10 #[iv p1, iv p2, iv p3, iv p4, iv p5, iv 1, .unset, .unset, .unset, .unset, .unset, .unset, .unset] [.int p5])
    refine own_st (fun t k => XS.iconst X0.here hx rfl (hb hby at_10) k) ?_
    show own_E p e below _ s₁ (mkF m 11 #[iv p1, iv p2, iv p3, iv p4, iv p5, iv 1, .unset, .unset, .unset, .unset, .unset, .unset, .unset] [.int 1, .int p5])
    refine own_st (fun t k => XS.iand X0.here hx rfl (hb hby at_11) rfl k) ?_
    show own_E p e below _ s₁ (mkF m 12 #[iv p1, iv p2, iv p3, iv p4, iv p5, iv 1, .unset, .unset, .unset, .unset, .unset, .unset, .unset] [.int (p5 &&& (1 : Int32))])
    by_cases hc69 : (p5 &&& (1 : Int32)) = (0 : Int32)
    · refine own_st (fun t k => XS.ifYes X0.here hx rfl (pc0 := 12) (pc' := 19) rfl (hb hby at_12) rfl ((if0 _ _).trans (teq hc69).1) (by decide) (by decide) k) ?_
      show own_E p e below _ s₁ (mkF m 19 #[iv p1, iv p2, iv p3, iv p4, iv p5, iv 1, .unset, .unset, .unset, .unset, .unset, .unset, .unset] [])
      refine own_st (fun t k => XS.iconst X0.here hx rfl (hb hby at_19) k) ?_
      show own_E p e below _ s₁ (mkF m 20 #[iv p1, iv p2, iv p3, iv p4, iv p5, iv 1, .unset, .unset, .unset, .unset, .unset, .unset, .unset] [.int 0])
      refine own_st (fun t k => XS.istore X0.here hx rfl (hb hby at_20) rfl (l' := #[iv p1, iv p2, iv p3, iv p4, iv p5, iv 1, iv 0, .unset, .unset, .unset, .unset, .unset, .unset]) rfl k) ?_
      show own_E p e below _ s₁ (mkF m 22 #[iv p1, iv p2, iv p3, iv p4, iv p5, iv 1, iv 0, .unset, .unset, .unset, .unset, .unset, .unset] [])
      refine own_st (fun t k => XS.iload X0.here hx rfl (hb hby at_22) rfl k) ?_
      show own_E p e below _ s₁ (mkF m 24 #[iv p1, iv p2, iv p3, iv p4, iv p5, iv 1, iv 0, .unset, .unset, .unset, .unset, .unset, .unset] [.int p5])
      refine own_st (fun t k => XS.iconst X0.here hx rfl (hb hby at_24) k) ?_
      show own_E p e below _ s₁ (mkF m 25 #[iv p1, iv p2, iv p3, iv p4, iv p5, iv 1, iv 0, .unset, .unset, .unset, .unset, .unset, .unset] [.int 1, .int p5])
      refine own_st (fun t k => XS.iushr X0.here hx rfl (hb hby at_25) rfl k) ?_
      show own_E p e below _ s₁ (mkF m 26 #[iv p1, iv p2, iv p3, iv p4, iv p5, iv 1, iv 0, .unset, .unset, .unset, .unset, .unset, .unset] [.int ((p5.toUInt32 >>> ((1 : Int32) &&& 31).toUInt32).toInt32)])
      refine own_st (fun t k => XS.iconst X0.here hx rfl (hb hby at_26) k) ?_
      show own_E p e below _ s₁ (mkF m 27 #[iv p1, iv p2, iv p3, iv p4, iv p5, iv 1, iv 0, .unset, .unset, .unset, .unset, .unset, .unset] [.int 3, .int ((p5.toUInt32 >>> ((1 : Int32) &&& 31).toUInt32).toInt32)])
      refine own_st (fun t k => iremM X0 hx rfl (hb hby at_27) rfl (by decide) k) ?_
      show own_E p e below _ s₁ (mkF m 28 #[iv p1, iv p2, iv p3, iv p4, iv p5, iv 1, iv 0, .unset, .unset, .unset, .unset, .unset, .unset] [.int (((p5.toUInt32 >>> ((1 : Int32) &&& 31).toUInt32).toInt32) % (3 : Int32))])
      refine own_st (fun t k => XS.istore X0.here hx rfl (hb hby at_28) rfl (l' := #[iv p1, iv p2, iv p3, iv p4, iv p5, iv 1, iv 0, iv (((p5.toUInt32 >>> ((1 : Int32) &&& 31).toUInt32).toInt32) % (3 : Int32)), .unset, .unset, .unset, .unset, .unset]) rfl k) ?_
      show own_E p e below _ s₁ (mkF m 30 #[iv p1, iv p2, iv p3, iv p4, iv p5, iv 1, iv 0, iv (((p5.toUInt32 >>> ((1 : Int32) &&& 31).toUInt32).toInt32) % (3 : Int32)), .unset, .unset, .unset, .unset, .unset] [])
      rcases own_len3 p5 with hs70 | hs70 | hs70
      · rw [hs70]
        show own_E p e below _ s₁ (mkF m 30 #[iv p1, iv p2, iv p3, iv p4, iv p5, iv 1, iv 0, iv 0, .unset, .unset, .unset, .unset, .unset] [])
        refine own_st (fun t k => XS.iload X0.here hx rfl (hb hby at_30) rfl k) ?_
        show own_E p e below _ s₁ (mkF m 32 #[iv p1, iv p2, iv p3, iv p4, iv p5, iv 1, iv 0, iv 0, .unset, .unset, .unset, .unset, .unset] [.int 0])
        refine own_st (fun t k => XS.iloadN X0.here hx rfl (hb hby at_32) rfl k) ?_
        show own_E p e below _ s₁ (mkF m 33 #[iv p1, iv p2, iv p3, iv p4, iv p5, iv 1, iv 0, iv 0, .unset, .unset, .unset, .unset, .unset] [.int p3, .int 0])
        refine own_st (fun t k => XS.iloadN X0.here hx rfl (hb hby at_33) rfl k) ?_
        show own_E p e below _ s₁ (mkF m 34 #[iv p1, iv p2, iv p3, iv p4, iv p5, iv 1, iv 0, iv 0, .unset, .unset, .unset, .unset, .unset] [.int p4, .int p3, .int 0])
        obtain ⟨_, _, ⟨T71, L71, k71, n71⟩, -, X71, hS71, hgr71, ⟨Lc71, hQ71, l71, y71, z71⟩, st71⟩ := callSS X0 hx (y := own_y3) hown (mvT hZ (own_w hw 1 rfl)) (mvT hZ (own_w hw 2 rfl)) (mvT hZ (own_w hw 3 rfl)) (mvT hZ (own_w hw 4 rfl)) (by decide) (own_backI (W := 0) (own_drawn0 l Z a0 hw [] p3 p4 h0 n0 Z0 hO hheld hcw) hZ hI (own_w hw 4 rfl) (own_w hw 3 rfl) (by decide) (by decide)) (g := (mkF m 34 #[iv p1, iv p2, iv p3, iv p4, iv p5, iv 1, iv 0, iv 0, .unset, .unset, .unset, .unset, .unset] [.int p4, .int p3, .int 0])) rfl (by rw [hml]; rfl) (argsL := [(.int (0 : Int32)), (.int p3), (.int p4)]) (rest := []) (lenOf own_pd_2 rfl) rfl (by show 2 * 0 + _ ≤ _; exact Nat.le_of_eq rfl) (hb hby at_34) (fun _ _ => ⟨rfl, e0, (by decide : 0 + 4 ≤ _), (by decide : 0 + 8 ≤ _)⟩)
        dsimp only [Pt.U, Pt.locs, Pt.cells, Pt.slots] at X71 l71 y71 z71 st71 hQ71 hS71 hgr71
        subst l71 y71 z71
        have hZ71 := own_Zw hZ hS71
        have ho71 := own_ow hown hS71
        have hk71 := Nat.le_refl T71.heap.size
        obtain ⟨b71_o0, rfl, Nq71, Kq71, sz71_0, P71_0⟩ := hQ71
        have N71 := Fr.app (Fr.nil n0) Nq71
        have g_b71_o0 : n0 ≤ b71_o0 := Nat.le_trans Z0 sz71_0
        have sz_b71_o0 : h0.size ≤ b71_o0 := Nat.le_trans (Keep.refl h0 []).1 sz71_0
        have e71 : T71.heap = T71.heap := rfl
        have Z72 := Nat.le_trans Z0 Kq71.1
        have K73 : Keep h0 _ [] := (Keep.refl h0 []).trans Kq71 all0
        refine own_tr st71 ?_
        show own_E p e below _ T71 (mkF m 37 #[iv p1, iv p2, iv p3, iv p4, iv p5, iv 1, iv 0, iv 0, .unset, .unset, .unset, .unset, .unset] [.ref b71_o0])
        refine own_st (fun t k => XS.astore X71.here hx rfl (hb hby at_37) rfl rfl (l' := #[iv p1, iv p2, iv p3, iv p4, iv p5, iv 1, iv 0, iv 0, rv b71_o0, .unset, .unset, .unset, .unset]) rfl k) ?_
        show own_E p e below _ T71 (mkF m 39 #[iv p1, iv p2, iv p3, iv p4, iv p5, iv 1, iv 0, iv 0, rv b71_o0, .unset, .unset, .unset, .unset] [])
        refine own_st (fun t k => XS.iload X71.here hx rfl (hb hby at_39) rfl k) ?_
        show own_E p e below _ T71 (mkF m 41 #[iv p1, iv p2, iv p3, iv p4, iv p5, iv 1, iv 0, iv 0, rv b71_o0, .unset, .unset, .unset, .unset] [.int 1])
        refine own_st (fun t k => XS.iconst X71.here hx rfl (hb hby at_41) k) ?_
        show own_E p e below _ T71 (mkF m 42 #[iv p1, iv p2, iv p3, iv p4, iv p5, iv 1, iv 0, iv 0, rv b71_o0, .unset, .unset, .unset, .unset] [.int 1, .int 1])
        refine own_st (fun t k => XS.icmpNo X71.here hx rfl (hb hby at_42) rfl (by decide) k) ?_
        show own_E p e below _ T71 (mkF m 45 #[iv p1, iv p2, iv p3, iv p4, iv p5, iv 1, iv 0, iv 0, rv b71_o0, .unset, .unset, .unset, .unset] [])
        refine own_st (fun t k => XS.aload X71.here hx rfl (hb hby at_45) rfl rfl k) ?_
        show own_E p e below _ T71 (mkF m 47 #[iv p1, iv p2, iv p3, iv p4, iv p5, iv 1, iv 0, iv 0, rv b71_o0, .unset, .unset, .unset, .unset] [.ref b71_o0])
        refine own_st (fun t k => XS.goto X71.here hx rfl (pc0 := 47) (pc' := 51) rfl (hb hby at_47) (by decide) (by decide) k) ?_
        show own_E p e below _ T71 (mkF m 51 #[iv p1, iv p2, iv p3, iv p4, iv p5, iv 1, iv 0, iv 0, rv b71_o0, .unset, .unset, .unset, .unset] [.ref b71_o0])
        refine own_st (fun t k => XS.astore X71.here hx rfl (hb hby at_51) rfl rfl (l' := #[iv p1, iv p2, iv p3, iv p4, iv p5, iv 1, iv 0, iv 0, rv b71_o0, rv b71_o0, .unset, .unset, .unset]) rfl k) ?_
        show own_E p e below _ T71 (mkF m 53 #[iv p1, iv p2, iv p3, iv p4, iv p5, iv 1, iv 0, iv 0, rv b71_o0, rv b71_o0, .unset, .unset, .unset] [])
        refine own_st (fun t k => XS.iload X71.here hx rfl (hb hby at_53) rfl k) ?_
        show own_E p e below _ T71 (mkF m 55 #[iv p1, iv p2, iv p3, iv p4, iv p5, iv 1, iv 0, iv 0, rv b71_o0, rv b71_o0, .unset, .unset, .unset] [.int 1])
        refine own_st (fun t k => XS.iconst X71.here hx rfl (hb hby at_55) k) ?_
        show own_E p e below _ T71 (mkF m 56 #[iv p1, iv p2, iv p3, iv p4, iv p5, iv 1, iv 0, iv 0, rv b71_o0, rv b71_o0, .unset, .unset, .unset] [.int 2, .int 1])
        refine own_st (fun t k => XS.icmpYes X71.here hx rfl (pc0 := 56) (pc' := 64) rfl (hb hby at_56) rfl (by decide) (by decide) (by decide) k) ?_
        show own_E p e below _ T71 (mkF m 64 #[iv p1, iv p2, iv p3, iv p4, iv p5, iv 1, iv 0, iv 0, rv b71_o0, rv b71_o0, .unset, .unset, .unset] [])
        refine own_st (fun t k => XS.aconstNull X71.here hx rfl (hb hby at_64) k) ?_
        show own_E p e below _ T71 (mkF m 65 #[iv p1, iv p2, iv p3, iv p4, iv p5, iv 1, iv 0, iv 0, rv b71_o0, rv b71_o0, .unset, .unset, .unset] [.null])
        refine own_st (fun t k => XS.astore X71.here hx rfl (hb hby at_65) rfl rfl (l' := #[iv p1, iv p2, iv p3, iv p4, iv p5, iv 1, iv 0, iv 0, rv b71_o0, rv b71_o0, .val (.null), .unset, .unset]) rfl k) ?_
        show own_E p e below _ T71 (mkF m 67 #[iv p1, iv p2, iv p3, iv p4, iv p5, iv 1, iv 0, iv 0, rv b71_o0, rv b71_o0, .val (.null), .unset, .unset] [])
        obtain ⟨T74, h74, X74, e74, E74, A74, D74, -, st74⟩ := newO X71 hx hZ71 ho71 (own_w hw 27 rfl) (own_w hw 28 rfl) (own_w hw 29 rfl) e71 (g := (mkF m 67 #[iv p1, iv p2, iv p3, iv p4, iv p5, iv 1, iv 0, iv 0, rv b71_o0, rv b71_o0, .val (.null), .unset, .unset] [])) rfl (hb hby at_67) (by decide) (by decide)
        obtain ⟨b74, g74⟩ : ∃ z, z = T71.heap.size := ⟨_, rfl⟩
        rw [← g74] at A74 D74 st74
        have ne_b71_o0_b74 : b71_o0 ≠ b74 := Nat.ne_of_lt (Nat.lt_of_lt_of_le P71_0.lt (Nat.le_of_eq g74.symm))
        have g_b74 : n0 ≤ b74 := Nat.le_trans Z72 (Nat.le_of_eq g74.symm)
        have sz_b74 : h0.size ≤ b74 := Nat.le_trans K73.1 (Nat.le_of_eq g74.symm)
        have Z75 := Nat.le_trans Z72 E74.1
        have hk76 := Nat.le_trans hk71 E74.1
        have K77 : Keep h0 _ [] := K73.ext E74
        have F_limit_b74 : Fld Z h74 b74 "com/example/acquirer/acquirer/PageRequest" "limit" "I" (.int (0 : Int32)) := D74 (Or.inr (own_w hw 40 rfl)) (ty := .int) (by decide)
        have F_startingAfter_b74 : Fld Z h74 b74 "com/example/acquirer/acquirer/PageRequest" "startingAfter" "Ljava/lang/String;" .null := D74 (Or.inr (own_w hw 42 rfl)) (ty := (.object "java/lang/String")) (by decide)
        have F_endingBefore_b74 : Fld Z h74 b74 "com/example/acquirer/acquirer/PageRequest" "endingBefore" "Ljava/lang/String;" .null := D74 (Or.inr (own_w hw 44 rfl)) (ty := (.object "java/lang/String")) (by decide)
        have F_descending_b74 : Fld Z h74 b74 "com/example/acquirer/acquirer/PageRequest" "descending" "Z" (.int (0 : Int32)) := D74 (Or.inr (own_w hw 46 rfl)) (ty := .boolean) (by decide)
        refine own_st st74 ?_
        show own_E p e below _ T74 (mkF m 70 #[iv p1, iv p2, iv p3, iv p4, iv p5, iv 1, iv 0, iv 0, rv b71_o0, rv b71_o0, .val (.null), .unset, .unset] [.ref b74])
        refine own_st (fun t k => XS.dup X74.here hx rfl (hb hby at_70) rfl rfl k) ?_
        show own_E p e below _ T74 (mkF m 71 #[iv p1, iv p2, iv p3, iv p4, iv p5, iv 1, iv 0, iv 0, rv b71_o0, rv b71_o0, .val (.null), .unset, .unset] [.ref b74, .ref b74])
        refine own_st (fun t k => XS.iloadN X74.here hx rfl (hb hby at_71) rfl k) ?_
        show own_E p e below _ T74 (mkF m 72 #[iv p1, iv p2, iv p3, iv p4, iv p5, iv 1, iv 0, iv 0, rv b71_o0, rv b71_o0, .val (.null), .unset, .unset] [.int p2, .ref b74, .ref b74])
        refine own_st (fun t k => XS.aload X74.here hx rfl (hb hby at_72) rfl rfl k) ?_
        show own_E p e below _ T74 (mkF m 74 #[iv p1, iv p2, iv p3, iv p4, iv p5, iv 1, iv 0, iv 0, rv b71_o0, rv b71_o0, .val (.null), .unset, .unset] [.ref b71_o0, .int p2, .ref b74, .ref b74])
        refine own_st (fun t k => XS.aload X74.here hx rfl (hb hby at_74) rfl rfl k) ?_
        show own_E p e below _ T74 (mkF m 76 #[iv p1, iv p2, iv p3, iv p4, iv p5, iv 1, iv 0, iv 0, rv b71_o0, rv b71_o0, .val (.null), .unset, .unset] [.null, .ref b71_o0, .int p2, .ref b74, .ref b74])
        refine own_st (fun t k => XS.iload X74.here hx rfl (hb hby at_76) rfl k) ?_
        show own_E p e below _ T74 (mkF m 78 #[iv p1, iv p2, iv p3, iv p4, iv p5, iv 1, iv 0, iv 0, rv b71_o0, rv b71_o0, .val (.null), .unset, .unset] [.int 0, .null, .ref b71_o0, .int p2, .ref b74, .ref b74])
        obtain ⟨_, _, ⟨T78, L78, k78, n78⟩, -, X78, ⟨Lc78, hQ78, l78, y78, z78⟩, st78⟩ := X74.specialBack hx (y := own_y4) rfl ho71 (mvT hZ71 (own_w hw 30 rfl)) (mvT hZ71 (own_w hw 31 rfl)) (mvT hZ71 (own_w hw 32 rfl)) (by decide) (backOf (W := 1) (own_init100 l Z a0 hw [] b74 b71_o0 p2 h74 n0 Z75 A74 F_limit_b74 F_startingAfter_b74 F_endingBefore_b74 F_descending_b74 g_b74) hZ71 (own_w hw 32 rfl) (own_w hw 29 rfl) (by decide) (by decide)) (g := (mkF m 78 #[iv p1, iv p2, iv p3, iv p4, iv p5, iv 1, iv 0, iv 0, rv b71_o0, rv b71_o0, .val (.null), .unset, .unset] [.int 0, .null, .ref b71_o0, .int p2, .ref b74, .ref b74])) rfl (by rw [hml]; rfl) (Steps.refl _) (a := b74) (argsL := [(.int p2), (.ref b71_o0), .null, (.int (0 : Int32))]) (rest := [(.ref b74)]) (lenOf own_pd_4 rfl) rfl (by show 2 * 0 + _ ≤ _; exact Nat.le_of_eq rfl) (hb hby at_78) (fun _ _ => ⟨rfl, e74, (by decide : 5 + 0 ≤ _), (by decide : 12 + 0 ≤ _)⟩)
        dsimp only [Pt.U, Pt.locs, Pt.cells, Pt.slots] at X78 l78 y78 z78 st78 hQ78
        subst l78 y78 z78
        obtain ⟨rfl, Nq78, Kq78, P78_0, P78_1, P78_2⟩ := hQ78
        have N78 := Fr.app N71 Nq78
        have e78 : T78.heap = T78.heap := rfl
        have Z79 := Nat.le_trans Z75 Kq78.1
        have hk80 := Nat.le_trans hk76 Kq78.1
        have K81 : Keep h0 _ [] := K77.trans Kq78 (allS (P := fun x => x ∈ [] ∨ h0.size ≤ x) (Or.inr sz_b74) all0)
        refine own_tr st78 ?_
        show own_E p e below _ T78 (mkF m 81 #[iv p1, iv p2, iv p3, iv p4, iv p5, iv 1, iv 0, iv 0, rv b71_o0, rv b71_o0, .val (.null), .unset, .unset] [.ref b74])
        refine own_st (fun t k => XS.astore X78.here hx rfl (hb hby at_81) rfl rfl (l' := #[iv p1, iv p2, iv p3, iv p4, iv p5, iv 1, iv 0, iv 0, rv b71_o0, rv b71_o0, .val (.null), rv b74, .unset]) rfl k) ?_
        show own_E p e below _ T78 (mkF m 83 #[iv p1, iv p2, iv p3, iv p4, iv p5, iv 1, iv 0, iv 0, rv b71_o0, rv b71_o0, .val (.null), rv b74, .unset] [])
        refine own_st (fun t k => XS.aload X78.here hx rfl (hb hby at_83) rfl rfl k) ?_
        show own_E p e below _ T78 (mkF m 85 #[iv p1, iv p2, iv p3, iv p4, iv p5, iv 1, iv 0, iv 0, rv b71_o0, rv b71_o0, .val (.null), rv b74, .unset] [.ref b74])
        obtain ⟨cq82, kq82, q82a, q82b, q82c⟩ := isOf hZ71 e78 P78_0
        obtain ⟨_, _, ⟨T82, L82, k82, n82⟩, -, X82, ⟨Lc82, hQ82, l82, y82, z82⟩, st82⟩ := X78.virtualBack hx (y := own_y5) (z := own_y5) ho71 (mvT hZ71 (own_w hw 47 rfl)) (mvT hZ71 (own_w hw 48 rfl)) (notFace_of_selects (args := #[]) (mvT hZ71 (own_w hw 50 rfl))) (mvT hZ71 (own_w hw 50 rfl)) (mvT hZ71 (own_w hw 49 rfl)) (by decide) (backOf (W := 0) (own_cur10 l Z a0 hw [] b74 b71_o0 T78.heap n0 Z79 P78_1 P78_2) hZ71 (own_w hw 51 rfl) (own_w hw 29 rfl) (by decide) (by decide)) q82a q82c (g := (mkF m 85 #[iv p1, iv p2, iv p3, iv p4, iv p5, iv 1, iv 0, iv 0, rv b71_o0, rv b71_o0, .val (.null), rv b74, .unset] [.ref b74])) rfl (by rw [hml]; rfl) (Steps.refl _) (argsL := []) (rest := []) (lenOf own_pd_0 rfl) rfl (by show 2 * 0 + _ ≤ _; exact Nat.le_of_eq rfl) (hb hby at_85) (fun _ _ => ⟨rfl, e78, (by decide : 5 + 0 ≤ _), (by decide : 12 + 0 ≤ _)⟩)
        dsimp only [Pt.U, Pt.locs, Pt.cells, Pt.slots] at X82 l82 y82 z82 st82 hQ82
        subst l82 y82 z82
        obtain ⟨hR82, e82, rfl⟩ := hQ82
        have N82 := Fr.app N78 (Fr.nil n0)
        obtain rfl := hR82
        refine own_tr st82 ?_
        show own_E p e below _ T82 (mkF m 88 #[iv p1, iv p2, iv p3, iv p4, iv p5, iv 1, iv 0, iv 0, rv b71_o0, rv b71_o0, .val (.null), rv b74, .unset] [.ref b71_o0])
        refine own_st (fun t k => XS.astore X82.here hx rfl (hb hby at_88) rfl rfl (l' := #[iv p1, iv p2, iv p3, iv p4, iv p5, iv 1, iv 0, iv 0, rv b71_o0, rv b71_o0, .val (.null), rv b74, rv b71_o0]) rfl k) ?_
        show own_E p e below _ T82 (mkF m 90 #[iv p1, iv p2, iv p3, iv p4, iv p5, iv 1, iv 0, iv 0, rv b71_o0, rv b71_o0, .val (.null), rv b74, rv b71_o0] [])
        refine own_st (fun t k => XS.iload X82.here hx rfl (hb hby at_90) rfl k) ?_
        show own_E p e below _ T82 (mkF m 92 #[iv p1, iv p2, iv p3, iv p4, iv p5, iv 1, iv 0, iv 0, rv b71_o0, rv b71_o0, .val (.null), rv b74, rv b71_o0] [.int 1])
        refine own_st (fun t k => XS.ifYes X82.here hx rfl (pc0 := 92) (pc' := 106) rfl (hb hby at_92) rfl (by decide) (by decide) (by decide) k) ?_
        show own_E p e below _ T82 (mkF m 106 #[iv p1, iv p2, iv p3, iv p4, iv p5, iv 1, iv 0, iv 0, rv b71_o0, rv b71_o0, .val (.null), rv b74, rv b71_o0] [])
        refine own_st (fun t k => XS.aload X82.here hx rfl (hb hby at_106) rfl rfl k) ?_
        show own_E p e below _ T82 (mkF m 108 #[iv p1, iv p2, iv p3, iv p4, iv p5, iv 1, iv 0, iv 0, rv b71_o0, rv b71_o0, .val (.null), rv b74, rv b71_o0] [.ref b71_o0])
        refine own_st (fun t k => XS.aload X82.here hx rfl (hb hby at_108) rfl rfl k) ?_
        show own_E p e below _ T82 (mkF m 110 #[iv p1, iv p2, iv p3, iv p4, iv p5, iv 1, iv 0, iv 0, rv b71_o0, rv b71_o0, .val (.null), rv b74, rv b71_o0] [.ref b71_o0, .ref b71_o0])
        refine own_st (fun t k => Jvm.RoadKit.acmp (g := (mkF m 110 #[iv p1, iv p2, iv p3, iv p4, iv p5, iv 1, iv 0, iv 0, rv b71_o0, rv b71_o0, .val (.null), rv b74, rv b71_o0] [.ref b71_o0, .ref b71_o0])) X82 hx rfl rfl rfl (pc0 := 110) (pc' := 113) (same := true) rfl (hb hby at_110) rfl (decide_eq_true rfl) (by decide) (by decide) k) ?_
        show own_E p e below _ T82 (mkF m 113 #[iv p1, iv p2, iv p3, iv p4, iv p5, iv 1, iv 0, iv 0, rv b71_o0, rv b71_o0, .val (.null), rv b74, rv b71_o0] [])
        refine own_st (fun t k => XS.iconst X82.here hx rfl (hb hby at_113) k) ?_
        show own_E p e below _ T82 (mkF m 114 #[iv p1, iv p2, iv p3, iv p4, iv p5, iv 1, iv 0, iv 0, rv b71_o0, rv b71_o0, .val (.null), rv b74, rv b71_o0] [.int 1])
        refine own_st (fun t k => XS.goto X82.here hx rfl (pc0 := 114) (pc' := 118) rfl (hb hby at_114) (by decide) (by decide) k) ?_
        show own_E p e below _ T82 (mkF m 118 #[iv p1, iv p2, iv p3, iv p4, iv p5, iv 1, iv 0, iv 0, rv b71_o0, rv b71_o0, .val (.null), rv b74, rv b71_o0] [.int 1])
        refine own_retSW X82 hS71 (by rw [e82]; exact hk80) hx Bd.notSynchronized Bd.returns rfl (by decide) (hb hby at_118) (by decide) (by decide) ?_
        exact ⟨rfl, N82⟩
      · rw [hs70]
        show own_E p e below _ s₁ (mkF m 30 #[iv p1, iv p2, iv p3, iv p4, iv p5, iv 1, iv 0, iv 1, .unset, .unset, .unset, .unset, .unset] [])
        refine own_st (fun t k => XS.iload X0.here hx rfl (hb hby at_30) rfl k) ?_
        show own_E p e below _ s₁ (mkF m 32 #[iv p1, iv p2, iv p3, iv p4, iv p5, iv 1, iv 0, iv 1, .unset, .unset, .unset, .unset, .unset] [.int 1])
        refine own_st (fun t k => XS.iloadN X0.here hx rfl (hb hby at_32) rfl k) ?_
        show own_E p e below _ s₁ (mkF m 33 #[iv p1, iv p2, iv p3, iv p4, iv p5, iv 1, iv 0, iv 1, .unset, .unset, .unset, .unset, .unset] [.int p3, .int 1])
        refine own_st (fun t k => XS.iloadN X0.here hx rfl (hb hby at_33) rfl k) ?_
        show own_E p e below _ s₁ (mkF m 34 #[iv p1, iv p2, iv p3, iv p4, iv p5, iv 1, iv 0, iv 1, .unset, .unset, .unset, .unset, .unset] [.int p4, .int p3, .int 1])
        obtain ⟨_, _, ⟨T83, L83, k83, n83⟩, -, X83, ⟨Lc83, hQ83, l83, y83, z83⟩, st83⟩ := Jvm.LawKit.callS X0 hx (y := own_y3) hown (mvT hZ (own_w hw 1 rfl)) (mvT hZ (own_w hw 2 rfl)) (mvT hZ (own_w hw 3 rfl)) (mvT hZ (own_w hw 4 rfl)) (by decide) (backOf (W := 0) (own_drawn1 l Z a0 hw [] zc p3 p4 h0 n0 Z0 SC hzc) hZ (own_w hw 4 rfl) (own_w hw 3 rfl) (by decide) (by decide)) (g := (mkF m 34 #[iv p1, iv p2, iv p3, iv p4, iv p5, iv 1, iv 0, iv 1, .unset, .unset, .unset, .unset, .unset] [.int p4, .int p3, .int 1])) rfl (by rw [hml]; rfl) (argsL := [(.int (1 : Int32)), (.int p3), (.int p4)]) (rest := []) (lenOf own_pd_2 rfl) rfl (by show 2 * 0 + _ ≤ _; exact Nat.le_of_eq rfl) (hb hby at_34) (fun _ _ => ⟨rfl, e0, (by decide : 0 + 3 ≤ _), (by decide : 0 + 6 ≤ _)⟩)
        dsimp only [Pt.U, Pt.locs, Pt.cells, Pt.slots] at X83 l83 y83 z83 st83 hQ83
        subst l83 y83 z83
        obtain ⟨b83_o0, rfl, Nq83, Kq83, sz83_0, P83_0⟩ := hQ83
        have N83 := Fr.app (Fr.nil n0) Nq83
        have g_b83_o0 : n0 ≤ b83_o0 := Nat.le_trans Z0 sz83_0
        have sz_b83_o0 : h0.size ≤ b83_o0 := Nat.le_trans (Keep.refl h0 []).1 sz83_0
        have e83 : T83.heap = T83.heap := rfl
        have Z84 := Nat.le_trans Z0 Kq83.1
        have K85 : Keep h0 _ [] := (Keep.refl h0 []).trans Kq83 all0
        refine own_st st83 ?_
        show own_E p e below _ T83 (mkF m 37 #[iv p1, iv p2, iv p3, iv p4, iv p5, iv 1, iv 0, iv 1, .unset, .unset, .unset, .unset, .unset] [.ref b83_o0])
        refine own_st (fun t k => XS.astore X83.here hx rfl (hb hby at_37) rfl rfl (l' := #[iv p1, iv p2, iv p3, iv p4, iv p5, iv 1, iv 0, iv 1, rv b83_o0, .unset, .unset, .unset, .unset]) rfl k) ?_
        show own_E p e below _ T83 (mkF m 39 #[iv p1, iv p2, iv p3, iv p4, iv p5, iv 1, iv 0, iv 1, rv b83_o0, .unset, .unset, .unset, .unset] [])
        refine own_st (fun t k => XS.iload X83.here hx rfl (hb hby at_39) rfl k) ?_
        show own_E p e below _ T83 (mkF m 41 #[iv p1, iv p2, iv p3, iv p4, iv p5, iv 1, iv 0, iv 1, rv b83_o0, .unset, .unset, .unset, .unset] [.int 1])
        refine own_st (fun t k => XS.iconst X83.here hx rfl (hb hby at_41) k) ?_
        show own_E p e below _ T83 (mkF m 42 #[iv p1, iv p2, iv p3, iv p4, iv p5, iv 1, iv 0, iv 1, rv b83_o0, .unset, .unset, .unset, .unset] [.int 1, .int 1])
        refine own_st (fun t k => XS.icmpNo X83.here hx rfl (hb hby at_42) rfl (by decide) k) ?_
        show own_E p e below _ T83 (mkF m 45 #[iv p1, iv p2, iv p3, iv p4, iv p5, iv 1, iv 0, iv 1, rv b83_o0, .unset, .unset, .unset, .unset] [])
        refine own_st (fun t k => XS.aload X83.here hx rfl (hb hby at_45) rfl rfl k) ?_
        show own_E p e below _ T83 (mkF m 47 #[iv p1, iv p2, iv p3, iv p4, iv p5, iv 1, iv 0, iv 1, rv b83_o0, .unset, .unset, .unset, .unset] [.ref b83_o0])
        refine own_st (fun t k => XS.goto X83.here hx rfl (pc0 := 47) (pc' := 51) rfl (hb hby at_47) (by decide) (by decide) k) ?_
        show own_E p e below _ T83 (mkF m 51 #[iv p1, iv p2, iv p3, iv p4, iv p5, iv 1, iv 0, iv 1, rv b83_o0, .unset, .unset, .unset, .unset] [.ref b83_o0])
        refine own_st (fun t k => XS.astore X83.here hx rfl (hb hby at_51) rfl rfl (l' := #[iv p1, iv p2, iv p3, iv p4, iv p5, iv 1, iv 0, iv 1, rv b83_o0, rv b83_o0, .unset, .unset, .unset]) rfl k) ?_
        show own_E p e below _ T83 (mkF m 53 #[iv p1, iv p2, iv p3, iv p4, iv p5, iv 1, iv 0, iv 1, rv b83_o0, rv b83_o0, .unset, .unset, .unset] [])
        refine own_st (fun t k => XS.iload X83.here hx rfl (hb hby at_53) rfl k) ?_
        show own_E p e below _ T83 (mkF m 55 #[iv p1, iv p2, iv p3, iv p4, iv p5, iv 1, iv 0, iv 1, rv b83_o0, rv b83_o0, .unset, .unset, .unset] [.int 1])
        refine own_st (fun t k => XS.iconst X83.here hx rfl (hb hby at_55) k) ?_
        show own_E p e below _ T83 (mkF m 56 #[iv p1, iv p2, iv p3, iv p4, iv p5, iv 1, iv 0, iv 1, rv b83_o0, rv b83_o0, .unset, .unset, .unset] [.int 2, .int 1])
        refine own_st (fun t k => XS.icmpYes X83.here hx rfl (pc0 := 56) (pc' := 64) rfl (hb hby at_56) rfl (by decide) (by decide) (by decide) k) ?_
        show own_E p e below _ T83 (mkF m 64 #[iv p1, iv p2, iv p3, iv p4, iv p5, iv 1, iv 0, iv 1, rv b83_o0, rv b83_o0, .unset, .unset, .unset] [])
        refine own_st (fun t k => XS.aconstNull X83.here hx rfl (hb hby at_64) k) ?_
        show own_E p e below _ T83 (mkF m 65 #[iv p1, iv p2, iv p3, iv p4, iv p5, iv 1, iv 0, iv 1, rv b83_o0, rv b83_o0, .unset, .unset, .unset] [.null])
        refine own_st (fun t k => XS.astore X83.here hx rfl (hb hby at_65) rfl rfl (l' := #[iv p1, iv p2, iv p3, iv p4, iv p5, iv 1, iv 0, iv 1, rv b83_o0, rv b83_o0, .val (.null), .unset, .unset]) rfl k) ?_
        show own_E p e below _ T83 (mkF m 67 #[iv p1, iv p2, iv p3, iv p4, iv p5, iv 1, iv 0, iv 1, rv b83_o0, rv b83_o0, .val (.null), .unset, .unset] [])
        obtain ⟨T86, h86, X86, e86, E86, A86, D86, -, st86⟩ := newO X83 hx hZ hown (own_w hw 27 rfl) (own_w hw 28 rfl) (own_w hw 29 rfl) e83 (g := (mkF m 67 #[iv p1, iv p2, iv p3, iv p4, iv p5, iv 1, iv 0, iv 1, rv b83_o0, rv b83_o0, .val (.null), .unset, .unset] [])) rfl (hb hby at_67) (by decide) (by decide)
        obtain ⟨b86, g86⟩ : ∃ z, z = T83.heap.size := ⟨_, rfl⟩
        rw [← g86] at A86 D86 st86
        have ne_b83_o0_b86 : b83_o0 ≠ b86 := Nat.ne_of_lt (Nat.lt_of_lt_of_le P83_0.lt (Nat.le_of_eq g86.symm))
        have g_b86 : n0 ≤ b86 := Nat.le_trans Z84 (Nat.le_of_eq g86.symm)
        have sz_b86 : h0.size ≤ b86 := Nat.le_trans K85.1 (Nat.le_of_eq g86.symm)
        have Z87 := Nat.le_trans Z84 E86.1
        have K88 : Keep h0 _ [] := K85.ext E86
        have F_limit_b86 : Fld Z h86 b86 "com/example/acquirer/acquirer/PageRequest" "limit" "I" (.int (0 : Int32)) := D86 (Or.inr (own_w hw 40 rfl)) (ty := .int) (by decide)
        have F_startingAfter_b86 : Fld Z h86 b86 "com/example/acquirer/acquirer/PageRequest" "startingAfter" "Ljava/lang/String;" .null := D86 (Or.inr (own_w hw 42 rfl)) (ty := (.object "java/lang/String")) (by decide)
        have F_endingBefore_b86 : Fld Z h86 b86 "com/example/acquirer/acquirer/PageRequest" "endingBefore" "Ljava/lang/String;" .null := D86 (Or.inr (own_w hw 44 rfl)) (ty := (.object "java/lang/String")) (by decide)
        have F_descending_b86 : Fld Z h86 b86 "com/example/acquirer/acquirer/PageRequest" "descending" "Z" (.int (0 : Int32)) := D86 (Or.inr (own_w hw 46 rfl)) (ty := .boolean) (by decide)
        refine own_st st86 ?_
        show own_E p e below _ T86 (mkF m 70 #[iv p1, iv p2, iv p3, iv p4, iv p5, iv 1, iv 0, iv 1, rv b83_o0, rv b83_o0, .val (.null), .unset, .unset] [.ref b86])
        refine own_st (fun t k => XS.dup X86.here hx rfl (hb hby at_70) rfl rfl k) ?_
        show own_E p e below _ T86 (mkF m 71 #[iv p1, iv p2, iv p3, iv p4, iv p5, iv 1, iv 0, iv 1, rv b83_o0, rv b83_o0, .val (.null), .unset, .unset] [.ref b86, .ref b86])
        refine own_st (fun t k => XS.iloadN X86.here hx rfl (hb hby at_71) rfl k) ?_
        show own_E p e below _ T86 (mkF m 72 #[iv p1, iv p2, iv p3, iv p4, iv p5, iv 1, iv 0, iv 1, rv b83_o0, rv b83_o0, .val (.null), .unset, .unset] [.int p2, .ref b86, .ref b86])
        refine own_st (fun t k => XS.aload X86.here hx rfl (hb hby at_72) rfl rfl k) ?_
        show own_E p e below _ T86 (mkF m 74 #[iv p1, iv p2, iv p3, iv p4, iv p5, iv 1, iv 0, iv 1, rv b83_o0, rv b83_o0, .val (.null), .unset, .unset] [.ref b83_o0, .int p2, .ref b86, .ref b86])
        refine own_st (fun t k => XS.aload X86.here hx rfl (hb hby at_74) rfl rfl k) ?_
        show own_E p e below _ T86 (mkF m 76 #[iv p1, iv p2, iv p3, iv p4, iv p5, iv 1, iv 0, iv 1, rv b83_o0, rv b83_o0, .val (.null), .unset, .unset] [.null, .ref b83_o0, .int p2, .ref b86, .ref b86])
        refine own_st (fun t k => XS.iload X86.here hx rfl (hb hby at_76) rfl k) ?_
        show own_E p e below _ T86 (mkF m 78 #[iv p1, iv p2, iv p3, iv p4, iv p5, iv 1, iv 0, iv 1, rv b83_o0, rv b83_o0, .val (.null), .unset, .unset] [.int 0, .null, .ref b83_o0, .int p2, .ref b86, .ref b86])
        obtain ⟨_, _, ⟨T89, L89, k89, n89⟩, -, X89, ⟨Lc89, hQ89, l89, y89, z89⟩, st89⟩ := X86.specialBack hx (y := own_y4) rfl hown (mvT hZ (own_w hw 30 rfl)) (mvT hZ (own_w hw 31 rfl)) (mvT hZ (own_w hw 32 rfl)) (by decide) (backOf (W := 1) (own_init100 l Z a0 hw [] b86 b83_o0 p2 h86 n0 Z87 A86 F_limit_b86 F_startingAfter_b86 F_endingBefore_b86 F_descending_b86 g_b86) hZ (own_w hw 32 rfl) (own_w hw 29 rfl) (by decide) (by decide)) (g := (mkF m 78 #[iv p1, iv p2, iv p3, iv p4, iv p5, iv 1, iv 0, iv 1, rv b83_o0, rv b83_o0, .val (.null), .unset, .unset] [.int 0, .null, .ref b83_o0, .int p2, .ref b86, .ref b86])) rfl (by rw [hml]; rfl) (Steps.refl _) (a := b86) (argsL := [(.int p2), (.ref b83_o0), .null, (.int (0 : Int32))]) (rest := [(.ref b86)]) (lenOf own_pd_4 rfl) rfl (by show 2 * 0 + _ ≤ _; exact Nat.le_of_eq rfl) (hb hby at_78) (fun _ _ => ⟨rfl, e86, (by decide : 4 + 0 ≤ _), (by decide : 10 + 0 ≤ _)⟩)
        dsimp only [Pt.U, Pt.locs, Pt.cells, Pt.slots] at X89 l89 y89 z89 st89 hQ89
        subst l89 y89 z89
        obtain ⟨rfl, Nq89, Kq89, P89_0, P89_1, P89_2⟩ := hQ89
        have N89 := Fr.app N83 Nq89
        have e89 : T89.heap = T89.heap := rfl
        have Z90 := Nat.le_trans Z87 Kq89.1
        have K91 : Keep h0 _ [] := K88.trans Kq89 (allS (P := fun x => x ∈ [] ∨ h0.size ≤ x) (Or.inr sz_b86) all0)
        refine own_tr st89 ?_
        show own_E p e below _ T89 (mkF m 81 #[iv p1, iv p2, iv p3, iv p4, iv p5, iv 1, iv 0, iv 1, rv b83_o0, rv b83_o0, .val (.null), .unset, .unset] [.ref b86])
        refine own_st (fun t k => XS.astore X89.here hx rfl (hb hby at_81) rfl rfl (l' := #[iv p1, iv p2, iv p3, iv p4, iv p5, iv 1, iv 0, iv 1, rv b83_o0, rv b83_o0, .val (.null), rv b86, .unset]) rfl k) ?_
        show own_E p e below _ T89 (mkF m 83 #[iv p1, iv p2, iv p3, iv p4, iv p5, iv 1, iv 0, iv 1, rv b83_o0, rv b83_o0, .val (.null), rv b86, .unset] [])
        refine own_st (fun t k => XS.aload X89.here hx rfl (hb hby at_83) rfl rfl k) ?_
        show own_E p e below _ T89 (mkF m 85 #[iv p1, iv p2, iv p3, iv p4, iv p5, iv 1, iv 0, iv 1, rv b83_o0, rv b83_o0, .val (.null), rv b86, .unset] [.ref b86])
        obtain ⟨cq92, kq92, q92a, q92b, q92c⟩ := isOf hZ e89 P89_0
        obtain ⟨_, _, ⟨T92, L92, k92, n92⟩, -, X92, ⟨Lc92, hQ92, l92, y92, z92⟩, st92⟩ := X89.virtualBack hx (y := own_y5) (z := own_y5) hown (mvT hZ (own_w hw 47 rfl)) (mvT hZ (own_w hw 48 rfl)) (notFace_of_selects (args := #[]) (mvT hZ (own_w hw 50 rfl))) (mvT hZ (own_w hw 50 rfl)) (mvT hZ (own_w hw 49 rfl)) (by decide) (backOf (W := 0) (own_cur10 l Z a0 hw [] b86 b83_o0 T89.heap n0 Z90 P89_1 P89_2) hZ (own_w hw 51 rfl) (own_w hw 29 rfl) (by decide) (by decide)) q92a q92c (g := (mkF m 85 #[iv p1, iv p2, iv p3, iv p4, iv p5, iv 1, iv 0, iv 1, rv b83_o0, rv b83_o0, .val (.null), rv b86, .unset] [.ref b86])) rfl (by rw [hml]; rfl) (Steps.refl _) (argsL := []) (rest := []) (lenOf own_pd_0 rfl) rfl (by show 2 * 0 + _ ≤ _; exact Nat.le_of_eq rfl) (hb hby at_85) (fun _ _ => ⟨rfl, e89, (by decide : 4 + 0 ≤ _), (by decide : 10 + 0 ≤ _)⟩)
        dsimp only [Pt.U, Pt.locs, Pt.cells, Pt.slots] at X92 l92 y92 z92 st92 hQ92
        subst l92 y92 z92
        obtain ⟨hR92, e92, rfl⟩ := hQ92
        have N92 := Fr.app N89 (Fr.nil n0)
        obtain rfl := hR92
        refine own_tr st92 ?_
        show own_E p e below _ T92 (mkF m 88 #[iv p1, iv p2, iv p3, iv p4, iv p5, iv 1, iv 0, iv 1, rv b83_o0, rv b83_o0, .val (.null), rv b86, .unset] [.ref b83_o0])
        refine own_st (fun t k => XS.astore X92.here hx rfl (hb hby at_88) rfl rfl (l' := #[iv p1, iv p2, iv p3, iv p4, iv p5, iv 1, iv 0, iv 1, rv b83_o0, rv b83_o0, .val (.null), rv b86, rv b83_o0]) rfl k) ?_
        show own_E p e below _ T92 (mkF m 90 #[iv p1, iv p2, iv p3, iv p4, iv p5, iv 1, iv 0, iv 1, rv b83_o0, rv b83_o0, .val (.null), rv b86, rv b83_o0] [])
        refine own_st (fun t k => XS.iload X92.here hx rfl (hb hby at_90) rfl k) ?_
        show own_E p e below _ T92 (mkF m 92 #[iv p1, iv p2, iv p3, iv p4, iv p5, iv 1, iv 0, iv 1, rv b83_o0, rv b83_o0, .val (.null), rv b86, rv b83_o0] [.int 1])
        refine own_st (fun t k => XS.ifYes X92.here hx rfl (pc0 := 92) (pc' := 106) rfl (hb hby at_92) rfl (by decide) (by decide) (by decide) k) ?_
        show own_E p e below _ T92 (mkF m 106 #[iv p1, iv p2, iv p3, iv p4, iv p5, iv 1, iv 0, iv 1, rv b83_o0, rv b83_o0, .val (.null), rv b86, rv b83_o0] [])
        refine own_st (fun t k => XS.aload X92.here hx rfl (hb hby at_106) rfl rfl k) ?_
        show own_E p e below _ T92 (mkF m 108 #[iv p1, iv p2, iv p3, iv p4, iv p5, iv 1, iv 0, iv 1, rv b83_o0, rv b83_o0, .val (.null), rv b86, rv b83_o0] [.ref b83_o0])
        refine own_st (fun t k => XS.aload X92.here hx rfl (hb hby at_108) rfl rfl k) ?_
        show own_E p e below _ T92 (mkF m 110 #[iv p1, iv p2, iv p3, iv p4, iv p5, iv 1, iv 0, iv 1, rv b83_o0, rv b83_o0, .val (.null), rv b86, rv b83_o0] [.ref b83_o0, .ref b83_o0])
        refine own_st (fun t k => Jvm.RoadKit.acmp (g := (mkF m 110 #[iv p1, iv p2, iv p3, iv p4, iv p5, iv 1, iv 0, iv 1, rv b83_o0, rv b83_o0, .val (.null), rv b86, rv b83_o0] [.ref b83_o0, .ref b83_o0])) X92 hx rfl rfl rfl (pc0 := 110) (pc' := 113) (same := true) rfl (hb hby at_110) rfl (decide_eq_true rfl) (by decide) (by decide) k) ?_
        show own_E p e below _ T92 (mkF m 113 #[iv p1, iv p2, iv p3, iv p4, iv p5, iv 1, iv 0, iv 1, rv b83_o0, rv b83_o0, .val (.null), rv b86, rv b83_o0] [])
        refine own_st (fun t k => XS.iconst X92.here hx rfl (hb hby at_113) k) ?_
        show own_E p e below _ T92 (mkF m 114 #[iv p1, iv p2, iv p3, iv p4, iv p5, iv 1, iv 0, iv 1, rv b83_o0, rv b83_o0, .val (.null), rv b86, rv b83_o0] [.int 1])
        refine own_st (fun t k => XS.goto X92.here hx rfl (pc0 := 114) (pc' := 118) rfl (hb hby at_114) (by decide) (by decide) k) ?_
        show own_E p e below _ T92 (mkF m 118 #[iv p1, iv p2, iv p3, iv p4, iv p5, iv 1, iv 0, iv 1, rv b83_o0, rv b83_o0, .val (.null), rv b86, rv b83_o0] [.int 1])
        refine own_retSW X92 (own_since s) (by rw [e92]; exact (Nat.zero_le _)) hx Bd.notSynchronized Bd.returns rfl (by decide) (hb hby at_118) (by decide) (by decide) ?_
        exact ⟨rfl, N92⟩
      · rw [hs70]
        show own_E p e below _ s₁ (mkF m 30 #[iv p1, iv p2, iv p3, iv p4, iv p5, iv 1, iv 0, iv 2, .unset, .unset, .unset, .unset, .unset] [])
        refine own_st (fun t k => XS.iload X0.here hx rfl (hb hby at_30) rfl k) ?_
        show own_E p e below _ s₁ (mkF m 32 #[iv p1, iv p2, iv p3, iv p4, iv p5, iv 1, iv 0, iv 2, .unset, .unset, .unset, .unset, .unset] [.int 2])
        refine own_st (fun t k => XS.iloadN X0.here hx rfl (hb hby at_32) rfl k) ?_
        show own_E p e below _ s₁ (mkF m 33 #[iv p1, iv p2, iv p3, iv p4, iv p5, iv 1, iv 0, iv 2, .unset, .unset, .unset, .unset, .unset] [.int p3, .int 2])
        refine own_st (fun t k => XS.iloadN X0.here hx rfl (hb hby at_33) rfl k) ?_
        show own_E p e below _ s₁ (mkF m 34 #[iv p1, iv p2, iv p3, iv p4, iv p5, iv 1, iv 0, iv 2, .unset, .unset, .unset, .unset, .unset] [.int p4, .int p3, .int 2])
        obtain ⟨_, _, ⟨T93, L93, k93, n93⟩, -, X93, ⟨Lc93, hQ93, l93, y93, z93⟩, st93⟩ := Jvm.LawKit.callS X0 hx (y := own_y3) hown (mvT hZ (own_w hw 1 rfl)) (mvT hZ (own_w hw 2 rfl)) (mvT hZ (own_w hw 3 rfl)) (mvT hZ (own_w hw 4 rfl)) (by decide) (backOf (W := 0) (own_drawn2 l Z a0 hw [] zc p3 p4 h0 n0 Z0 SC hzc) hZ (own_w hw 4 rfl) (own_w hw 3 rfl) (by decide) (by decide)) (g := (mkF m 34 #[iv p1, iv p2, iv p3, iv p4, iv p5, iv 1, iv 0, iv 2, .unset, .unset, .unset, .unset, .unset] [.int p4, .int p3, .int 2])) rfl (by rw [hml]; rfl) (argsL := [(.int (2 : Int32)), (.int p3), (.int p4)]) (rest := []) (lenOf own_pd_2 rfl) rfl (by show 2 * 0 + _ ≤ _; exact Nat.le_of_eq rfl) (hb hby at_34) (fun _ _ => ⟨rfl, e0, (by decide : 0 + 3 ≤ _), (by decide : 0 + 8 ≤ _)⟩)
        dsimp only [Pt.U, Pt.locs, Pt.cells, Pt.slots] at X93 l93 y93 z93 st93 hQ93
        subst l93 y93 z93
        obtain ⟨b93_o0, rfl, Nq93, Kq93, sz93_0, P93_0⟩ := hQ93
        have N93 := Fr.app (Fr.nil n0) Nq93
        have g_b93_o0 : n0 ≤ b93_o0 := Nat.le_trans Z0 sz93_0
        have sz_b93_o0 : h0.size ≤ b93_o0 := Nat.le_trans (Keep.refl h0 []).1 sz93_0
        have e93 : T93.heap = T93.heap := rfl
        have Z94 := Nat.le_trans Z0 Kq93.1
        have K95 : Keep h0 _ [] := (Keep.refl h0 []).trans Kq93 all0
        refine own_st st93 ?_
        show own_E p e below _ T93 (mkF m 37 #[iv p1, iv p2, iv p3, iv p4, iv p5, iv 1, iv 0, iv 2, .unset, .unset, .unset, .unset, .unset] [.ref b93_o0])
        refine own_st (fun t k => XS.astore X93.here hx rfl (hb hby at_37) rfl rfl (l' := #[iv p1, iv p2, iv p3, iv p4, iv p5, iv 1, iv 0, iv 2, rv b93_o0, .unset, .unset, .unset, .unset]) rfl k) ?_
        show own_E p e below _ T93 (mkF m 39 #[iv p1, iv p2, iv p3, iv p4, iv p5, iv 1, iv 0, iv 2, rv b93_o0, .unset, .unset, .unset, .unset] [])
        refine own_st (fun t k => XS.iload X93.here hx rfl (hb hby at_39) rfl k) ?_
        show own_E p e below _ T93 (mkF m 41 #[iv p1, iv p2, iv p3, iv p4, iv p5, iv 1, iv 0, iv 2, rv b93_o0, .unset, .unset, .unset, .unset] [.int 1])
        refine own_st (fun t k => XS.iconst X93.here hx rfl (hb hby at_41) k) ?_
        show own_E p e below _ T93 (mkF m 42 #[iv p1, iv p2, iv p3, iv p4, iv p5, iv 1, iv 0, iv 2, rv b93_o0, .unset, .unset, .unset, .unset] [.int 1, .int 1])
        refine own_st (fun t k => XS.icmpNo X93.here hx rfl (hb hby at_42) rfl (by decide) k) ?_
        show own_E p e below _ T93 (mkF m 45 #[iv p1, iv p2, iv p3, iv p4, iv p5, iv 1, iv 0, iv 2, rv b93_o0, .unset, .unset, .unset, .unset] [])
        refine own_st (fun t k => XS.aload X93.here hx rfl (hb hby at_45) rfl rfl k) ?_
        show own_E p e below _ T93 (mkF m 47 #[iv p1, iv p2, iv p3, iv p4, iv p5, iv 1, iv 0, iv 2, rv b93_o0, .unset, .unset, .unset, .unset] [.ref b93_o0])
        refine own_st (fun t k => XS.goto X93.here hx rfl (pc0 := 47) (pc' := 51) rfl (hb hby at_47) (by decide) (by decide) k) ?_
        show own_E p e below _ T93 (mkF m 51 #[iv p1, iv p2, iv p3, iv p4, iv p5, iv 1, iv 0, iv 2, rv b93_o0, .unset, .unset, .unset, .unset] [.ref b93_o0])
        refine own_st (fun t k => XS.astore X93.here hx rfl (hb hby at_51) rfl rfl (l' := #[iv p1, iv p2, iv p3, iv p4, iv p5, iv 1, iv 0, iv 2, rv b93_o0, rv b93_o0, .unset, .unset, .unset]) rfl k) ?_
        show own_E p e below _ T93 (mkF m 53 #[iv p1, iv p2, iv p3, iv p4, iv p5, iv 1, iv 0, iv 2, rv b93_o0, rv b93_o0, .unset, .unset, .unset] [])
        refine own_st (fun t k => XS.iload X93.here hx rfl (hb hby at_53) rfl k) ?_
        show own_E p e below _ T93 (mkF m 55 #[iv p1, iv p2, iv p3, iv p4, iv p5, iv 1, iv 0, iv 2, rv b93_o0, rv b93_o0, .unset, .unset, .unset] [.int 1])
        refine own_st (fun t k => XS.iconst X93.here hx rfl (hb hby at_55) k) ?_
        show own_E p e below _ T93 (mkF m 56 #[iv p1, iv p2, iv p3, iv p4, iv p5, iv 1, iv 0, iv 2, rv b93_o0, rv b93_o0, .unset, .unset, .unset] [.int 2, .int 1])
        refine own_st (fun t k => XS.icmpYes X93.here hx rfl (pc0 := 56) (pc' := 64) rfl (hb hby at_56) rfl (by decide) (by decide) (by decide) k) ?_
        show own_E p e below _ T93 (mkF m 64 #[iv p1, iv p2, iv p3, iv p4, iv p5, iv 1, iv 0, iv 2, rv b93_o0, rv b93_o0, .unset, .unset, .unset] [])
        refine own_st (fun t k => XS.aconstNull X93.here hx rfl (hb hby at_64) k) ?_
        show own_E p e below _ T93 (mkF m 65 #[iv p1, iv p2, iv p3, iv p4, iv p5, iv 1, iv 0, iv 2, rv b93_o0, rv b93_o0, .unset, .unset, .unset] [.null])
        refine own_st (fun t k => XS.astore X93.here hx rfl (hb hby at_65) rfl rfl (l' := #[iv p1, iv p2, iv p3, iv p4, iv p5, iv 1, iv 0, iv 2, rv b93_o0, rv b93_o0, .val (.null), .unset, .unset]) rfl k) ?_
        show own_E p e below _ T93 (mkF m 67 #[iv p1, iv p2, iv p3, iv p4, iv p5, iv 1, iv 0, iv 2, rv b93_o0, rv b93_o0, .val (.null), .unset, .unset] [])
        obtain ⟨T96, h96, X96, e96, E96, A96, D96, -, st96⟩ := newO X93 hx hZ hown (own_w hw 27 rfl) (own_w hw 28 rfl) (own_w hw 29 rfl) e93 (g := (mkF m 67 #[iv p1, iv p2, iv p3, iv p4, iv p5, iv 1, iv 0, iv 2, rv b93_o0, rv b93_o0, .val (.null), .unset, .unset] [])) rfl (hb hby at_67) (by decide) (by decide)
        obtain ⟨b96, g96⟩ : ∃ z, z = T93.heap.size := ⟨_, rfl⟩
        rw [← g96] at A96 D96 st96
        have ne_b93_o0_b96 : b93_o0 ≠ b96 := Nat.ne_of_lt (Nat.lt_of_lt_of_le P93_0.lt (Nat.le_of_eq g96.symm))
        have g_b96 : n0 ≤ b96 := Nat.le_trans Z94 (Nat.le_of_eq g96.symm)
        have sz_b96 : h0.size ≤ b96 := Nat.le_trans K95.1 (Nat.le_of_eq g96.symm)
        have Z97 := Nat.le_trans Z94 E96.1
        have K98 : Keep h0 _ [] := K95.ext E96
        have F_limit_b96 : Fld Z h96 b96 "com/example/acquirer/acquirer/PageRequest" "limit" "I" (.int (0 : Int32)) := D96 (Or.inr (own_w hw 40 rfl)) (ty := .int) (by decide)
        have F_startingAfter_b96 : Fld Z h96 b96 "com/example/acquirer/acquirer/PageRequest" "startingAfter" "Ljava/lang/String;" .null := D96 (Or.inr (own_w hw 42 rfl)) (ty := (.object "java/lang/String")) (by decide)
        have F_endingBefore_b96 : Fld Z h96 b96 "com/example/acquirer/acquirer/PageRequest" "endingBefore" "Ljava/lang/String;" .null := D96 (Or.inr (own_w hw 44 rfl)) (ty := (.object "java/lang/String")) (by decide)
        have F_descending_b96 : Fld Z h96 b96 "com/example/acquirer/acquirer/PageRequest" "descending" "Z" (.int (0 : Int32)) := D96 (Or.inr (own_w hw 46 rfl)) (ty := .boolean) (by decide)
        refine own_st st96 ?_
        show own_E p e below _ T96 (mkF m 70 #[iv p1, iv p2, iv p3, iv p4, iv p5, iv 1, iv 0, iv 2, rv b93_o0, rv b93_o0, .val (.null), .unset, .unset] [.ref b96])
        refine own_st (fun t k => XS.dup X96.here hx rfl (hb hby at_70) rfl rfl k) ?_
        show own_E p e below _ T96 (mkF m 71 #[iv p1, iv p2, iv p3, iv p4, iv p5, iv 1, iv 0, iv 2, rv b93_o0, rv b93_o0, .val (.null), .unset, .unset] [.ref b96, .ref b96])
        refine own_st (fun t k => XS.iloadN X96.here hx rfl (hb hby at_71) rfl k) ?_
        show own_E p e below _ T96 (mkF m 72 #[iv p1, iv p2, iv p3, iv p4, iv p5, iv 1, iv 0, iv 2, rv b93_o0, rv b93_o0, .val (.null), .unset, .unset] [.int p2, .ref b96, .ref b96])
        refine own_st (fun t k => XS.aload X96.here hx rfl (hb hby at_72) rfl rfl k) ?_
        show own_E p e below _ T96 (mkF m 74 #[iv p1, iv p2, iv p3, iv p4, iv p5, iv 1, iv 0, iv 2, rv b93_o0, rv b93_o0, .val (.null), .unset, .unset] [.ref b93_o0, .int p2, .ref b96, .ref b96])
        refine own_st (fun t k => XS.aload X96.here hx rfl (hb hby at_74) rfl rfl k) ?_
        show own_E p e below _ T96 (mkF m 76 #[iv p1, iv p2, iv p3, iv p4, iv p5, iv 1, iv 0, iv 2, rv b93_o0, rv b93_o0, .val (.null), .unset, .unset] [.null, .ref b93_o0, .int p2, .ref b96, .ref b96])
        refine own_st (fun t k => XS.iload X96.here hx rfl (hb hby at_76) rfl k) ?_
        show own_E p e below _ T96 (mkF m 78 #[iv p1, iv p2, iv p3, iv p4, iv p5, iv 1, iv 0, iv 2, rv b93_o0, rv b93_o0, .val (.null), .unset, .unset] [.int 0, .null, .ref b93_o0, .int p2, .ref b96, .ref b96])
        obtain ⟨_, _, ⟨T99, L99, k99, n99⟩, -, X99, ⟨Lc99, hQ99, l99, y99, z99⟩, st99⟩ := X96.specialBack hx (y := own_y4) rfl hown (mvT hZ (own_w hw 30 rfl)) (mvT hZ (own_w hw 31 rfl)) (mvT hZ (own_w hw 32 rfl)) (by decide) (backOf (W := 1) (own_init100 l Z a0 hw [] b96 b93_o0 p2 h96 n0 Z97 A96 F_limit_b96 F_startingAfter_b96 F_endingBefore_b96 F_descending_b96 g_b96) hZ (own_w hw 32 rfl) (own_w hw 29 rfl) (by decide) (by decide)) (g := (mkF m 78 #[iv p1, iv p2, iv p3, iv p4, iv p5, iv 1, iv 0, iv 2, rv b93_o0, rv b93_o0, .val (.null), .unset, .unset] [.int 0, .null, .ref b93_o0, .int p2, .ref b96, .ref b96])) rfl (by rw [hml]; rfl) (Steps.refl _) (a := b96) (argsL := [(.int p2), (.ref b93_o0), .null, (.int (0 : Int32))]) (rest := [(.ref b96)]) (lenOf own_pd_4 rfl) rfl (by show 2 * 0 + _ ≤ _; exact Nat.le_of_eq rfl) (hb hby at_78) (fun _ _ => ⟨rfl, e96, (by decide : 4 + 0 ≤ _), (by decide : 12 + 0 ≤ _)⟩)
        dsimp only [Pt.U, Pt.locs, Pt.cells, Pt.slots] at X99 l99 y99 z99 st99 hQ99
        subst l99 y99 z99
        obtain ⟨rfl, Nq99, Kq99, P99_0, P99_1, P99_2⟩ := hQ99
        have N99 := Fr.app N93 Nq99
        have e99 : T99.heap = T99.heap := rfl
        have Z100 := Nat.le_trans Z97 Kq99.1
        have K101 : Keep h0 _ [] := K98.trans Kq99 (allS (P := fun x => x ∈ [] ∨ h0.size ≤ x) (Or.inr sz_b96) all0)
        refine own_tr st99 ?_
        show own_E p e below _ T99 (mkF m 81 #[iv p1, iv p2, iv p3, iv p4, iv p5, iv 1, iv 0, iv 2, rv b93_o0, rv b93_o0, .val (.null), .unset, .unset] [.ref b96])
        refine own_st (fun t k => XS.astore X99.here hx rfl (hb hby at_81) rfl rfl (l' := #[iv p1, iv p2, iv p3, iv p4, iv p5, iv 1, iv 0, iv 2, rv b93_o0, rv b93_o0, .val (.null), rv b96, .unset]) rfl k) ?_
        show own_E p e below _ T99 (mkF m 83 #[iv p1, iv p2, iv p3, iv p4, iv p5, iv 1, iv 0, iv 2, rv b93_o0, rv b93_o0, .val (.null), rv b96, .unset] [])
        refine own_st (fun t k => XS.aload X99.here hx rfl (hb hby at_83) rfl rfl k) ?_
        show own_E p e below _ T99 (mkF m 85 #[iv p1, iv p2, iv p3, iv p4, iv p5, iv 1, iv 0, iv 2, rv b93_o0, rv b93_o0, .val (.null), rv b96, .unset] [.ref b96])
        obtain ⟨cq102, kq102, q102a, q102b, q102c⟩ := isOf hZ e99 P99_0
        obtain ⟨_, _, ⟨T102, L102, k102, n102⟩, -, X102, ⟨Lc102, hQ102, l102, y102, z102⟩, st102⟩ := X99.virtualBack hx (y := own_y5) (z := own_y5) hown (mvT hZ (own_w hw 47 rfl)) (mvT hZ (own_w hw 48 rfl)) (notFace_of_selects (args := #[]) (mvT hZ (own_w hw 50 rfl))) (mvT hZ (own_w hw 50 rfl)) (mvT hZ (own_w hw 49 rfl)) (by decide) (backOf (W := 0) (own_cur10 l Z a0 hw [] b96 b93_o0 T99.heap n0 Z100 P99_1 P99_2) hZ (own_w hw 51 rfl) (own_w hw 29 rfl) (by decide) (by decide)) q102a q102c (g := (mkF m 85 #[iv p1, iv p2, iv p3, iv p4, iv p5, iv 1, iv 0, iv 2, rv b93_o0, rv b93_o0, .val (.null), rv b96, .unset] [.ref b96])) rfl (by rw [hml]; rfl) (Steps.refl _) (argsL := []) (rest := []) (lenOf own_pd_0 rfl) rfl (by show 2 * 0 + _ ≤ _; exact Nat.le_of_eq rfl) (hb hby at_85) (fun _ _ => ⟨rfl, e99, (by decide : 4 + 0 ≤ _), (by decide : 12 + 0 ≤ _)⟩)
        dsimp only [Pt.U, Pt.locs, Pt.cells, Pt.slots] at X102 l102 y102 z102 st102 hQ102
        subst l102 y102 z102
        obtain ⟨hR102, e102, rfl⟩ := hQ102
        have N102 := Fr.app N99 (Fr.nil n0)
        obtain rfl := hR102
        refine own_tr st102 ?_
        show own_E p e below _ T102 (mkF m 88 #[iv p1, iv p2, iv p3, iv p4, iv p5, iv 1, iv 0, iv 2, rv b93_o0, rv b93_o0, .val (.null), rv b96, .unset] [.ref b93_o0])
        refine own_st (fun t k => XS.astore X102.here hx rfl (hb hby at_88) rfl rfl (l' := #[iv p1, iv p2, iv p3, iv p4, iv p5, iv 1, iv 0, iv 2, rv b93_o0, rv b93_o0, .val (.null), rv b96, rv b93_o0]) rfl k) ?_
        show own_E p e below _ T102 (mkF m 90 #[iv p1, iv p2, iv p3, iv p4, iv p5, iv 1, iv 0, iv 2, rv b93_o0, rv b93_o0, .val (.null), rv b96, rv b93_o0] [])
        refine own_st (fun t k => XS.iload X102.here hx rfl (hb hby at_90) rfl k) ?_
        show own_E p e below _ T102 (mkF m 92 #[iv p1, iv p2, iv p3, iv p4, iv p5, iv 1, iv 0, iv 2, rv b93_o0, rv b93_o0, .val (.null), rv b96, rv b93_o0] [.int 1])
        refine own_st (fun t k => XS.ifYes X102.here hx rfl (pc0 := 92) (pc' := 106) rfl (hb hby at_92) rfl (by decide) (by decide) (by decide) k) ?_
        show own_E p e below _ T102 (mkF m 106 #[iv p1, iv p2, iv p3, iv p4, iv p5, iv 1, iv 0, iv 2, rv b93_o0, rv b93_o0, .val (.null), rv b96, rv b93_o0] [])
        refine own_st (fun t k => XS.aload X102.here hx rfl (hb hby at_106) rfl rfl k) ?_
        show own_E p e below _ T102 (mkF m 108 #[iv p1, iv p2, iv p3, iv p4, iv p5, iv 1, iv 0, iv 2, rv b93_o0, rv b93_o0, .val (.null), rv b96, rv b93_o0] [.ref b93_o0])
        refine own_st (fun t k => XS.aload X102.here hx rfl (hb hby at_108) rfl rfl k) ?_
        show own_E p e below _ T102 (mkF m 110 #[iv p1, iv p2, iv p3, iv p4, iv p5, iv 1, iv 0, iv 2, rv b93_o0, rv b93_o0, .val (.null), rv b96, rv b93_o0] [.ref b93_o0, .ref b93_o0])
        refine own_st (fun t k => Jvm.RoadKit.acmp (g := (mkF m 110 #[iv p1, iv p2, iv p3, iv p4, iv p5, iv 1, iv 0, iv 2, rv b93_o0, rv b93_o0, .val (.null), rv b96, rv b93_o0] [.ref b93_o0, .ref b93_o0])) X102 hx rfl rfl rfl (pc0 := 110) (pc' := 113) (same := true) rfl (hb hby at_110) rfl (decide_eq_true rfl) (by decide) (by decide) k) ?_
        show own_E p e below _ T102 (mkF m 113 #[iv p1, iv p2, iv p3, iv p4, iv p5, iv 1, iv 0, iv 2, rv b93_o0, rv b93_o0, .val (.null), rv b96, rv b93_o0] [])
        refine own_st (fun t k => XS.iconst X102.here hx rfl (hb hby at_113) k) ?_
        show own_E p e below _ T102 (mkF m 114 #[iv p1, iv p2, iv p3, iv p4, iv p5, iv 1, iv 0, iv 2, rv b93_o0, rv b93_o0, .val (.null), rv b96, rv b93_o0] [.int 1])
        refine own_st (fun t k => XS.goto X102.here hx rfl (pc0 := 114) (pc' := 118) rfl (hb hby at_114) (by decide) (by decide) k) ?_
        show own_E p e below _ T102 (mkF m 118 #[iv p1, iv p2, iv p3, iv p4, iv p5, iv 1, iv 0, iv 2, rv b93_o0, rv b93_o0, .val (.null), rv b96, rv b93_o0] [.int 1])
        refine own_retSW X102 (own_since s) (by rw [e102]; exact (Nat.zero_le _)) hx Bd.notSynchronized Bd.returns rfl (by decide) (hb hby at_118) (by decide) (by decide) ?_
        exact ⟨rfl, N102⟩
    · refine own_st (fun t k => XS.ifNo X0.here hx rfl (hb hby at_12) rfl ((if0 _ _).trans (feq hc69).1) k) ?_
      show own_E p e below _ s₁ (mkF m 15 #[iv p1, iv p2, iv p3, iv p4, iv p5, iv 1, .unset, .unset, .unset, .unset, .unset, .unset, .unset] [])
      refine own_st (fun t k => XS.iconst X0.here hx rfl (hb hby at_15) k) ?_
      show own_E p e below _ s₁ (mkF m 16 #[iv p1, iv p2, iv p3, iv p4, iv p5, iv 1, .unset, .unset, .unset, .unset, .unset, .unset, .unset] [.int 1])
      refine own_st (fun t k => XS.goto X0.here hx rfl (pc0 := 16) (pc' := 20) rfl (hb hby at_16) (by decide) (by decide) k) ?_
      show own_E p e below _ s₁ (mkF m 20 #[iv p1, iv p2, iv p3, iv p4, iv p5, iv 1, .unset, .unset, .unset, .unset, .unset, .unset, .unset] [.int 1])
      refine own_st (fun t k => XS.istore X0.here hx rfl (hb hby at_20) rfl (l' := #[iv p1, iv p2, iv p3, iv p4, iv p5, iv 1, iv 1, .unset, .unset, .unset, .unset, .unset, .unset]) rfl k) ?_
      show own_E p e below _ s₁ (mkF m 22 #[iv p1, iv p2, iv p3, iv p4, iv p5, iv 1, iv 1, .unset, .unset, .unset, .unset, .unset, .unset] [])
      refine own_st (fun t k => XS.iload X0.here hx rfl (hb hby at_22) rfl k) ?_
      show own_E p e below _ s₁ (mkF m 24 #[iv p1, iv p2, iv p3, iv p4, iv p5, iv 1, iv 1, .unset, .unset, .unset, .unset, .unset, .unset] [.int p5])
      refine own_st (fun t k => XS.iconst X0.here hx rfl (hb hby at_24) k) ?_
      show own_E p e below _ s₁ (mkF m 25 #[iv p1, iv p2, iv p3, iv p4, iv p5, iv 1, iv 1, .unset, .unset, .unset, .unset, .unset, .unset] [.int 1, .int p5])
      refine own_st (fun t k => XS.iushr X0.here hx rfl (hb hby at_25) rfl k) ?_
      show own_E p e below _ s₁ (mkF m 26 #[iv p1, iv p2, iv p3, iv p4, iv p5, iv 1, iv 1, .unset, .unset, .unset, .unset, .unset, .unset] [.int ((p5.toUInt32 >>> ((1 : Int32) &&& 31).toUInt32).toInt32)])
      refine own_st (fun t k => XS.iconst X0.here hx rfl (hb hby at_26) k) ?_
      show own_E p e below _ s₁ (mkF m 27 #[iv p1, iv p2, iv p3, iv p4, iv p5, iv 1, iv 1, .unset, .unset, .unset, .unset, .unset, .unset] [.int 3, .int ((p5.toUInt32 >>> ((1 : Int32) &&& 31).toUInt32).toInt32)])
      refine own_st (fun t k => iremM X0 hx rfl (hb hby at_27) rfl (by decide) k) ?_
      show own_E p e below _ s₁ (mkF m 28 #[iv p1, iv p2, iv p3, iv p4, iv p5, iv 1, iv 1, .unset, .unset, .unset, .unset, .unset, .unset] [.int (((p5.toUInt32 >>> ((1 : Int32) &&& 31).toUInt32).toInt32) % (3 : Int32))])
      refine own_st (fun t k => XS.istore X0.here hx rfl (hb hby at_28) rfl (l' := #[iv p1, iv p2, iv p3, iv p4, iv p5, iv 1, iv 1, iv (((p5.toUInt32 >>> ((1 : Int32) &&& 31).toUInt32).toInt32) % (3 : Int32)), .unset, .unset, .unset, .unset, .unset]) rfl k) ?_
      show own_E p e below _ s₁ (mkF m 30 #[iv p1, iv p2, iv p3, iv p4, iv p5, iv 1, iv 1, iv (((p5.toUInt32 >>> ((1 : Int32) &&& 31).toUInt32).toInt32) % (3 : Int32)), .unset, .unset, .unset, .unset, .unset] [])
      rcases own_len3 p5 with hs103 | hs103 | hs103
      · rw [hs103]
        show own_E p e below _ s₁ (mkF m 30 #[iv p1, iv p2, iv p3, iv p4, iv p5, iv 1, iv 1, iv 0, .unset, .unset, .unset, .unset, .unset] [])
        refine own_st (fun t k => XS.iload X0.here hx rfl (hb hby at_30) rfl k) ?_
        show own_E p e below _ s₁ (mkF m 32 #[iv p1, iv p2, iv p3, iv p4, iv p5, iv 1, iv 1, iv 0, .unset, .unset, .unset, .unset, .unset] [.int 0])
        refine own_st (fun t k => XS.iloadN X0.here hx rfl (hb hby at_32) rfl k) ?_
        show own_E p e below _ s₁ (mkF m 33 #[iv p1, iv p2, iv p3, iv p4, iv p5, iv 1, iv 1, iv 0, .unset, .unset, .unset, .unset, .unset] [.int p3, .int 0])
        refine own_st (fun t k => XS.iloadN X0.here hx rfl (hb hby at_33) rfl k) ?_
        show own_E p e below _ s₁ (mkF m 34 #[iv p1, iv p2, iv p3, iv p4, iv p5, iv 1, iv 1, iv 0, .unset, .unset, .unset, .unset, .unset] [.int p4, .int p3, .int 0])
        obtain ⟨_, _, ⟨T104, L104, k104, n104⟩, -, X104, hS104, hgr104, ⟨Lc104, hQ104, l104, y104, z104⟩, st104⟩ := callSS X0 hx (y := own_y3) hown (mvT hZ (own_w hw 1 rfl)) (mvT hZ (own_w hw 2 rfl)) (mvT hZ (own_w hw 3 rfl)) (mvT hZ (own_w hw 4 rfl)) (by decide) (own_backI (W := 0) (own_drawn0 l Z a0 hw [] p3 p4 h0 n0 Z0 hO hheld hcw) hZ hI (own_w hw 4 rfl) (own_w hw 3 rfl) (by decide) (by decide)) (g := (mkF m 34 #[iv p1, iv p2, iv p3, iv p4, iv p5, iv 1, iv 1, iv 0, .unset, .unset, .unset, .unset, .unset] [.int p4, .int p3, .int 0])) rfl (by rw [hml]; rfl) (argsL := [(.int (0 : Int32)), (.int p3), (.int p4)]) (rest := []) (lenOf own_pd_2 rfl) rfl (by show 2 * 0 + _ ≤ _; exact Nat.le_of_eq rfl) (hb hby at_34) (fun _ _ => ⟨rfl, e0, (by decide : 0 + 4 ≤ _), (by decide : 0 + 8 ≤ _)⟩)
        dsimp only [Pt.U, Pt.locs, Pt.cells, Pt.slots] at X104 l104 y104 z104 st104 hQ104 hS104 hgr104
        subst l104 y104 z104
        have hZ104 := own_Zw hZ hS104
        have ho104 := own_ow hown hS104
        have hk104 := Nat.le_refl T104.heap.size
        obtain ⟨b104_o0, rfl, Nq104, Kq104, sz104_0, P104_0⟩ := hQ104
        have N104 := Fr.app (Fr.nil n0) Nq104
        have g_b104_o0 : n0 ≤ b104_o0 := Nat.le_trans Z0 sz104_0
        have sz_b104_o0 : h0.size ≤ b104_o0 := Nat.le_trans (Keep.refl h0 []).1 sz104_0
        have e104 : T104.heap = T104.heap := rfl
        have Z105 := Nat.le_trans Z0 Kq104.1
        have K106 : Keep h0 _ [] := (Keep.refl h0 []).trans Kq104 all0
        refine own_tr st104 ?_
        show own_E p e below _ T104 (mkF m 37 #[iv p1, iv p2, iv p3, iv p4, iv p5, iv 1, iv 1, iv 0, .unset, .unset, .unset, .unset, .unset] [.ref b104_o0])
        refine own_st (fun t k => XS.astore X104.here hx rfl (hb hby at_37) rfl rfl (l' := #[iv p1, iv p2, iv p3, iv p4, iv p5, iv 1, iv 1, iv 0, rv b104_o0, .unset, .unset, .unset, .unset]) rfl k) ?_
        show own_E p e below _ T104 (mkF m 39 #[iv p1, iv p2, iv p3, iv p4, iv p5, iv 1, iv 1, iv 0, rv b104_o0, .unset, .unset, .unset, .unset] [])
        refine own_st (fun t k => XS.iload X104.here hx rfl (hb hby at_39) rfl k) ?_
        show own_E p e below _ T104 (mkF m 41 #[iv p1, iv p2, iv p3, iv p4, iv p5, iv 1, iv 1, iv 0, rv b104_o0, .unset, .unset, .unset, .unset] [.int 1])
        refine own_st (fun t k => XS.iconst X104.here hx rfl (hb hby at_41) k) ?_
        show own_E p e below _ T104 (mkF m 42 #[iv p1, iv p2, iv p3, iv p4, iv p5, iv 1, iv 1, iv 0, rv b104_o0, .unset, .unset, .unset, .unset] [.int 1, .int 1])
        refine own_st (fun t k => XS.icmpNo X104.here hx rfl (hb hby at_42) rfl (by decide) k) ?_
        show own_E p e below _ T104 (mkF m 45 #[iv p1, iv p2, iv p3, iv p4, iv p5, iv 1, iv 1, iv 0, rv b104_o0, .unset, .unset, .unset, .unset] [])
        refine own_st (fun t k => XS.aload X104.here hx rfl (hb hby at_45) rfl rfl k) ?_
        show own_E p e below _ T104 (mkF m 47 #[iv p1, iv p2, iv p3, iv p4, iv p5, iv 1, iv 1, iv 0, rv b104_o0, .unset, .unset, .unset, .unset] [.ref b104_o0])
        refine own_st (fun t k => XS.goto X104.here hx rfl (pc0 := 47) (pc' := 51) rfl (hb hby at_47) (by decide) (by decide) k) ?_
        show own_E p e below _ T104 (mkF m 51 #[iv p1, iv p2, iv p3, iv p4, iv p5, iv 1, iv 1, iv 0, rv b104_o0, .unset, .unset, .unset, .unset] [.ref b104_o0])
        refine own_st (fun t k => XS.astore X104.here hx rfl (hb hby at_51) rfl rfl (l' := #[iv p1, iv p2, iv p3, iv p4, iv p5, iv 1, iv 1, iv 0, rv b104_o0, rv b104_o0, .unset, .unset, .unset]) rfl k) ?_
        show own_E p e below _ T104 (mkF m 53 #[iv p1, iv p2, iv p3, iv p4, iv p5, iv 1, iv 1, iv 0, rv b104_o0, rv b104_o0, .unset, .unset, .unset] [])
        refine own_st (fun t k => XS.iload X104.here hx rfl (hb hby at_53) rfl k) ?_
        show own_E p e below _ T104 (mkF m 55 #[iv p1, iv p2, iv p3, iv p4, iv p5, iv 1, iv 1, iv 0, rv b104_o0, rv b104_o0, .unset, .unset, .unset] [.int 1])
        refine own_st (fun t k => XS.iconst X104.here hx rfl (hb hby at_55) k) ?_
        show own_E p e below _ T104 (mkF m 56 #[iv p1, iv p2, iv p3, iv p4, iv p5, iv 1, iv 1, iv 0, rv b104_o0, rv b104_o0, .unset, .unset, .unset] [.int 2, .int 1])
        refine own_st (fun t k => XS.icmpYes X104.here hx rfl (pc0 := 56) (pc' := 64) rfl (hb hby at_56) rfl (by decide) (by decide) (by decide) k) ?_
        show own_E p e below _ T104 (mkF m 64 #[iv p1, iv p2, iv p3, iv p4, iv p5, iv 1, iv 1, iv 0, rv b104_o0, rv b104_o0, .unset, .unset, .unset] [])
        refine own_st (fun t k => XS.aconstNull X104.here hx rfl (hb hby at_64) k) ?_
        show own_E p e below _ T104 (mkF m 65 #[iv p1, iv p2, iv p3, iv p4, iv p5, iv 1, iv 1, iv 0, rv b104_o0, rv b104_o0, .unset, .unset, .unset] [.null])
        refine own_st (fun t k => XS.astore X104.here hx rfl (hb hby at_65) rfl rfl (l' := #[iv p1, iv p2, iv p3, iv p4, iv p5, iv 1, iv 1, iv 0, rv b104_o0, rv b104_o0, .val (.null), .unset, .unset]) rfl k) ?_
        show own_E p e below _ T104 (mkF m 67 #[iv p1, iv p2, iv p3, iv p4, iv p5, iv 1, iv 1, iv 0, rv b104_o0, rv b104_o0, .val (.null), .unset, .unset] [])
        obtain ⟨T107, h107, X107, e107, E107, A107, D107, -, st107⟩ := newO X104 hx hZ104 ho104 (own_w hw 27 rfl) (own_w hw 28 rfl) (own_w hw 29 rfl) e104 (g := (mkF m 67 #[iv p1, iv p2, iv p3, iv p4, iv p5, iv 1, iv 1, iv 0, rv b104_o0, rv b104_o0, .val (.null), .unset, .unset] [])) rfl (hb hby at_67) (by decide) (by decide)
        obtain ⟨b107, g107⟩ : ∃ z, z = T104.heap.size := ⟨_, rfl⟩
        rw [← g107] at A107 D107 st107
        have ne_b104_o0_b107 : b104_o0 ≠ b107 := Nat.ne_of_lt (Nat.lt_of_lt_of_le P104_0.lt (Nat.le_of_eq g107.symm))
        have g_b107 : n0 ≤ b107 := Nat.le_trans Z105 (Nat.le_of_eq g107.symm)
        have sz_b107 : h0.size ≤ b107 := Nat.le_trans K106.1 (Nat.le_of_eq g107.symm)
        have Z108 := Nat.le_trans Z105 E107.1
        have hk109 := Nat.le_trans hk104 E107.1
        have K110 : Keep h0 _ [] := K106.ext E107
        have F_limit_b107 : Fld Z h107 b107 "com/example/acquirer/acquirer/PageRequest" "limit" "I" (.int (0 : Int32)) := D107 (Or.inr (own_w hw 40 rfl)) (ty := .int) (by decide)
        have F_startingAfter_b107 : Fld Z h107 b107 "com/example/acquirer/acquirer/PageRequest" "startingAfter" "Ljava/lang/String;" .null := D107 (Or.inr (own_w hw 42 rfl)) (ty := (.object "java/lang/String")) (by decide)
        have F_endingBefore_b107 : Fld Z h107 b107 "com/example/acquirer/acquirer/PageRequest" "endingBefore" "Ljava/lang/String;" .null := D107 (Or.inr (own_w hw 44 rfl)) (ty := (.object "java/lang/String")) (by decide)
        have F_descending_b107 : Fld Z h107 b107 "com/example/acquirer/acquirer/PageRequest" "descending" "Z" (.int (0 : Int32)) := D107 (Or.inr (own_w hw 46 rfl)) (ty := .boolean) (by decide)
        refine own_st st107 ?_
        show own_E p e below _ T107 (mkF m 70 #[iv p1, iv p2, iv p3, iv p4, iv p5, iv 1, iv 1, iv 0, rv b104_o0, rv b104_o0, .val (.null), .unset, .unset] [.ref b107])
        refine own_st (fun t k => XS.dup X107.here hx rfl (hb hby at_70) rfl rfl k) ?_
        show own_E p e below _ T107 (mkF m 71 #[iv p1, iv p2, iv p3, iv p4, iv p5, iv 1, iv 1, iv 0, rv b104_o0, rv b104_o0, .val (.null), .unset, .unset] [.ref b107, .ref b107])
        refine own_st (fun t k => XS.iloadN X107.here hx rfl (hb hby at_71) rfl k) ?_
        show own_E p e below _ T107 (mkF m 72 #[iv p1, iv p2, iv p3, iv p4, iv p5, iv 1, iv 1, iv 0, rv b104_o0, rv b104_o0, .val (.null), .unset, .unset] [.int p2, .ref b107, .ref b107])
        refine own_st (fun t k => XS.aload X107.here hx rfl (hb hby at_72) rfl rfl k) ?_
        show own_E p e below _ T107 (mkF m 74 #[iv p1, iv p2, iv p3, iv p4, iv p5, iv 1, iv 1, iv 0, rv b104_o0, rv b104_o0, .val (.null), .unset, .unset] [.ref b104_o0, .int p2, .ref b107, .ref b107])
        refine own_st (fun t k => XS.aload X107.here hx rfl (hb hby at_74) rfl rfl k) ?_
        show own_E p e below _ T107 (mkF m 76 #[iv p1, iv p2, iv p3, iv p4, iv p5, iv 1, iv 1, iv 0, rv b104_o0, rv b104_o0, .val (.null), .unset, .unset] [.null, .ref b104_o0, .int p2, .ref b107, .ref b107])
        refine own_st (fun t k => XS.iload X107.here hx rfl (hb hby at_76) rfl k) ?_
        show own_E p e below _ T107 (mkF m 78 #[iv p1, iv p2, iv p3, iv p4, iv p5, iv 1, iv 1, iv 0, rv b104_o0, rv b104_o0, .val (.null), .unset, .unset] [.int 1, .null, .ref b104_o0, .int p2, .ref b107, .ref b107])
        obtain ⟨_, _, ⟨T111, L111, k111, n111⟩, -, X111, ⟨Lc111, hQ111, l111, y111, z111⟩, st111⟩ := X107.specialBack hx (y := own_y4) rfl ho104 (mvT hZ104 (own_w hw 30 rfl)) (mvT hZ104 (own_w hw 31 rfl)) (mvT hZ104 (own_w hw 32 rfl)) (by decide) (backOf (W := 1) (own_init101 l Z a0 hw [] b107 b104_o0 p2 h107 n0 Z108 A107 F_limit_b107 F_startingAfter_b107 F_endingBefore_b107 F_descending_b107 g_b107) hZ104 (own_w hw 32 rfl) (own_w hw 29 rfl) (by decide) (by decide)) (g := (mkF m 78 #[iv p1, iv p2, iv p3, iv p4, iv p5, iv 1, iv 1, iv 0, rv b104_o0, rv b104_o0, .val (.null), .unset, .unset] [.int 1, .null, .ref b104_o0, .int p2, .ref b107, .ref b107])) rfl (by rw [hml]; rfl) (Steps.refl _) (a := b107) (argsL := [(.int p2), (.ref b104_o0), .null, (.int (1 : Int32))]) (rest := [(.ref b107)]) (lenOf own_pd_4 rfl) rfl (by show 2 * 0 + _ ≤ _; exact Nat.le_of_eq rfl) (hb hby at_78) (fun _ _ => ⟨rfl, e107, (by decide : 5 + 0 ≤ _), (by decide : 12 + 0 ≤ _)⟩)
        dsimp only [Pt.U, Pt.locs, Pt.cells, Pt.slots] at X111 l111 y111 z111 st111 hQ111
        subst l111 y111 z111
        obtain ⟨rfl, Nq111, Kq111, P111_0, P111_1, P111_2⟩ := hQ111
        have N111 := Fr.app N104 Nq111
        have e111 : T111.heap = T111.heap := rfl
        have Z112 := Nat.le_trans Z108 Kq111.1
        have hk113 := Nat.le_trans hk109 Kq111.1
        have K114 : Keep h0 _ [] := K110.trans Kq111 (allS (P := fun x => x ∈ [] ∨ h0.size ≤ x) (Or.inr sz_b107) all0)
        refine own_tr st111 ?_
        show own_E p e below _ T111 (mkF m 81 #[iv p1, iv p2, iv p3, iv p4, iv p5, iv 1, iv 1, iv 0, rv b104_o0, rv b104_o0, .val (.null), .unset, .unset] [.ref b107])
        refine own_st (fun t k => XS.astore X111.here hx rfl (hb hby at_81) rfl rfl (l' := #[iv p1, iv p2, iv p3, iv p4, iv p5, iv 1, iv 1, iv 0, rv b104_o0, rv b104_o0, .val (.null), rv b107, .unset]) rfl k) ?_
        show own_E p e below _ T111 (mkF m 83 #[iv p1, iv p2, iv p3, iv p4, iv p5, iv 1, iv 1, iv 0, rv b104_o0, rv b104_o0, .val (.null), rv b107, .unset] [])
        refine own_st (fun t k => XS.aload X111.here hx rfl (hb hby at_83) rfl rfl k) ?_
        show own_E p e below _ T111 (mkF m 85 #[iv p1, iv p2, iv p3, iv p4, iv p5, iv 1, iv 1, iv 0, rv b104_o0, rv b104_o0, .val (.null), rv b107, .unset] [.ref b107])
        obtain ⟨cq115, kq115, q115a, q115b, q115c⟩ := isOf hZ104 e111 P111_0
        obtain ⟨_, _, ⟨T115, L115, k115, n115⟩, -, X115, ⟨Lc115, hQ115, l115, y115, z115⟩, st115⟩ := X111.virtualBack hx (y := own_y5) (z := own_y5) ho104 (mvT hZ104 (own_w hw 47 rfl)) (mvT hZ104 (own_w hw 48 rfl)) (notFace_of_selects (args := #[]) (mvT hZ104 (own_w hw 50 rfl))) (mvT hZ104 (own_w hw 50 rfl)) (mvT hZ104 (own_w hw 49 rfl)) (by decide) (backOf (W := 0) (own_cur10 l Z a0 hw [] b107 b104_o0 T111.heap n0 Z112 P111_1 P111_2) hZ104 (own_w hw 51 rfl) (own_w hw 29 rfl) (by decide) (by decide)) q115a q115c (g := (mkF m 85 #[iv p1, iv p2, iv p3, iv p4, iv p5, iv 1, iv 1, iv 0, rv b104_o0, rv b104_o0, .val (.null), rv b107, .unset] [.ref b107])) rfl (by rw [hml]; rfl) (Steps.refl _) (argsL := []) (rest := []) (lenOf own_pd_0 rfl) rfl (by show 2 * 0 + _ ≤ _; exact Nat.le_of_eq rfl) (hb hby at_85) (fun _ _ => ⟨rfl, e111, (by decide : 5 + 0 ≤ _), (by decide : 12 + 0 ≤ _)⟩)
        dsimp only [Pt.U, Pt.locs, Pt.cells, Pt.slots] at X115 l115 y115 z115 st115 hQ115
        subst l115 y115 z115
        obtain ⟨hR115, e115, rfl⟩ := hQ115
        have N115 := Fr.app N111 (Fr.nil n0)
        obtain rfl := hR115
        refine own_tr st115 ?_
        show own_E p e below _ T115 (mkF m 88 #[iv p1, iv p2, iv p3, iv p4, iv p5, iv 1, iv 1, iv 0, rv b104_o0, rv b104_o0, .val (.null), rv b107, .unset] [.ref b104_o0])
        refine own_st (fun t k => XS.astore X115.here hx rfl (hb hby at_88) rfl rfl (l' := #[iv p1, iv p2, iv p3, iv p4, iv p5, iv 1, iv 1, iv 0, rv b104_o0, rv b104_o0, .val (.null), rv b107, rv b104_o0]) rfl k) ?_
        show own_E p e below _ T115 (mkF m 90 #[iv p1, iv p2, iv p3, iv p4, iv p5, iv 1, iv 1, iv 0, rv b104_o0, rv b104_o0, .val (.null), rv b107, rv b104_o0] [])
        refine own_st (fun t k => XS.iload X115.here hx rfl (hb hby at_90) rfl k) ?_
        show own_E p e below _ T115 (mkF m 92 #[iv p1, iv p2, iv p3, iv p4, iv p5, iv 1, iv 1, iv 0, rv b104_o0, rv b104_o0, .val (.null), rv b107, rv b104_o0] [.int 1])
        refine own_st (fun t k => XS.ifYes X115.here hx rfl (pc0 := 92) (pc' := 106) rfl (hb hby at_92) rfl (by decide) (by decide) (by decide) k) ?_
        show own_E p e below _ T115 (mkF m 106 #[iv p1, iv p2, iv p3, iv p4, iv p5, iv 1, iv 1, iv 0, rv b104_o0, rv b104_o0, .val (.null), rv b107, rv b104_o0] [])
        refine own_st (fun t k => XS.aload X115.here hx rfl (hb hby at_106) rfl rfl k) ?_
        show own_E p e below _ T115 (mkF m 108 #[iv p1, iv p2, iv p3, iv p4, iv p5, iv 1, iv 1, iv 0, rv b104_o0, rv b104_o0, .val (.null), rv b107, rv b104_o0] [.ref b104_o0])
        refine own_st (fun t k => XS.aload X115.here hx rfl (hb hby at_108) rfl rfl k) ?_
        show own_E p e below _ T115 (mkF m 110 #[iv p1, iv p2, iv p3, iv p4, iv p5, iv 1, iv 1, iv 0, rv b104_o0, rv b104_o0, .val (.null), rv b107, rv b104_o0] [.ref b104_o0, .ref b104_o0])
        refine own_st (fun t k => Jvm.RoadKit.acmp (g := (mkF m 110 #[iv p1, iv p2, iv p3, iv p4, iv p5, iv 1, iv 1, iv 0, rv b104_o0, rv b104_o0, .val (.null), rv b107, rv b104_o0] [.ref b104_o0, .ref b104_o0])) X115 hx rfl rfl rfl (pc0 := 110) (pc' := 113) (same := true) rfl (hb hby at_110) rfl (decide_eq_true rfl) (by decide) (by decide) k) ?_
        show own_E p e below _ T115 (mkF m 113 #[iv p1, iv p2, iv p3, iv p4, iv p5, iv 1, iv 1, iv 0, rv b104_o0, rv b104_o0, .val (.null), rv b107, rv b104_o0] [])
        refine own_st (fun t k => XS.iconst X115.here hx rfl (hb hby at_113) k) ?_
        show own_E p e below _ T115 (mkF m 114 #[iv p1, iv p2, iv p3, iv p4, iv p5, iv 1, iv 1, iv 0, rv b104_o0, rv b104_o0, .val (.null), rv b107, rv b104_o0] [.int 1])
        refine own_st (fun t k => XS.goto X115.here hx rfl (pc0 := 114) (pc' := 118) rfl (hb hby at_114) (by decide) (by decide) k) ?_
        show own_E p e below _ T115 (mkF m 118 #[iv p1, iv p2, iv p3, iv p4, iv p5, iv 1, iv 1, iv 0, rv b104_o0, rv b104_o0, .val (.null), rv b107, rv b104_o0] [.int 1])
        refine own_retSW X115 hS104 (by rw [e115]; exact hk113) hx Bd.notSynchronized Bd.returns rfl (by decide) (hb hby at_118) (by decide) (by decide) ?_
        exact ⟨rfl, N115⟩
      · rw [hs103]
        show own_E p e below _ s₁ (mkF m 30 #[iv p1, iv p2, iv p3, iv p4, iv p5, iv 1, iv 1, iv 1, .unset, .unset, .unset, .unset, .unset] [])
        refine own_st (fun t k => XS.iload X0.here hx rfl (hb hby at_30) rfl k) ?_
        show own_E p e below _ s₁ (mkF m 32 #[iv p1, iv p2, iv p3, iv p4, iv p5, iv 1, iv 1, iv 1, .unset, .unset, .unset, .unset, .unset] [.int 1])
        refine own_st (fun t k => XS.iloadN X0.here hx rfl (hb hby at_32) rfl k) ?_
        show own_E p e below _ s₁ (mkF m 33 #[iv p1, iv p2, iv p3, iv p4, iv p5, iv 1, iv 1, iv 1, .unset, .unset, .unset, .unset, .unset] [.int p3, .int 1])
        refine own_st (fun t k => XS.iloadN X0.here hx rfl (hb hby at_33) rfl k) ?_
        show own_E p e below _ s₁ (mkF m 34 #[iv p1, iv p2, iv p3, iv p4, iv p5, iv 1, iv 1, iv 1, .unset, .unset, .unset, .unset, .unset] [.int p4, .int p3, .int 1])
        obtain ⟨_, _, ⟨T116, L116, k116, n116⟩, -, X116, ⟨Lc116, hQ116, l116, y116, z116⟩, st116⟩ := Jvm.LawKit.callS X0 hx (y := own_y3) hown (mvT hZ (own_w hw 1 rfl)) (mvT hZ (own_w hw 2 rfl)) (mvT hZ (own_w hw 3 rfl)) (mvT hZ (own_w hw 4 rfl)) (by decide) (backOf (W := 0) (own_drawn1 l Z a0 hw [] zc p3 p4 h0 n0 Z0 SC hzc) hZ (own_w hw 4 rfl) (own_w hw 3 rfl) (by decide) (by decide)) (g := (mkF m 34 #[iv p1, iv p2, iv p3, iv p4, iv p5, iv 1, iv 1, iv 1, .unset, .unset, .unset, .unset, .unset] [.int p4, .int p3, .int 1])) rfl (by rw [hml]; rfl) (argsL := [(.int (1 : Int32)), (.int p3), (.int p4)]) (rest := []) (lenOf own_pd_2 rfl) rfl (by show 2 * 0 + _ ≤ _; exact Nat.le_of_eq rfl) (hb hby at_34) (fun _ _ => ⟨rfl, e0, (by decide : 0 + 3 ≤ _), (by decide : 0 + 6 ≤ _)⟩)
        dsimp only [Pt.U, Pt.locs, Pt.cells, Pt.slots] at X116 l116 y116 z116 st116 hQ116
        subst l116 y116 z116
        obtain ⟨b116_o0, rfl, Nq116, Kq116, sz116_0, P116_0⟩ := hQ116
        have N116 := Fr.app (Fr.nil n0) Nq116
        have g_b116_o0 : n0 ≤ b116_o0 := Nat.le_trans Z0 sz116_0
        have sz_b116_o0 : h0.size ≤ b116_o0 := Nat.le_trans (Keep.refl h0 []).1 sz116_0
        have e116 : T116.heap = T116.heap := rfl
        have Z117 := Nat.le_trans Z0 Kq116.1
        have K118 : Keep h0 _ [] := (Keep.refl h0 []).trans Kq116 all0
        refine own_st st116 ?_
        show own_E p e below _ T116 (mkF m 37 #[iv p1, iv p2, iv p3, iv p4, iv p5, iv 1, iv 1, iv 1, .unset, .unset, .unset, .unset, .unset] [.ref b116_o0])
        refine own_st (fun t k => XS.astore X116.here hx rfl (hb hby at_37) rfl rfl (l' := #[iv p1, iv p2, iv p3, iv p4, iv p5, iv 1, iv 1, iv 1, rv b116_o0, .unset, .unset, .unset, .unset]) rfl k) ?_
        show own_E p e below _ T116 (mkF m 39 #[iv p1, iv p2, iv p3, iv p4, iv p5, iv 1, iv 1, iv 1, rv b116_o0, .unset, .unset, .unset, .unset] [])
        refine own_st (fun t k => XS.iload X116.here hx rfl (hb hby at_39) rfl k) ?_
        show own_E p e below _ T116 (mkF m 41 #[iv p1, iv p2, iv p3, iv p4, iv p5, iv 1, iv 1, iv 1, rv b116_o0, .unset, .unset, .unset, .unset] [.int 1])
        refine own_st (fun t k => XS.iconst X116.here hx rfl (hb hby at_41) k) ?_
        show own_E p e below _ T116 (mkF m 42 #[iv p1, iv p2, iv p3, iv p4, iv p5, iv 1, iv 1, iv 1, rv b116_o0, .unset, .unset, .unset, .unset] [.int 1, .int 1])
        refine own_st (fun t k => XS.icmpNo X116.here hx rfl (hb hby at_42) rfl (by decide) k) ?_
        show own_E p e below _ T116 (mkF m 45 #[iv p1, iv p2, iv p3, iv p4, iv p5, iv 1, iv 1, iv 1, rv b116_o0, .unset, .unset, .unset, .unset] [])
        refine own_st (fun t k => XS.aload X116.here hx rfl (hb hby at_45) rfl rfl k) ?_
        show own_E p e below _ T116 (mkF m 47 #[iv p1, iv p2, iv p3, iv p4, iv p5, iv 1, iv 1, iv 1, rv b116_o0, .unset, .unset, .unset, .unset] [.ref b116_o0])
        refine own_st (fun t k => XS.goto X116.here hx rfl (pc0 := 47) (pc' := 51) rfl (hb hby at_47) (by decide) (by decide) k) ?_
        show own_E p e below _ T116 (mkF m 51 #[iv p1, iv p2, iv p3, iv p4, iv p5, iv 1, iv 1, iv 1, rv b116_o0, .unset, .unset, .unset, .unset] [.ref b116_o0])
        refine own_st (fun t k => XS.astore X116.here hx rfl (hb hby at_51) rfl rfl (l' := #[iv p1, iv p2, iv p3, iv p4, iv p5, iv 1, iv 1, iv 1, rv b116_o0, rv b116_o0, .unset, .unset, .unset]) rfl k) ?_
        show own_E p e below _ T116 (mkF m 53 #[iv p1, iv p2, iv p3, iv p4, iv p5, iv 1, iv 1, iv 1, rv b116_o0, rv b116_o0, .unset, .unset, .unset] [])
        refine own_st (fun t k => XS.iload X116.here hx rfl (hb hby at_53) rfl k) ?_
        show own_E p e below _ T116 (mkF m 55 #[iv p1, iv p2, iv p3, iv p4, iv p5, iv 1, iv 1, iv 1, rv b116_o0, rv b116_o0, .unset, .unset, .unset] [.int 1])
        refine own_st (fun t k => XS.iconst X116.here hx rfl (hb hby at_55) k) ?_
        show own_E p e below _ T116 (mkF m 56 #[iv p1, iv p2, iv p3, iv p4, iv p5, iv 1, iv 1, iv 1, rv b116_o0, rv b116_o0, .unset, .unset, .unset] [.int 2, .int 1])
        refine own_st (fun t k => XS.icmpYes X116.here hx rfl (pc0 := 56) (pc' := 64) rfl (hb hby at_56) rfl (by decide) (by decide) (by decide) k) ?_
        show own_E p e below _ T116 (mkF m 64 #[iv p1, iv p2, iv p3, iv p4, iv p5, iv 1, iv 1, iv 1, rv b116_o0, rv b116_o0, .unset, .unset, .unset] [])
        refine own_st (fun t k => XS.aconstNull X116.here hx rfl (hb hby at_64) k) ?_
        show own_E p e below _ T116 (mkF m 65 #[iv p1, iv p2, iv p3, iv p4, iv p5, iv 1, iv 1, iv 1, rv b116_o0, rv b116_o0, .unset, .unset, .unset] [.null])
        refine own_st (fun t k => XS.astore X116.here hx rfl (hb hby at_65) rfl rfl (l' := #[iv p1, iv p2, iv p3, iv p4, iv p5, iv 1, iv 1, iv 1, rv b116_o0, rv b116_o0, .val (.null), .unset, .unset]) rfl k) ?_
        show own_E p e below _ T116 (mkF m 67 #[iv p1, iv p2, iv p3, iv p4, iv p5, iv 1, iv 1, iv 1, rv b116_o0, rv b116_o0, .val (.null), .unset, .unset] [])
        obtain ⟨T119, h119, X119, e119, E119, A119, D119, -, st119⟩ := newO X116 hx hZ hown (own_w hw 27 rfl) (own_w hw 28 rfl) (own_w hw 29 rfl) e116 (g := (mkF m 67 #[iv p1, iv p2, iv p3, iv p4, iv p5, iv 1, iv 1, iv 1, rv b116_o0, rv b116_o0, .val (.null), .unset, .unset] [])) rfl (hb hby at_67) (by decide) (by decide)
        obtain ⟨b119, g119⟩ : ∃ z, z = T116.heap.size := ⟨_, rfl⟩
        rw [← g119] at A119 D119 st119
        have ne_b116_o0_b119 : b116_o0 ≠ b119 := Nat.ne_of_lt (Nat.lt_of_lt_of_le P116_0.lt (Nat.le_of_eq g119.symm))
        have g_b119 : n0 ≤ b119 := Nat.le_trans Z117 (Nat.le_of_eq g119.symm)
        have sz_b119 : h0.size ≤ b119 := Nat.le_trans K118.1 (Nat.le_of_eq g119.symm)
        have Z120 := Nat.le_trans Z117 E119.1
        have K121 : Keep h0 _ [] := K118.ext E119
        have F_limit_b119 : Fld Z h119 b119 "com/example/acquirer/acquirer/PageRequest" "limit" "I" (.int (0 : Int32)) := D119 (Or.inr (own_w hw 40 rfl)) (ty := .int) (by decide)
        have F_startingAfter_b119 : Fld Z h119 b119 "com/example/acquirer/acquirer/PageRequest" "startingAfter" "Ljava/lang/String;" .null := D119 (Or.inr (own_w hw 42 rfl)) (ty := (.object "java/lang/String")) (by decide)
        have F_endingBefore_b119 : Fld Z h119 b119 "com/example/acquirer/acquirer/PageRequest" "endingBefore" "Ljava/lang/String;" .null := D119 (Or.inr (own_w hw 44 rfl)) (ty := (.object "java/lang/String")) (by decide)
        have F_descending_b119 : Fld Z h119 b119 "com/example/acquirer/acquirer/PageRequest" "descending" "Z" (.int (0 : Int32)) := D119 (Or.inr (own_w hw 46 rfl)) (ty := .boolean) (by decide)
        refine own_st st119 ?_
        show own_E p e below _ T119 (mkF m 70 #[iv p1, iv p2, iv p3, iv p4, iv p5, iv 1, iv 1, iv 1, rv b116_o0, rv b116_o0, .val (.null), .unset, .unset] [.ref b119])
        refine own_st (fun t k => XS.dup X119.here hx rfl (hb hby at_70) rfl rfl k) ?_
        show own_E p e below _ T119 (mkF m 71 #[iv p1, iv p2, iv p3, iv p4, iv p5, iv 1, iv 1, iv 1, rv b116_o0, rv b116_o0, .val (.null), .unset, .unset] [.ref b119, .ref b119])
        refine own_st (fun t k => XS.iloadN X119.here hx rfl (hb hby at_71) rfl k) ?_
        show own_E p e below _ T119 (mkF m 72 #[iv p1, iv p2, iv p3, iv p4, iv p5, iv 1, iv 1, iv 1, rv b116_o0, rv b116_o0, .val (.null), .unset, .unset] [.int p2, .ref b119, .ref b119])
        refine own_st (fun t k => XS.aload X119.here hx rfl (hb hby at_72) rfl rfl k) ?_
        show own_E p e below _ T119 (mkF m 74 #[iv p1, iv p2, iv p3, iv p4, iv p5, iv 1, iv 1, iv 1, rv b116_o0, rv b116_o0, .val (.null), .unset, .unset] [.ref b116_o0, .int p2, .ref b119, .ref b119])
        refine own_st (fun t k => XS.aload X119.here hx rfl (hb hby at_74) rfl rfl k) ?_
        show own_E p e below _ T119 (mkF m 76 #[iv p1, iv p2, iv p3, iv p4, iv p5, iv 1, iv 1, iv 1, rv b116_o0, rv b116_o0, .val (.null), .unset, .unset] [.null, .ref b116_o0, .int p2, .ref b119, .ref b119])
        refine own_st (fun t k => XS.iload X119.here hx rfl (hb hby at_76) rfl k) ?_
        show own_E p e below _ T119 (mkF m 78 #[iv p1, iv p2, iv p3, iv p4, iv p5, iv 1, iv 1, iv 1, rv b116_o0, rv b116_o0, .val (.null), .unset, .unset] [.int 1, .null, .ref b116_o0, .int p2, .ref b119, .ref b119])
        obtain ⟨_, _, ⟨T122, L122, k122, n122⟩, -, X122, ⟨Lc122, hQ122, l122, y122, z122⟩, st122⟩ := X119.specialBack hx (y := own_y4) rfl hown (mvT hZ (own_w hw 30 rfl)) (mvT hZ (own_w hw 31 rfl)) (mvT hZ (own_w hw 32 rfl)) (by decide) (backOf (W := 1) (own_init101 l Z a0 hw [] b119 b116_o0 p2 h119 n0 Z120 A119 F_limit_b119 F_startingAfter_b119 F_endingBefore_b119 F_descending_b119 g_b119) hZ (own_w hw 32 rfl) (own_w hw 29 rfl) (by decide) (by decide)) (g := (mkF m 78 #[iv p1, iv p2, iv p3, iv p4, iv p5, iv 1, iv 1, iv 1, rv b116_o0, rv b116_o0, .val (.null), .unset, .unset] [.int 1, .null, .ref b116_o0, .int p2, .ref b119, .ref b119])) rfl (by rw [hml]; rfl) (Steps.refl _) (a := b119) (argsL := [(.int p2), (.ref b116_o0), .null, (.int (1 : Int32))]) (rest := [(.ref b119)]) (lenOf own_pd_4 rfl) rfl (by show 2 * 0 + _ ≤ _; exact Nat.le_of_eq rfl) (hb hby at_78) (fun _ _ => ⟨rfl, e119, (by decide : 4 + 0 ≤ _), (by decide : 10 + 0 ≤ _)⟩)
        dsimp only [Pt.U, Pt.locs, Pt.cells, Pt.slots] at X122 l122 y122 z122 st122 hQ122
        subst l122 y122 z122
        obtain ⟨rfl, Nq122, Kq122, P122_0, P122_1, P122_2⟩ := hQ122
        have N122 := Fr.app N116 Nq122
        have e122 : T122.heap = T122.heap := rfl
        have Z123 := Nat.le_trans Z120 Kq122.1
        have K124 : Keep h0 _ [] := K121.trans Kq122 (allS (P := fun x => x ∈ [] ∨ h0.size ≤ x) (Or.inr sz_b119) all0)
        refine own_tr st122 ?_
        show own_E p e below _ T122 (mkF m 81 #[iv p1, iv p2, iv p3, iv p4, iv p5, iv 1, iv 1, iv 1, rv b116_o0, rv b116_o0, .val (.null), .unset, .unset] [.ref b119])
        refine own_st (fun t k => XS.astore X122.here hx rfl (hb hby at_81) rfl rfl (l' := #[iv p1, iv p2, iv p3, iv p4, iv p5, iv 1, iv 1, iv 1, rv b116_o0, rv b116_o0, .val (.null), rv b119, .unset]) rfl k) ?_
        show own_E p e below _ T122 (mkF m 83 #[iv p1, iv p2, iv p3, iv p4, iv p5, iv 1, iv 1, iv 1, rv b116_o0, rv b116_o0, .val (.null), rv b119, .unset] [])
        refine own_st (fun t k => XS.aload X122.here hx rfl (hb hby at_83) rfl rfl k) ?_
        show own_E p e below _ T122 (mkF m 85 #[iv p1, iv p2, iv p3, iv p4, iv p5, iv 1, iv 1, iv 1, rv b116_o0, rv b116_o0, .val (.null), rv b119, .unset] [.ref b119])
        obtain ⟨cq125, kq125, q125a, q125b, q125c⟩ := isOf hZ e122 P122_0
        obtain ⟨_, _, ⟨T125, L125, k125, n125⟩, -, X125, ⟨Lc125, hQ125, l125, y125, z125⟩, st125⟩ := X122.virtualBack hx (y := own_y5) (z := own_y5) hown (mvT hZ (own_w hw 47 rfl)) (mvT hZ (own_w hw 48 rfl)) (notFace_of_selects (args := #[]) (mvT hZ (own_w hw 50 rfl))) (mvT hZ (own_w hw 50 rfl)) (mvT hZ (own_w hw 49 rfl)) (by decide) (backOf (W := 0) (own_cur10 l Z a0 hw [] b119 b116_o0 T122.heap n0 Z123 P122_1 P122_2) hZ (own_w hw 51 rfl) (own_w hw 29 rfl) (by decide) (by decide)) q125a q125c (g := (mkF m 85 #[iv p1, iv p2, iv p3, iv p4, iv p5, iv 1, iv 1, iv 1, rv b116_o0, rv b116_o0, .val (.null), rv b119, .unset] [.ref b119])) rfl (by rw [hml]; rfl) (Steps.refl _) (argsL := []) (rest := []) (lenOf own_pd_0 rfl) rfl (by show 2 * 0 + _ ≤ _; exact Nat.le_of_eq rfl) (hb hby at_85) (fun _ _ => ⟨rfl, e122, (by decide : 4 + 0 ≤ _), (by decide : 10 + 0 ≤ _)⟩)
        dsimp only [Pt.U, Pt.locs, Pt.cells, Pt.slots] at X125 l125 y125 z125 st125 hQ125
        subst l125 y125 z125
        obtain ⟨hR125, e125, rfl⟩ := hQ125
        have N125 := Fr.app N122 (Fr.nil n0)
        obtain rfl := hR125
        refine own_tr st125 ?_
        show own_E p e below _ T125 (mkF m 88 #[iv p1, iv p2, iv p3, iv p4, iv p5, iv 1, iv 1, iv 1, rv b116_o0, rv b116_o0, .val (.null), rv b119, .unset] [.ref b116_o0])
        refine own_st (fun t k => XS.astore X125.here hx rfl (hb hby at_88) rfl rfl (l' := #[iv p1, iv p2, iv p3, iv p4, iv p5, iv 1, iv 1, iv 1, rv b116_o0, rv b116_o0, .val (.null), rv b119, rv b116_o0]) rfl k) ?_
        show own_E p e below _ T125 (mkF m 90 #[iv p1, iv p2, iv p3, iv p4, iv p5, iv 1, iv 1, iv 1, rv b116_o0, rv b116_o0, .val (.null), rv b119, rv b116_o0] [])
        refine own_st (fun t k => XS.iload X125.here hx rfl (hb hby at_90) rfl k) ?_
        show own_E p e below _ T125 (mkF m 92 #[iv p1, iv p2, iv p3, iv p4, iv p5, iv 1, iv 1, iv 1, rv b116_o0, rv b116_o0, .val (.null), rv b119, rv b116_o0] [.int 1])
        refine own_st (fun t k => XS.ifYes X125.here hx rfl (pc0 := 92) (pc' := 106) rfl (hb hby at_92) rfl (by decide) (by decide) (by decide) k) ?_
        show own_E p e below _ T125 (mkF m 106 #[iv p1, iv p2, iv p3, iv p4, iv p5, iv 1, iv 1, iv 1, rv b116_o0, rv b116_o0, .val (.null), rv b119, rv b116_o0] [])
        refine own_st (fun t k => XS.aload X125.here hx rfl (hb hby at_106) rfl rfl k) ?_
        show own_E p e below _ T125 (mkF m 108 #[iv p1, iv p2, iv p3, iv p4, iv p5, iv 1, iv 1, iv 1, rv b116_o0, rv b116_o0, .val (.null), rv b119, rv b116_o0] [.ref b116_o0])
        refine own_st (fun t k => XS.aload X125.here hx rfl (hb hby at_108) rfl rfl k) ?_
        show own_E p e below _ T125 (mkF m 110 #[iv p1, iv p2, iv p3, iv p4, iv p5, iv 1, iv 1, iv 1, rv b116_o0, rv b116_o0, .val (.null), rv b119, rv b116_o0] [.ref b116_o0, .ref b116_o0])
        refine own_st (fun t k => Jvm.RoadKit.acmp (g := (mkF m 110 #[iv p1, iv p2, iv p3, iv p4, iv p5, iv 1, iv 1, iv 1, rv b116_o0, rv b116_o0, .val (.null), rv b119, rv b116_o0] [.ref b116_o0, .ref b116_o0])) X125 hx rfl rfl rfl (pc0 := 110) (pc' := 113) (same := true) rfl (hb hby at_110) rfl (decide_eq_true rfl) (by decide) (by decide) k) ?_
        show own_E p e below _ T125 (mkF m 113 #[iv p1, iv p2, iv p3, iv p4, iv p5, iv 1, iv 1, iv 1, rv b116_o0, rv b116_o0, .val (.null), rv b119, rv b116_o0] [])
        refine own_st (fun t k => XS.iconst X125.here hx rfl (hb hby at_113) k) ?_
        show own_E p e below _ T125 (mkF m 114 #[iv p1, iv p2, iv p3, iv p4, iv p5, iv 1, iv 1, iv 1, rv b116_o0, rv b116_o0, .val (.null), rv b119, rv b116_o0] [.int 1])
        refine own_st (fun t k => XS.goto X125.here hx rfl (pc0 := 114) (pc' := 118) rfl (hb hby at_114) (by decide) (by decide) k) ?_
        show own_E p e below _ T125 (mkF m 118 #[iv p1, iv p2, iv p3, iv p4, iv p5, iv 1, iv 1, iv 1, rv b116_o0, rv b116_o0, .val (.null), rv b119, rv b116_o0] [.int 1])
        refine own_retSW X125 (own_since s) (by rw [e125]; exact (Nat.zero_le _)) hx Bd.notSynchronized Bd.returns rfl (by decide) (hb hby at_118) (by decide) (by decide) ?_
        exact ⟨rfl, N125⟩
      · rw [hs103]
        show own_E p e below _ s₁ (mkF m 30 #[iv p1, iv p2, iv p3, iv p4, iv p5, iv 1, iv 1, iv 2, .unset, .unset, .unset, .unset, .unset] [])
        refine own_st (fun t k => XS.iload X0.here hx rfl (hb hby at_30) rfl k) ?_
        show own_E p e below _ s₁ (mkF m 32 #[iv p1, iv p2, iv p3, iv p4, iv p5, iv 1, iv 1, iv 2, .unset, .unset, .unset, .unset, .unset] [.int 2])
        refine own_st (fun t k => XS.iloadN X0.here hx rfl (hb hby at_32) rfl k) ?_
        show own_E p e below _ s₁ (mkF m 33 #[iv p1, iv p2, iv p3, iv p4, iv p5, iv 1, iv 1, iv 2, .unset, .unset, .unset, .unset, .unset] [.int p3, .int 2])
        refine own_st (fun t k => XS.iloadN X0.here hx rfl (hb hby at_33) rfl k) ?_
        show own_E p e below _ s₁ (mkF m 34 #[iv p1, iv p2, iv p3, iv p4, iv p5, iv 1, iv 1, iv 2, .unset, .unset, .unset, .unset, .unset] [.int p4, .int p3, .int 2])
        obtain ⟨_, _, ⟨T126, L126, k126, n126⟩, -, X126, ⟨Lc126, hQ126, l126, y126, z126⟩, st126⟩ := Jvm.LawKit.callS X0 hx (y := own_y3) hown (mvT hZ (own_w hw 1 rfl)) (mvT hZ (own_w hw 2 rfl)) (mvT hZ (own_w hw 3 rfl)) (mvT hZ (own_w hw 4 rfl)) (by decide) (backOf (W := 0) (own_drawn2 l Z a0 hw [] zc p3 p4 h0 n0 Z0 SC hzc) hZ (own_w hw 4 rfl) (own_w hw 3 rfl) (by decide) (by decide)) (g := (mkF m 34 #[iv p1, iv p2, iv p3, iv p4, iv p5, iv 1, iv 1, iv 2, .unset, .unset, .unset, .unset, .unset] [.int p4, .int p3, .int 2])) rfl (by rw [hml]; rfl) (argsL := [(.int (2 : Int32)), (.int p3), (.int p4)]) (rest := []) (lenOf own_pd_2 rfl) rfl (by show 2 * 0 + _ ≤ _; exact Nat.le_of_eq rfl) (hb hby at_34) (fun _ _ => ⟨rfl, e0, (by decide : 0 + 3 ≤ _), (by decide : 0 + 8 ≤ _)⟩)
        dsimp only [Pt.U, Pt.locs, Pt.cells, Pt.slots] at X126 l126 y126 z126 st126 hQ126
        subst l126 y126 z126
        obtain ⟨b126_o0, rfl, Nq126, Kq126, sz126_0, P126_0⟩ := hQ126
        have N126 := Fr.app (Fr.nil n0) Nq126
        have g_b126_o0 : n0 ≤ b126_o0 := Nat.le_trans Z0 sz126_0
        have sz_b126_o0 : h0.size ≤ b126_o0 := Nat.le_trans (Keep.refl h0 []).1 sz126_0
        have e126 : T126.heap = T126.heap := rfl
        have Z127 := Nat.le_trans Z0 Kq126.1
        have K128 : Keep h0 _ [] := (Keep.refl h0 []).trans Kq126 all0
        refine own_st st126 ?_
        show own_E p e below _ T126 (mkF m 37 #[iv p1, iv p2, iv p3, iv p4, iv p5, iv 1, iv 1, iv 2, .unset, .unset, .unset, .unset, .unset] [.ref b126_o0])
        refine own_st (fun t k => XS.astore X126.here hx rfl (hb hby at_37) rfl rfl (l' := #[iv p1, iv p2, iv p3, iv p4, iv p5, iv 1, iv 1, iv 2, rv b126_o0, .unset, .unset, .unset, .unset]) rfl k) ?_
        show own_E p e below _ T126 (mkF m 39 #[iv p1, iv p2, iv p3, iv p4, iv p5, iv 1, iv 1, iv 2, rv b126_o0, .unset, .unset, .unset, .unset] [])
        refine own_st (fun t k => XS.iload X126.here hx rfl (hb hby at_39) rfl k) ?_
        show own_E p e below _ T126 (mkF m 41 #[iv p1, iv p2, iv p3, iv p4, iv p5, iv 1, iv 1, iv 2, rv b126_o0, .unset, .unset, .unset, .unset] [.int 1])
        refine own_st (fun t k => XS.iconst X126.here hx rfl (hb hby at_41) k) ?_
        show own_E p e below _ T126 (mkF m 42 #[iv p1, iv p2, iv p3, iv p4, iv p5, iv 1, iv 1, iv 2, rv b126_o0, .unset, .unset, .unset, .unset] [.int 1, .int 1])
        refine own_st (fun t k => XS.icmpNo X126.here hx rfl (hb hby at_42) rfl (by decide) k) ?_
        show own_E p e below _ T126 (mkF m 45 #[iv p1, iv p2, iv p3, iv p4, iv p5, iv 1, iv 1, iv 2, rv b126_o0, .unset, .unset, .unset, .unset] [])
        refine own_st (fun t k => XS.aload X126.here hx rfl (hb hby at_45) rfl rfl k) ?_
        show own_E p e below _ T126 (mkF m 47 #[iv p1, iv p2, iv p3, iv p4, iv p5, iv 1, iv 1, iv 2, rv b126_o0, .unset, .unset, .unset, .unset] [.ref b126_o0])
        refine own_st (fun t k => XS.goto X126.here hx rfl (pc0 := 47) (pc' := 51) rfl (hb hby at_47) (by decide) (by decide) k) ?_
        show own_E p e below _ T126 (mkF m 51 #[iv p1, iv p2, iv p3, iv p4, iv p5, iv 1, iv 1, iv 2, rv b126_o0, .unset, .unset, .unset, .unset] [.ref b126_o0])
        refine own_st (fun t k => XS.astore X126.here hx rfl (hb hby at_51) rfl rfl (l' := #[iv p1, iv p2, iv p3, iv p4, iv p5, iv 1, iv 1, iv 2, rv b126_o0, rv b126_o0, .unset, .unset, .unset]) rfl k) ?_
        show own_E p e below _ T126 (mkF m 53 #[iv p1, iv p2, iv p3, iv p4, iv p5, iv 1, iv 1, iv 2, rv b126_o0, rv b126_o0, .unset, .unset, .unset] [])
        refine own_st (fun t k => XS.iload X126.here hx rfl (hb hby at_53) rfl k) ?_
        show own_E p e below _ T126 (mkF m 55 #[iv p1, iv p2, iv p3, iv p4, iv p5, iv 1, iv 1, iv 2, rv b126_o0, rv b126_o0, .unset, .unset, .unset] [.int 1])
        refine own_st (fun t k => XS.iconst X126.here hx rfl (hb hby at_55) k) ?_
        show own_E p e below _ T126 (mkF m 56 #[iv p1, iv p2, iv p3, iv p4, iv p5, iv 1, iv 1, iv 2, rv b126_o0, rv b126_o0, .unset, .unset, .unset] [.int 2, .int 1])
        refine own_st (fun t k => XS.icmpYes X126.here hx rfl (pc0 := 56) (pc' := 64) rfl (hb hby at_56) rfl (by decide) (by decide) (by decide) k) ?_
        show own_E p e below _ T126 (mkF m 64 #[iv p1, iv p2, iv p3, iv p4, iv p5, iv 1, iv 1, iv 2, rv b126_o0, rv b126_o0, .unset, .unset, .unset] [])
        refine own_st (fun t k => XS.aconstNull X126.here hx rfl (hb hby at_64) k) ?_
        show own_E p e below _ T126 (mkF m 65 #[iv p1, iv p2, iv p3, iv p4, iv p5, iv 1, iv 1, iv 2, rv b126_o0, rv b126_o0, .unset, .unset, .unset] [.null])
        refine own_st (fun t k => XS.astore X126.here hx rfl (hb hby at_65) rfl rfl (l' := #[iv p1, iv p2, iv p3, iv p4, iv p5, iv 1, iv 1, iv 2, rv b126_o0, rv b126_o0, .val (.null), .unset, .unset]) rfl k) ?_
        show own_E p e below _ T126 (mkF m 67 #[iv p1, iv p2, iv p3, iv p4, iv p5, iv 1, iv 1, iv 2, rv b126_o0, rv b126_o0, .val (.null), .unset, .unset] [])
        obtain ⟨T129, h129, X129, e129, E129, A129, D129, -, st129⟩ := newO X126 hx hZ hown (own_w hw 27 rfl) (own_w hw 28 rfl) (own_w hw 29 rfl) e126 (g := (mkF m 67 #[iv p1, iv p2, iv p3, iv p4, iv p5, iv 1, iv 1, iv 2, rv b126_o0, rv b126_o0, .val (.null), .unset, .unset] [])) rfl (hb hby at_67) (by decide) (by decide)
        obtain ⟨b129, g129⟩ : ∃ z, z = T126.heap.size := ⟨_, rfl⟩
        rw [← g129] at A129 D129 st129
        have ne_b126_o0_b129 : b126_o0 ≠ b129 := Nat.ne_of_lt (Nat.lt_of_lt_of_le P126_0.lt (Nat.le_of_eq g129.symm))
        have g_b129 : n0 ≤ b129 := Nat.le_trans Z127 (Nat.le_of_eq g129.symm)
        have sz_b129 : h0.size ≤ b129 := Nat.le_trans K128.1 (Nat.le_of_eq g129.symm)
        have Z130 := Nat.le_trans Z127 E129.1
        have K131 : Keep h0 _ [] := K128.ext E129
        have F_limit_b129 : Fld Z h129 b129 "com/example/acquirer/acquirer/PageRequest" "limit" "I" (.int (0 : Int32)) := D129 (Or.inr (own_w hw 40 rfl)) (ty := .int) (by decide)
        have F_startingAfter_b129 : Fld Z h129 b129 "com/example/acquirer/acquirer/PageRequest" "startingAfter" "Ljava/lang/String;" .null := D129 (Or.inr (own_w hw 42 rfl)) (ty := (.object "java/lang/String")) (by decide)
        have F_endingBefore_b129 : Fld Z h129 b129 "com/example/acquirer/acquirer/PageRequest" "endingBefore" "Ljava/lang/String;" .null := D129 (Or.inr (own_w hw 44 rfl)) (ty := (.object "java/lang/String")) (by decide)
        have F_descending_b129 : Fld Z h129 b129 "com/example/acquirer/acquirer/PageRequest" "descending" "Z" (.int (0 : Int32)) := D129 (Or.inr (own_w hw 46 rfl)) (ty := .boolean) (by decide)
        refine own_st st129 ?_
        show own_E p e below _ T129 (mkF m 70 #[iv p1, iv p2, iv p3, iv p4, iv p5, iv 1, iv 1, iv 2, rv b126_o0, rv b126_o0, .val (.null), .unset, .unset] [.ref b129])
        refine own_st (fun t k => XS.dup X129.here hx rfl (hb hby at_70) rfl rfl k) ?_
        show own_E p e below _ T129 (mkF m 71 #[iv p1, iv p2, iv p3, iv p4, iv p5, iv 1, iv 1, iv 2, rv b126_o0, rv b126_o0, .val (.null), .unset, .unset] [.ref b129, .ref b129])
        refine own_st (fun t k => XS.iloadN X129.here hx rfl (hb hby at_71) rfl k) ?_
        show own_E p e below _ T129 (mkF m 72 #[iv p1, iv p2, iv p3, iv p4, iv p5, iv 1, iv 1, iv 2, rv b126_o0, rv b126_o0, .val (.null), .unset, .unset] [.int p2, .ref b129, .ref b129])
        refine own_st (fun t k => XS.aload X129.here hx rfl (hb hby at_72) rfl rfl k) ?_
        show own_E p e below _ T129 (mkF m 74 #[iv p1, iv p2, iv p3, iv p4, iv p5, iv 1, iv 1, iv 2, rv b126_o0, rv b126_o0, .val (.null), .unset, .unset] [.ref b126_o0, .int p2, .ref b129, .ref b129])
        refine own_st (fun t k => XS.aload X129.here hx rfl (hb hby at_74) rfl rfl k) ?_
        show own_E p e below _ T129 (mkF m 76 #[iv p1, iv p2, iv p3, iv p4, iv p5, iv 1, iv 1, iv 2, rv b126_o0, rv b126_o0, .val (.null), .unset, .unset] [.null, .ref b126_o0, .int p2, .ref b129, .ref b129])
        refine own_st (fun t k => XS.iload X129.here hx rfl (hb hby at_76) rfl k) ?_
        show own_E p e below _ T129 (mkF m 78 #[iv p1, iv p2, iv p3, iv p4, iv p5, iv 1, iv 1, iv 2, rv b126_o0, rv b126_o0, .val (.null), .unset, .unset] [.int 1, .null, .ref b126_o0, .int p2, .ref b129, .ref b129])
        obtain ⟨_, _, ⟨T132, L132, k132, n132⟩, -, X132, ⟨Lc132, hQ132, l132, y132, z132⟩, st132⟩ := X129.specialBack hx (y := own_y4) rfl hown (mvT hZ (own_w hw 30 rfl)) (mvT hZ (own_w hw 31 rfl)) (mvT hZ (own_w hw 32 rfl)) (by decide) (backOf (W := 1) (own_init101 l Z a0 hw [] b129 b126_o0 p2 h129 n0 Z130 A129 F_limit_b129 F_startingAfter_b129 F_endingBefore_b129 F_descending_b129 g_b129) hZ (own_w hw 32 rfl) (own_w hw 29 rfl) (by decide) (by decide)) (g := (mkF m 78 #[iv p1, iv p2, iv p3, iv p4, iv p5, iv 1, iv 1, iv 2, rv b126_o0, rv b126_o0, .val (.null), .unset, .unset] [.int 1, .null, .ref b126_o0, .int p2, .ref b129, .ref b129])) rfl (by rw [hml]; rfl) (Steps.refl _) (a := b129) (argsL := [(.int p2), (.ref b126_o0), .null, (.int (1 : Int32))]) (rest := [(.ref b129)]) (lenOf own_pd_4 rfl) rfl (by show 2 * 0 + _ ≤ _; exact Nat.le_of_eq rfl) (hb hby at_78) (fun _ _ => ⟨rfl, e129, (by decide : 4 + 0 ≤ _), (by decide : 12 + 0 ≤ _)⟩)
        dsimp only [Pt.U, Pt.locs, Pt.cells, Pt.slots] at X132 l132 y132 z132 st132 hQ132
        subst l132 y132 z132
        obtain ⟨rfl, Nq132, Kq132, P132_0, P132_1, P132_2⟩ := hQ132
        have N132 := Fr.app N126 Nq132
        have e132 : T132.heap = T132.heap := rfl
        have Z133 := Nat.le_trans Z130 Kq132.1
        have K134 : Keep h0 _ [] := K131.trans Kq132 (allS (P := fun x => x ∈ [] ∨ h0.size ≤ x) (Or.inr sz_b129) all0)
        refine own_tr st132 ?_
        show own_E p e below _ T132 (mkF m 81 #[iv p1, iv p2, iv p3, iv p4, iv p5, iv 1, iv 1, iv 2, rv b126_o0, rv b126_o0, .val (.null), .unset, .unset] [.ref b129])
        refine own_st (fun t k => XS.astore X132.here hx rfl (hb hby at_81) rfl rfl (l' := #[iv p1, iv p2, iv p3, iv p4, iv p5, iv 1, iv 1, iv 2, rv b126_o0, rv b126_o0, .val (.null), rv b129, .unset]) rfl k) ?_
        show own_E p e below _ T132 (mkF m 83 #[iv p1, iv p2, iv p3, iv p4, iv p5, iv 1, iv 1, iv 2, rv b126_o0, rv b126_o0, .val (.null), rv b129, .unset] [])
        refine own_st (fun t k => XS.aload X132.here hx rfl (hb hby at_83) rfl rfl k) ?_
        show own_E p e below _ T132 (mkF m 85 #[iv p1, iv p2, iv p3, iv p4, iv p5, iv 1, iv 1, iv 2, rv b126_o0, rv b126_o0, .val (.null), rv b129, .unset] [.ref b129])
        obtain ⟨cq135, kq135, q135a, q135b, q135c⟩ := isOf hZ e132 P132_0
        obtain ⟨_, _, ⟨T135, L135, k135, n135⟩, -, X135, ⟨Lc135, hQ135, l135, y135, z135⟩, st135⟩ := X132.virtualBack hx (y := own_y5) (z := own_y5) hown (mvT hZ (own_w hw 47 rfl)) (mvT hZ (own_w hw 48 rfl)) (notFace_of_selects (args := #[]) (mvT hZ (own_w hw 50 rfl))) (mvT hZ (own_w hw 50 rfl)) (mvT hZ (own_w hw 49 rfl)) (by decide) (backOf (W := 0) (own_cur10 l Z a0 hw [] b129 b126_o0 T132.heap n0 Z133 P132_1 P132_2) hZ (own_w hw 51 rfl) (own_w hw 29 rfl) (by decide) (by decide)) q135a q135c (g := (mkF m 85 #[iv p1, iv p2, iv p3, iv p4, iv p5, iv 1, iv 1, iv 2, rv b126_o0, rv b126_o0, .val (.null), rv b129, .unset] [.ref b129])) rfl (by rw [hml]; rfl) (Steps.refl _) (argsL := []) (rest := []) (lenOf own_pd_0 rfl) rfl (by show 2 * 0 + _ ≤ _; exact Nat.le_of_eq rfl) (hb hby at_85) (fun _ _ => ⟨rfl, e132, (by decide : 4 + 0 ≤ _), (by decide : 12 + 0 ≤ _)⟩)
        dsimp only [Pt.U, Pt.locs, Pt.cells, Pt.slots] at X135 l135 y135 z135 st135 hQ135
        subst l135 y135 z135
        obtain ⟨hR135, e135, rfl⟩ := hQ135
        have N135 := Fr.app N132 (Fr.nil n0)
        obtain rfl := hR135
        refine own_tr st135 ?_
        show own_E p e below _ T135 (mkF m 88 #[iv p1, iv p2, iv p3, iv p4, iv p5, iv 1, iv 1, iv 2, rv b126_o0, rv b126_o0, .val (.null), rv b129, .unset] [.ref b126_o0])
        refine own_st (fun t k => XS.astore X135.here hx rfl (hb hby at_88) rfl rfl (l' := #[iv p1, iv p2, iv p3, iv p4, iv p5, iv 1, iv 1, iv 2, rv b126_o0, rv b126_o0, .val (.null), rv b129, rv b126_o0]) rfl k) ?_
        show own_E p e below _ T135 (mkF m 90 #[iv p1, iv p2, iv p3, iv p4, iv p5, iv 1, iv 1, iv 2, rv b126_o0, rv b126_o0, .val (.null), rv b129, rv b126_o0] [])
        refine own_st (fun t k => XS.iload X135.here hx rfl (hb hby at_90) rfl k) ?_
        show own_E p e below _ T135 (mkF m 92 #[iv p1, iv p2, iv p3, iv p4, iv p5, iv 1, iv 1, iv 2, rv b126_o0, rv b126_o0, .val (.null), rv b129, rv b126_o0] [.int 1])
        refine own_st (fun t k => XS.ifYes X135.here hx rfl (pc0 := 92) (pc' := 106) rfl (hb hby at_92) rfl (by decide) (by decide) (by decide) k) ?_
        show own_E p e below _ T135 (mkF m 106 #[iv p1, iv p2, iv p3, iv p4, iv p5, iv 1, iv 1, iv 2, rv b126_o0, rv b126_o0, .val (.null), rv b129, rv b126_o0] [])
        refine own_st (fun t k => XS.aload X135.here hx rfl (hb hby at_106) rfl rfl k) ?_
        show own_E p e below _ T135 (mkF m 108 #[iv p1, iv p2, iv p3, iv p4, iv p5, iv 1, iv 1, iv 2, rv b126_o0, rv b126_o0, .val (.null), rv b129, rv b126_o0] [.ref b126_o0])
        refine own_st (fun t k => XS.aload X135.here hx rfl (hb hby at_108) rfl rfl k) ?_
        show own_E p e below _ T135 (mkF m 110 #[iv p1, iv p2, iv p3, iv p4, iv p5, iv 1, iv 1, iv 2, rv b126_o0, rv b126_o0, .val (.null), rv b129, rv b126_o0] [.ref b126_o0, .ref b126_o0])
        refine own_st (fun t k => Jvm.RoadKit.acmp (g := (mkF m 110 #[iv p1, iv p2, iv p3, iv p4, iv p5, iv 1, iv 1, iv 2, rv b126_o0, rv b126_o0, .val (.null), rv b129, rv b126_o0] [.ref b126_o0, .ref b126_o0])) X135 hx rfl rfl rfl (pc0 := 110) (pc' := 113) (same := true) rfl (hb hby at_110) rfl (decide_eq_true rfl) (by decide) (by decide) k) ?_
        show own_E p e below _ T135 (mkF m 113 #[iv p1, iv p2, iv p3, iv p4, iv p5, iv 1, iv 1, iv 2, rv b126_o0, rv b126_o0, .val (.null), rv b129, rv b126_o0] [])
        refine own_st (fun t k => XS.iconst X135.here hx rfl (hb hby at_113) k) ?_
        show own_E p e below _ T135 (mkF m 114 #[iv p1, iv p2, iv p3, iv p4, iv p5, iv 1, iv 1, iv 2, rv b126_o0, rv b126_o0, .val (.null), rv b129, rv b126_o0] [.int 1])
        refine own_st (fun t k => XS.goto X135.here hx rfl (pc0 := 114) (pc' := 118) rfl (hb hby at_114) (by decide) (by decide) k) ?_
        show own_E p e below _ T135 (mkF m 118 #[iv p1, iv p2, iv p3, iv p4, iv p5, iv 1, iv 1, iv 2, rv b126_o0, rv b126_o0, .val (.null), rv b129, rv b126_o0] [.int 1])
        refine own_retSW X135 (own_since s) (by rw [e135]; exact (Nat.zero_le _)) hx Bd.notSynchronized Bd.returns rfl (by decide) (hb hby at_118) (by decide) (by decide) ?_
        exact ⟨rfl, N135⟩
  · rw [hs1]
    show own_E p e below _ s₁ (mkF m 8 #[iv p1, iv p2, iv p3, iv p4, iv p5, iv 2, .unset, .unset, .unset, .unset, .unset, .unset, .unset] [])
    refine own_st (fun t k => XS.iload X0.here hx rfl (hb hby at_8) rfl k) ?_
    show own_E p e below _ s₁ (mkF m 10 #[iv p1, iv p2, iv p3, iv p4, iv p5, iv 2, .unset, .unset, .unset, .unset, .unset, .unset, .unset] [.int p5])
    refine own_st (fun t k => XS.iconst X0.here hx rfl (hb hby at_10) k) ?_
    show own_E p e below _ s₁ (mkF m 11 #[iv p1, iv p2, iv p3, iv p4, iv p5, iv 2, .unset, .unset, .unset, .unset, .unset, .unset, .unset] [.int 1, .int p5])
    refine own_st (fun t k => XS.iand X0.here hx rfl (hb hby at_11) rfl k) ?_
    show own_E p e below _ s₁ (mkF m 12 #[iv p1, iv p2, iv p3, iv p4, iv p5, iv 2, .unset, .unset, .unset, .unset, .unset, .unset, .unset] [.int (p5 &&& (1 : Int32))])
    by_cases hc136 : (p5 &&& (1 : Int32)) = (0 : Int32)
    · refine own_st (fun t k => XS.ifYes X0.here hx rfl (pc0 := 12) (pc' := 19) rfl (hb hby at_12) rfl ((if0 _ _).trans (teq hc136).1) (by decide) (by decide) k) ?_
      show own_E p e below _ s₁ (mkF m 19 #[iv p1, iv p2, iv p3, iv p4, iv p5, iv 2, .unset, .unset, .unset, .unset, .unset, .unset, .unset] [])
      refine own_st (fun t k => XS.iconst X0.here hx rfl (hb hby at_19) k) ?_
      show own_E p e below _ s₁ (mkF m 20 #[iv p1, iv p2, iv p3, iv p4, iv p5, iv 2, .unset, .unset, .unset, .unset, .unset, .unset, .unset] [.int 0])
      refine own_st (fun t k => XS.istore X0.here hx rfl (hb hby at_20) rfl (l' := #[iv p1, iv p2, iv p3, iv p4, iv p5, iv 2, iv 0, .unset, .unset, .unset, .unset, .unset, .unset]) rfl k) ?_
      show own_E p e below _ s₁ (mkF m 22 #[iv p1, iv p2, iv p3, iv p4, iv p5, iv 2, iv 0, .unset, .unset, .unset, .unset, .unset, .unset] [])
      refine own_st (fun t k => XS.iload X0.here hx rfl (hb hby at_22) rfl k) ?_
      show own_E p e below _ s₁ (mkF m 24 #[iv p1, iv p2, iv p3, iv p4, iv p5, iv 2, iv 0, .unset, .unset, .unset, .unset, .unset, .unset] [.int p5])
      refine own_st (fun t k => XS.iconst X0.here hx rfl (hb hby at_24) k) ?_
      show own_E p e below _ s₁ (mkF m 25 #[iv p1, iv p2, iv p3, iv p4, iv p5, iv 2, iv 0, .unset, .unset, .unset, .unset, .unset, .unset] [.int 1, .int p5])
      refine own_st (fun t k => XS.iushr X0.here hx rfl (hb hby at_25) rfl k) ?_
      show own_E p e below _ s₁ (mkF m 26 #[iv p1, iv p2, iv p3, iv p4, iv p5, iv 2, iv 0, .unset, .unset, .unset, .unset, .unset, .unset] [.int ((p5.toUInt32 >>> ((1 : Int32) &&& 31).toUInt32).toInt32)])
      refine own_st (fun t k => XS.iconst X0.here hx rfl (hb hby at_26) k) ?_
      show own_E p e below _ s₁ (mkF m 27 #[iv p1, iv p2, iv p3, iv p4, iv p5, iv 2, iv 0, .unset, .unset, .unset, .unset, .unset, .unset] [.int 3, .int ((p5.toUInt32 >>> ((1 : Int32) &&& 31).toUInt32).toInt32)])
      refine own_st (fun t k => iremM X0 hx rfl (hb hby at_27) rfl (by decide) k) ?_
      show own_E p e below _ s₁ (mkF m 28 #[iv p1, iv p2, iv p3, iv p4, iv p5, iv 2, iv 0, .unset, .unset, .unset, .unset, .unset, .unset] [.int (((p5.toUInt32 >>> ((1 : Int32) &&& 31).toUInt32).toInt32) % (3 : Int32))])
      refine own_st (fun t k => XS.istore X0.here hx rfl (hb hby at_28) rfl (l' := #[iv p1, iv p2, iv p3, iv p4, iv p5, iv 2, iv 0, iv (((p5.toUInt32 >>> ((1 : Int32) &&& 31).toUInt32).toInt32) % (3 : Int32)), .unset, .unset, .unset, .unset, .unset]) rfl k) ?_
      show own_E p e below _ s₁ (mkF m 30 #[iv p1, iv p2, iv p3, iv p4, iv p5, iv 2, iv 0, iv (((p5.toUInt32 >>> ((1 : Int32) &&& 31).toUInt32).toInt32) % (3 : Int32)), .unset, .unset, .unset, .unset, .unset] [])
      rcases own_len3 p5 with hs137 | hs137 | hs137
      · rw [hs137]
        show own_E p e below _ s₁ (mkF m 30 #[iv p1, iv p2, iv p3, iv p4, iv p5, iv 2, iv 0, iv 0, .unset, .unset, .unset, .unset, .unset] [])
        refine own_st (fun t k => XS.iload X0.here hx rfl (hb hby at_30) rfl k) ?_
        show own_E p e below _ s₁ (mkF m 32 #[iv p1, iv p2, iv p3, iv p4, iv p5, iv 2, iv 0, iv 0, .unset, .unset, .unset, .unset, .unset] [.int 0])
        refine own_st (fun t k => XS.iloadN X0.here hx rfl (hb hby at_32) rfl k) ?_
        show own_E p e below _ s₁ (mkF m 33 #[iv p1, iv p2, iv p3, iv p4, iv p5, iv 2, iv 0, iv 0, .unset, .unset, .unset, .unset, .unset] [.int p3, .int 0])
        refine own_st (fun t k => XS.iloadN X0.here hx rfl (hb hby at_33) rfl k) ?_
        show own_E p e below _ s₁ (mkF m 34 #[iv p1, iv p2, iv p3, iv p4, iv p5, iv 2, iv 0, iv 0, .unset, .unset, .unset, .unset, .unset] [.int p4, .int p3, .int 0])
        obtain ⟨_, _, ⟨T138, L138, k138, n138⟩, -, X138, hS138, hgr138, ⟨Lc138, hQ138, l138, y138, z138⟩, st138⟩ := callSS X0 hx (y := own_y3) hown (mvT hZ (own_w hw 1 rfl)) (mvT hZ (own_w hw 2 rfl)) (mvT hZ (own_w hw 3 rfl)) (mvT hZ (own_w hw 4 rfl)) (by decide) (own_backI (W := 0) (own_drawn0 l Z a0 hw [] p3 p4 h0 n0 Z0 hO hheld hcw) hZ hI (own_w hw 4 rfl) (own_w hw 3 rfl) (by decide) (by decide)) (g := (mkF m 34 #[iv p1, iv p2, iv p3, iv p4, iv p5, iv 2, iv 0, iv 0, .unset, .unset, .unset, .unset, .unset] [.int p4, .int p3, .int 0])) rfl (by rw [hml]; rfl) (argsL := [(.int (0 : Int32)), (.int p3), (.int p4)]) (rest := []) (lenOf own_pd_2 rfl) rfl (by show 2 * 0 + _ ≤ _; exact Nat.le_of_eq rfl) (hb hby at_34) (fun _ _ => ⟨rfl, e0, (by decide : 0 + 4 ≤ _), (by decide : 0 + 8 ≤ _)⟩)
        dsimp only [Pt.U, Pt.locs, Pt.cells, Pt.slots] at X138 l138 y138 z138 st138 hQ138 hS138 hgr138
        subst l138 y138 z138
        have hZ138 := own_Zw hZ hS138
        have ho138 := own_ow hown hS138
        have hk138 := Nat.le_refl T138.heap.size
        obtain ⟨b138_o0, rfl, Nq138, Kq138, sz138_0, P138_0⟩ := hQ138
        have N138 := Fr.app (Fr.nil n0) Nq138
        have g_b138_o0 : n0 ≤ b138_o0 := Nat.le_trans Z0 sz138_0
        have sz_b138_o0 : h0.size ≤ b138_o0 := Nat.le_trans (Keep.refl h0 []).1 sz138_0
        have e138 : T138.heap = T138.heap := rfl
        have Z139 := Nat.le_trans Z0 Kq138.1
        have K140 : Keep h0 _ [] := (Keep.refl h0 []).trans Kq138 all0
        refine own_tr st138 ?_
        show own_E p e below _ T138 (mkF m 37 #[iv p1, iv p2, iv p3, iv p4, iv p5, iv 2, iv 0, iv 0, .unset, .unset, .unset, .unset, .unset] [.ref b138_o0])
        refine own_st (fun t k => XS.astore X138.here hx rfl (hb hby at_37) rfl rfl (l' := #[iv p1, iv p2, iv p3, iv p4, iv p5, iv 2, iv 0, iv 0, rv b138_o0, .unset, .unset, .unset, .unset]) rfl k) ?_
        show own_E p e below _ T138 (mkF m 39 #[iv p1, iv p2, iv p3, iv p4, iv p5, iv 2, iv 0, iv 0, rv b138_o0, .unset, .unset, .unset, .unset] [])
        refine own_st (fun t k => XS.iload X138.here hx rfl (hb hby at_39) rfl k) ?_
        show own_E p e below _ T138 (mkF m 41 #[iv p1, iv p2, iv p3, iv p4, iv p5, iv 2, iv 0, iv 0, rv b138_o0, .unset, .unset, .unset, .unset] [.int 2])
        refine own_st (fun t k => XS.iconst X138.here hx rfl (hb hby at_41) k) ?_
        show own_E p e below _ T138 (mkF m 42 #[iv p1, iv p2, iv p3, iv p4, iv p5, iv 2, iv 0, iv 0, rv b138_o0, .unset, .unset, .unset, .unset] [.int 1, .int 2])
        refine own_st (fun t k => XS.icmpYes X138.here hx rfl (pc0 := 42) (pc' := 50) rfl (hb hby at_42) rfl (by decide) (by decide) (by decide) k) ?_
        show own_E p e below _ T138 (mkF m 50 #[iv p1, iv p2, iv p3, iv p4, iv p5, iv 2, iv 0, iv 0, rv b138_o0, .unset, .unset, .unset, .unset] [])
        refine own_st (fun t k => XS.aconstNull X138.here hx rfl (hb hby at_50) k) ?_
        show own_E p e below _ T138 (mkF m 51 #[iv p1, iv p2, iv p3, iv p4, iv p5, iv 2, iv 0, iv 0, rv b138_o0, .unset, .unset, .unset, .unset] [.null])
        refine own_st (fun t k => XS.astore X138.here hx rfl (hb hby at_51) rfl rfl (l' := #[iv p1, iv p2, iv p3, iv p4, iv p5, iv 2, iv 0, iv 0, rv b138_o0, .val (.null), .unset, .unset, .unset]) rfl k) ?_
        show own_E p e below _ T138 (mkF m 53 #[iv p1, iv p2, iv p3, iv p4, iv p5, iv 2, iv 0, iv 0, rv b138_o0, .val (.null), .unset, .unset, .unset] [])
        refine own_st (fun t k => XS.iload X138.here hx rfl (hb hby at_53) rfl k) ?_
        show own_E p e below _ T138 (mkF m 55 #[iv p1, iv p2, iv p3, iv p4, iv p5, iv 2, iv 0, iv 0, rv b138_o0, .val (.null), .unset, .unset, .unset] [.int 2])
        refine own_st (fun t k => XS.iconst X138.here hx rfl (hb hby at_55) k) ?_
        show own_E p e below _ T138 (mkF m 56 #[iv p1, iv p2, iv p3, iv p4, iv p5, iv 2, iv 0, iv 0, rv b138_o0, .val (.null), .unset, .unset, .unset] [.int 2, .int 2])
        refine own_st (fun t k => XS.icmpNo X138.here hx rfl (hb hby at_56) rfl (by decide) k) ?_
        show own_E p e below _ T138 (mkF m 59 #[iv p1, iv p2, iv p3, iv p4, iv p5, iv 2, iv 0, iv 0, rv b138_o0, .val (.null), .unset, .unset, .unset] [])
        refine own_st (fun t k => XS.aload X138.here hx rfl (hb hby at_59) rfl rfl k) ?_
        show own_E p e below _ T138 (mkF m 61 #[iv p1, iv p2, iv p3, iv p4, iv p5, iv 2, iv 0, iv 0, rv b138_o0, .val (.null), .unset, .unset, .unset] [.ref b138_o0])
        refine own_st (fun t k => XS.goto X138.here hx rfl (pc0 := 61) (pc' := 65) rfl (hb hby at_61) (by decide) (by decide) k) ?_
        show own_E p e below _ T138 (mkF m 65 #[iv p1, iv p2, iv p3, iv p4, iv p5, iv 2, iv 0, iv 0, rv b138_o0, .val (.null), .unset, .unset, .unset] [.ref b138_o0])
        refine own_st (fun t k => XS.astore X138.here hx rfl (hb hby at_65) rfl rfl (l' := #[iv p1, iv p2, iv p3, iv p4, iv p5, iv 2, iv 0, iv 0, rv b138_o0, .val (.null), rv b138_o0, .unset, .unset]) rfl k) ?_
        show own_E p e below _ T138 (mkF m 67 #[iv p1, iv p2, iv p3, iv p4, iv p5, iv 2, iv 0, iv 0, rv b138_o0, .val (.null), rv b138_o0, .unset, .unset] [])
        obtain ⟨T141, h141, X141, e141, E141, A141, D141, -, st141⟩ := newO X138 hx hZ138 ho138 (own_w hw 27 rfl) (own_w hw 28 rfl) (own_w hw 29 rfl) e138 (g := (mkF m 67 #[iv p1, iv p2, iv p3, iv p4, iv p5, iv 2, iv 0, iv 0, rv b138_o0, .val (.null), rv b138_o0, .unset, .unset] [])) rfl (hb hby at_67) (by decide) (by decide)
        obtain ⟨b141, g141⟩ : ∃ z, z = T138.heap.size := ⟨_, rfl⟩
        rw [← g141] at A141 D141 st141
        have ne_b138_o0_b141 : b138_o0 ≠ b141 := Nat.ne_of_lt (Nat.lt_of_lt_of_le P138_0.lt (Nat.le_of_eq g141.symm))
        have g_b141 : n0 ≤ b141 := Nat.le_trans Z139 (Nat.le_of_eq g141.symm)
        have sz_b141 : h0.size ≤ b141 := Nat.le_trans K140.1 (Nat.le_of_eq g141.symm)
        have Z142 := Nat.le_trans Z139 E141.1
        have hk143 := Nat.le_trans hk138 E141.1
        have K144 : Keep h0 _ [] := K140.ext E141
        have F_limit_b141 : Fld Z h141 b141 "com/example/acquirer/acquirer/PageRequest" "limit" "I" (.int (0 : Int32)) := D141 (Or.inr (own_w hw 40 rfl)) (ty := .int) (by decide)
        have F_startingAfter_b141 : Fld Z h141 b141 "com/example/acquirer/acquirer/PageRequest" "startingAfter" "Ljava/lang/String;" .null := D141 (Or.inr (own_w hw 42 rfl)) (ty := (.object "java/lang/String")) (by decide)
        have F_endingBefore_b141 : Fld Z h141 b141 "com/example/acquirer/acquirer/PageRequest" "endingBefore" "Ljava/lang/String;" .null := D141 (Or.inr (own_w hw 44 rfl)) (ty := (.object "java/lang/String")) (by decide)
        have F_descending_b141 : Fld Z h141 b141 "com/example/acquirer/acquirer/PageRequest" "descending" "Z" (.int (0 : Int32)) := D141 (Or.inr (own_w hw 46 rfl)) (ty := .boolean) (by decide)
        refine own_st st141 ?_
        show own_E p e below _ T141 (mkF m 70 #[iv p1, iv p2, iv p3, iv p4, iv p5, iv 2, iv 0, iv 0, rv b138_o0, .val (.null), rv b138_o0, .unset, .unset] [.ref b141])
        refine own_st (fun t k => XS.dup X141.here hx rfl (hb hby at_70) rfl rfl k) ?_
        show own_E p e below _ T141 (mkF m 71 #[iv p1, iv p2, iv p3, iv p4, iv p5, iv 2, iv 0, iv 0, rv b138_o0, .val (.null), rv b138_o0, .unset, .unset] [.ref b141, .ref b141])
        refine own_st (fun t k => XS.iloadN X141.here hx rfl (hb hby at_71) rfl k) ?_
        show own_E p e below _ T141 (mkF m 72 #[iv p1, iv p2, iv p3, iv p4, iv p5, iv 2, iv 0, iv 0, rv b138_o0, .val (.null), rv b138_o0, .unset, .unset] [.int p2, .ref b141, .ref b141])
        refine own_st (fun t k => XS.aload X141.here hx rfl (hb hby at_72) rfl rfl k) ?_
        show own_E p e below _ T141 (mkF m 74 #[iv p1, iv p2, iv p3, iv p4, iv p5, iv 2, iv 0, iv 0, rv b138_o0, .val (.null), rv b138_o0, .unset, .unset] [.null, .int p2, .ref b141, .ref b141])
        refine own_st (fun t k => XS.aload X141.here hx rfl (hb hby at_74) rfl rfl k) ?_
        show own_E p e below _ T141 (mkF m 76 #[iv p1, iv p2, iv p3, iv p4, iv p5, iv 2, iv 0, iv 0, rv b138_o0, .val (.null), rv b138_o0, .unset, .unset] [.ref b138_o0, .null, .int p2, .ref b141, .ref b141])
        refine own_st (fun t k => XS.iload X141.here hx rfl (hb hby at_76) rfl k) ?_
        show own_E p e below _ T141 (mkF m 78 #[iv p1, iv p2, iv p3, iv p4, iv p5, iv 2, iv 0, iv 0, rv b138_o0, .val (.null), rv b138_o0, .unset, .unset] [.int 0, .ref b138_o0, .null, .int p2, .ref b141, .ref b141])
        obtain ⟨_, _, ⟨T145, L145, k145, n145⟩, -, X145, ⟨Lc145, hQ145, l145, y145, z145⟩, st145⟩ := X141.specialBack hx (y := own_y4) rfl ho138 (mvT hZ138 (own_w hw 30 rfl)) (mvT hZ138 (own_w hw 31 rfl)) (mvT hZ138 (own_w hw 32 rfl)) (by decide) (backOf (W := 1) (own_init010 l Z a0 hw [] b141 b138_o0 p2 h141 n0 Z142 A141 F_limit_b141 F_startingAfter_b141 F_endingBefore_b141 F_descending_b141 g_b141) hZ138 (own_w hw 32 rfl) (own_w hw 29 rfl) (by decide) (by decide)) (g := (mkF m 78 #[iv p1, iv p2, iv p3, iv p4, iv p5, iv 2, iv 0, iv 0, rv b138_o0, .val (.null), rv b138_o0, .unset, .unset] [.int 0, .ref b138_o0, .null, .int p2, .ref b141, .ref b141])) rfl (by rw [hml]; rfl) (Steps.refl _) (a := b141) (argsL := [(.int p2), .null, (.ref b138_o0), (.int (0 : Int32))]) (rest := [(.ref b141)]) (lenOf own_pd_4 rfl) rfl (by show 2 * 0 + _ ≤ _; exact Nat.le_of_eq rfl) (hb hby at_78) (fun _ _ => ⟨rfl, e141, (by decide : 5 + 0 ≤ _), (by decide : 12 + 0 ≤ _)⟩)
        dsimp only [Pt.U, Pt.locs, Pt.cells, Pt.slots] at X145 l145 y145 z145 st145 hQ145
        subst l145 y145 z145
        obtain ⟨rfl, Nq145, Kq145, P145_0, P145_1, P145_2⟩ := hQ145
        have N145 := Fr.app N138 Nq145
        have e145 : T145.heap = T145.heap := rfl
        have Z146 := Nat.le_trans Z142 Kq145.1
        have hk147 := Nat.le_trans hk143 Kq145.1
        have K148 : Keep h0 _ [] := K144.trans Kq145 (allS (P := fun x => x ∈ [] ∨ h0.size ≤ x) (Or.inr sz_b141) all0)
        refine own_tr st145 ?_
        show own_E p e below _ T145 (mkF m 81 #[iv p1, iv p2, iv p3, iv p4, iv p5, iv 2, iv 0, iv 0, rv b138_o0, .val (.null), rv b138_o0, .unset, .unset] [.ref b141])
        refine own_st (fun t k => XS.astore X145.here hx rfl (hb hby at_81) rfl rfl (l' := #[iv p1, iv p2, iv p3, iv p4, iv p5, iv 2, iv 0, iv 0, rv b138_o0, .val (.null), rv b138_o0, rv b141, .unset]) rfl k) ?_
        show own_E p e below _ T145 (mkF m 83 #[iv p1, iv p2, iv p3, iv p4, iv p5, iv 2, iv 0, iv 0, rv b138_o0, .val (.null), rv b138_o0, rv b141, .unset] [])
        refine own_st (fun t k => XS.aload X145.here hx rfl (hb hby at_83) rfl rfl k) ?_
        show own_E p e below _ T145 (mkF m 85 #[iv p1, iv p2, iv p3, iv p4, iv p5, iv 2, iv 0, iv 0, rv b138_o0, .val (.null), rv b138_o0, rv b141, .unset] [.ref b141])
        obtain ⟨cq149, kq149, q149a, q149b, q149c⟩ := isOf hZ138 e145 P145_0
        obtain ⟨_, _, ⟨T149, L149, k149, n149⟩, -, X149, ⟨Lc149, hQ149, l149, y149, z149⟩, st149⟩ := X145.virtualBack hx (y := own_y5) (z := own_y5) ho138 (mvT hZ138 (own_w hw 47 rfl)) (mvT hZ138 (own_w hw 48 rfl)) (notFace_of_selects (args := #[]) (mvT hZ138 (own_w hw 50 rfl))) (mvT hZ138 (own_w hw 50 rfl)) (mvT hZ138 (own_w hw 49 rfl)) (by decide) (backOf (W := 0) (own_cur01 l Z a0 hw [] b141 b138_o0 T145.heap n0 Z146 P145_1 P145_2) hZ138 (own_w hw 51 rfl) (own_w hw 29 rfl) (by decide) (by decide)) q149a q149c (g := (mkF m 85 #[iv p1, iv p2, iv p3, iv p4, iv p5, iv 2, iv 0, iv 0, rv b138_o0, .val (.null), rv b138_o0, rv b141, .unset] [.ref b141])) rfl (by rw [hml]; rfl) (Steps.refl _) (argsL := []) (rest := []) (lenOf own_pd_0 rfl) rfl (by show 2 * 0 + _ ≤ _; exact Nat.le_of_eq rfl) (hb hby at_85) (fun _ _ => ⟨rfl, e145, (by decide : 5 + 0 ≤ _), (by decide : 12 + 0 ≤ _)⟩)
        dsimp only [Pt.U, Pt.locs, Pt.cells, Pt.slots] at X149 l149 y149 z149 st149 hQ149
        subst l149 y149 z149
        obtain ⟨hR149, e149, rfl⟩ := hQ149
        have N149 := Fr.app N145 (Fr.nil n0)
        obtain rfl := hR149
        refine own_tr st149 ?_
        show own_E p e below _ T149 (mkF m 88 #[iv p1, iv p2, iv p3, iv p4, iv p5, iv 2, iv 0, iv 0, rv b138_o0, .val (.null), rv b138_o0, rv b141, .unset] [.ref b138_o0])
        refine own_st (fun t k => XS.astore X149.here hx rfl (hb hby at_88) rfl rfl (l' := #[iv p1, iv p2, iv p3, iv p4, iv p5, iv 2, iv 0, iv 0, rv b138_o0, .val (.null), rv b138_o0, rv b141, rv b138_o0]) rfl k) ?_
        show own_E p e below _ T149 (mkF m 90 #[iv p1, iv p2, iv p3, iv p4, iv p5, iv 2, iv 0, iv 0, rv b138_o0, .val (.null), rv b138_o0, rv b141, rv b138_o0] [])
        refine own_st (fun t k => XS.iload X149.here hx rfl (hb hby at_90) rfl k) ?_
        show own_E p e below _ T149 (mkF m 92 #[iv p1, iv p2, iv p3, iv p4, iv p5, iv 2, iv 0, iv 0, rv b138_o0, .val (.null), rv b138_o0, rv b141, rv b138_o0] [.int 2])
        refine own_st (fun t k => XS.ifYes X149.here hx rfl (pc0 := 92) (pc' := 106) rfl (hb hby at_92) rfl (by decide) (by decide) (by decide) k) ?_
        show own_E p e below _ T149 (mkF m 106 #[iv p1, iv p2, iv p3, iv p4, iv p5, iv 2, iv 0, iv 0, rv b138_o0, .val (.null), rv b138_o0, rv b141, rv b138_o0] [])
        refine own_st (fun t k => XS.aload X149.here hx rfl (hb hby at_106) rfl rfl k) ?_
        show own_E p e below _ T149 (mkF m 108 #[iv p1, iv p2, iv p3, iv p4, iv p5, iv 2, iv 0, iv 0, rv b138_o0, .val (.null), rv b138_o0, rv b141, rv b138_o0] [.ref b138_o0])
        refine own_st (fun t k => XS.aload X149.here hx rfl (hb hby at_108) rfl rfl k) ?_
        show own_E p e below _ T149 (mkF m 110 #[iv p1, iv p2, iv p3, iv p4, iv p5, iv 2, iv 0, iv 0, rv b138_o0, .val (.null), rv b138_o0, rv b141, rv b138_o0] [.ref b138_o0, .ref b138_o0])
        refine own_st (fun t k => Jvm.RoadKit.acmp (g := (mkF m 110 #[iv p1, iv p2, iv p3, iv p4, iv p5, iv 2, iv 0, iv 0, rv b138_o0, .val (.null), rv b138_o0, rv b141, rv b138_o0] [.ref b138_o0, .ref b138_o0])) X149 hx rfl rfl rfl (pc0 := 110) (pc' := 113) (same := true) rfl (hb hby at_110) rfl (decide_eq_true rfl) (by decide) (by decide) k) ?_
        show own_E p e below _ T149 (mkF m 113 #[iv p1, iv p2, iv p3, iv p4, iv p5, iv 2, iv 0, iv 0, rv b138_o0, .val (.null), rv b138_o0, rv b141, rv b138_o0] [])
        refine own_st (fun t k => XS.iconst X149.here hx rfl (hb hby at_113) k) ?_
        show own_E p e below _ T149 (mkF m 114 #[iv p1, iv p2, iv p3, iv p4, iv p5, iv 2, iv 0, iv 0, rv b138_o0, .val (.null), rv b138_o0, rv b141, rv b138_o0] [.int 1])
        refine own_st (fun t k => XS.goto X149.here hx rfl (pc0 := 114) (pc' := 118) rfl (hb hby at_114) (by decide) (by decide) k) ?_
        show own_E p e below _ T149 (mkF m 118 #[iv p1, iv p2, iv p3, iv p4, iv p5, iv 2, iv 0, iv 0, rv b138_o0, .val (.null), rv b138_o0, rv b141, rv b138_o0] [.int 1])
        refine own_retSW X149 hS138 (by rw [e149]; exact hk147) hx Bd.notSynchronized Bd.returns rfl (by decide) (hb hby at_118) (by decide) (by decide) ?_
        exact ⟨rfl, N149⟩
      · rw [hs137]
        show own_E p e below _ s₁ (mkF m 30 #[iv p1, iv p2, iv p3, iv p4, iv p5, iv 2, iv 0, iv 1, .unset, .unset, .unset, .unset, .unset] [])
        refine own_st (fun t k => XS.iload X0.here hx rfl (hb hby at_30) rfl k) ?_
        show own_E p e below _ s₁ (mkF m 32 #[iv p1, iv p2, iv p3, iv p4, iv p5, iv 2, iv 0, iv 1, .unset, .unset, .unset, .unset, .unset] [.int 1])
        refine own_st (fun t k => XS.iloadN X0.here hx rfl (hb hby at_32) rfl k) ?_
        show own_E p e below _ s₁ (mkF m 33 #[iv p1, iv p2, iv p3, iv p4, iv p5, iv 2, iv 0, iv 1, .unset, .unset, .unset, .unset, .unset] [.int p3, .int 1])
        refine own_st (fun t k => XS.iloadN X0.here hx rfl (hb hby at_33) rfl k) ?_
        show own_E p e below _ s₁ (mkF m 34 #[iv p1, iv p2, iv p3, iv p4, iv p5, iv 2, iv 0, iv 1, .unset, .unset, .unset, .unset, .unset] [.int p4, .int p3, .int 1])
        obtain ⟨_, _, ⟨T150, L150, k150, n150⟩, -, X150, ⟨Lc150, hQ150, l150, y150, z150⟩, st150⟩ := Jvm.LawKit.callS X0 hx (y := own_y3) hown (mvT hZ (own_w hw 1 rfl)) (mvT hZ (own_w hw 2 rfl)) (mvT hZ (own_w hw 3 rfl)) (mvT hZ (own_w hw 4 rfl)) (by decide) (backOf (W := 0) (own_drawn1 l Z a0 hw [] zc p3 p4 h0 n0 Z0 SC hzc) hZ (own_w hw 4 rfl) (own_w hw 3 rfl) (by decide) (by decide)) (g := (mkF m 34 #[iv p1, iv p2, iv p3, iv p4, iv p5, iv 2, iv 0, iv 1, .unset, .unset, .unset, .unset, .unset] [.int p4, .int p3, .int 1])) rfl (by rw [hml]; rfl) (argsL := [(.int (1 : Int32)), (.int p3), (.int p4)]) (rest := []) (lenOf own_pd_2 rfl) rfl (by show 2 * 0 + _ ≤ _; exact Nat.le_of_eq rfl) (hb hby at_34) (fun _ _ => ⟨rfl, e0, (by decide : 0 + 3 ≤ _), (by decide : 0 + 6 ≤ _)⟩)
        dsimp only [Pt.U, Pt.locs, Pt.cells, Pt.slots] at X150 l150 y150 z150 st150 hQ150
        subst l150 y150 z150
        obtain ⟨b150_o0, rfl, Nq150, Kq150, sz150_0, P150_0⟩ := hQ150
        have N150 := Fr.app (Fr.nil n0) Nq150
        have g_b150_o0 : n0 ≤ b150_o0 := Nat.le_trans Z0 sz150_0
        have sz_b150_o0 : h0.size ≤ b150_o0 := Nat.le_trans (Keep.refl h0 []).1 sz150_0
        have e150 : T150.heap = T150.heap := rfl
        have Z151 := Nat.le_trans Z0 Kq150.1
        have K152 : Keep h0 _ [] := (Keep.refl h0 []).trans Kq150 all0
        refine own_st st150 ?_
        show own_E p e below _ T150 (mkF m 37 #[iv p1, iv p2, iv p3, iv p4, iv p5, iv 2, iv 0, iv 1, .unset, .unset, .unset, .unset, .unset] [.ref b150_o0])
        refine own_st (fun t k => XS.astore X150.here hx rfl (hb hby at_37) rfl rfl (l' := #[iv p1, iv p2, iv p3, iv p4, iv p5, iv 2, iv 0, iv 1, rv b150_o0, .unset, .unset, .unset, .unset]) rfl k) ?_
        show own_E p e below _ T150 (mkF m 39 #[iv p1, iv p2, iv p3, iv p4, iv p5, iv 2, iv 0, iv 1, rv b150_o0, .unset, .unset, .unset, .unset] [])
        refine own_st (fun t k => XS.iload X150.here hx rfl (hb hby at_39) rfl k) ?_
        show own_E p e below _ T150 (mkF m 41 #[iv p1, iv p2, iv p3, iv p4, iv p5, iv 2, iv 0, iv 1, rv b150_o0, .unset, .unset, .unset, .unset] [.int 2])
        refine own_st (fun t k => XS.iconst X150.here hx rfl (hb hby at_41) k) ?_
        show own_E p e below _ T150 (mkF m 42 #[iv p1, iv p2, iv p3, iv p4, iv p5, iv 2, iv 0, iv 1, rv b150_o0, .unset, .unset, .unset, .unset] [.int 1, .int 2])
        refine own_st (fun t k => XS.icmpYes X150.here hx rfl (pc0 := 42) (pc' := 50) rfl (hb hby at_42) rfl (by decide) (by decide) (by decide) k) ?_
        show own_E p e below _ T150 (mkF m 50 #[iv p1, iv p2, iv p3, iv p4, iv p5, iv 2, iv 0, iv 1, rv b150_o0, .unset, .unset, .unset, .unset] [])
        refine own_st (fun t k => XS.aconstNull X150.here hx rfl (hb hby at_50) k) ?_
        show own_E p e below _ T150 (mkF m 51 #[iv p1, iv p2, iv p3, iv p4, iv p5, iv 2, iv 0, iv 1, rv b150_o0, .unset, .unset, .unset, .unset] [.null])
        refine own_st (fun t k => XS.astore X150.here hx rfl (hb hby at_51) rfl rfl (l' := #[iv p1, iv p2, iv p3, iv p4, iv p5, iv 2, iv 0, iv 1, rv b150_o0, .val (.null), .unset, .unset, .unset]) rfl k) ?_
        show own_E p e below _ T150 (mkF m 53 #[iv p1, iv p2, iv p3, iv p4, iv p5, iv 2, iv 0, iv 1, rv b150_o0, .val (.null), .unset, .unset, .unset] [])
        refine own_st (fun t k => XS.iload X150.here hx rfl (hb hby at_53) rfl k) ?_
        show own_E p e below _ T150 (mkF m 55 #[iv p1, iv p2, iv p3, iv p4, iv p5, iv 2, iv 0, iv 1, rv b150_o0, .val (.null), .unset, .unset, .unset] [.int 2])
        refine own_st (fun t k => XS.iconst X150.here hx rfl (hb hby at_55) k) ?_
        show own_E p e below _ T150 (mkF m 56 #[iv p1, iv p2, iv p3, iv p4, iv p5, iv 2, iv 0, iv 1, rv b150_o0, .val (.null), .unset, .unset, .unset] [.int 2, .int 2])
        refine own_st (fun t k => XS.icmpNo X150.here hx rfl (hb hby at_56) rfl (by decide) k) ?_
        show own_E p e below _ T150 (mkF m 59 #[iv p1, iv p2, iv p3, iv p4, iv p5, iv 2, iv 0, iv 1, rv b150_o0, .val (.null), .unset, .unset, .unset] [])
        refine own_st (fun t k => XS.aload X150.here hx rfl (hb hby at_59) rfl rfl k) ?_
        show own_E p e below _ T150 (mkF m 61 #[iv p1, iv p2, iv p3, iv p4, iv p5, iv 2, iv 0, iv 1, rv b150_o0, .val (.null), .unset, .unset, .unset] [.ref b150_o0])
        refine own_st (fun t k => XS.goto X150.here hx rfl (pc0 := 61) (pc' := 65) rfl (hb hby at_61) (by decide) (by decide) k) ?_
        show own_E p e below _ T150 (mkF m 65 #[iv p1, iv p2, iv p3, iv p4, iv p5, iv 2, iv 0, iv 1, rv b150_o0, .val (.null), .unset, .unset, .unset] [.ref b150_o0])
        refine own_st (fun t k => XS.astore X150.here hx rfl (hb hby at_65) rfl rfl (l' := #[iv p1, iv p2, iv p3, iv p4, iv p5, iv 2, iv 0, iv 1, rv b150_o0, .val (.null), rv b150_o0, .unset, .unset]) rfl k) ?_
        show own_E p e below _ T150 (mkF m 67 #[iv p1, iv p2, iv p3, iv p4, iv p5, iv 2, iv 0, iv 1, rv b150_o0, .val (.null), rv b150_o0, .unset, .unset] [])
        obtain ⟨T153, h153, X153, e153, E153, A153, D153, -, st153⟩ := newO X150 hx hZ hown (own_w hw 27 rfl) (own_w hw 28 rfl) (own_w hw 29 rfl) e150 (g := (mkF m 67 #[iv p1, iv p2, iv p3, iv p4, iv p5, iv 2, iv 0, iv 1, rv b150_o0, .val (.null), rv b150_o0, .unset, .unset] [])) rfl (hb hby at_67) (by decide) (by decide)
        obtain ⟨b153, g153⟩ : ∃ z, z = T150.heap.size := ⟨_, rfl⟩
        rw [← g153] at A153 D153 st153
        have ne_b150_o0_b153 : b150_o0 ≠ b153 := Nat.ne_of_lt (Nat.lt_of_lt_of_le P150_0.lt (Nat.le_of_eq g153.symm))
        have g_b153 : n0 ≤ b153 := Nat.le_trans Z151 (Nat.le_of_eq g153.symm)
        have sz_b153 : h0.size ≤ b153 := Nat.le_trans K152.1 (Nat.le_of_eq g153.symm)
        have Z154 := Nat.le_trans Z151 E153.1
        have K155 : Keep h0 _ [] := K152.ext E153
        have F_limit_b153 : Fld Z h153 b153 "com/example/acquirer/acquirer/PageRequest" "limit" "I" (.int (0 : Int32)) := D153 (Or.inr (own_w hw 40 rfl)) (ty := .int) (by decide)
        have F_startingAfter_b153 : Fld Z h153 b153 "com/example/acquirer/acquirer/PageRequest" "startingAfter" "Ljava/lang/String;" .null := D153 (Or.inr (own_w hw 42 rfl)) (ty := (.object "java/lang/String")) (by decide)
        have F_endingBefore_b153 : Fld Z h153 b153 "com/example/acquirer/acquirer/PageRequest" "endingBefore" "Ljava/lang/String;" .null := D153 (Or.inr (own_w hw 44 rfl)) (ty := (.object "java/lang/String")) (by decide)
        have F_descending_b153 : Fld Z h153 b153 "com/example/acquirer/acquirer/PageRequest" "descending" "Z" (.int (0 : Int32)) := D153 (Or.inr (own_w hw 46 rfl)) (ty := .boolean) (by decide)
        refine own_st st153 ?_
        show own_E p e below _ T153 (mkF m 70 #[iv p1, iv p2, iv p3, iv p4, iv p5, iv 2, iv 0, iv 1, rv b150_o0, .val (.null), rv b150_o0, .unset, .unset] [.ref b153])
        refine own_st (fun t k => XS.dup X153.here hx rfl (hb hby at_70) rfl rfl k) ?_
        show own_E p e below _ T153 (mkF m 71 #[iv p1, iv p2, iv p3, iv p4, iv p5, iv 2, iv 0, iv 1, rv b150_o0, .val (.null), rv b150_o0, .unset, .unset] [.ref b153, .ref b153])
        refine own_st (fun t k => XS.iloadN X153.here hx rfl (hb hby at_71) rfl k) ?_
        show own_E p e below _ T153 (mkF m 72 #[iv p1, iv p2, iv p3, iv p4, iv p5, iv 2, iv 0, iv 1, rv b150_o0, .val (.null), rv b150_o0, .unset, .unset] [.int p2, .ref b153, .ref b153])
        refine own_st (fun t k => XS.aload X153.here hx rfl (hb hby at_72) rfl rfl k) ?_
        show own_E p e below _ T153 (mkF m 74 #[iv p1, iv p2, iv p3, iv p4, iv p5, iv 2, iv 0, iv 1, rv b150_o0, .val (.null), rv b150_o0, .unset, .unset] [.null, .int p2, .ref b153, .ref b153])
        refine own_st (fun t k => XS.aload X153.here hx rfl (hb hby at_74) rfl rfl k) ?_
        show own_E p e below _ T153 (mkF m 76 #[iv p1, iv p2, iv p3, iv p4, iv p5, iv 2, iv 0, iv 1, rv b150_o0, .val (.null), rv b150_o0, .unset, .unset] [.ref b150_o0, .null, .int p2, .ref b153, .ref b153])
        refine own_st (fun t k => XS.iload X153.here hx rfl (hb hby at_76) rfl k) ?_
        show own_E p e below _ T153 (mkF m 78 #[iv p1, iv p2, iv p3, iv p4, iv p5, iv 2, iv 0, iv 1, rv b150_o0, .val (.null), rv b150_o0, .unset, .unset] [.int 0, .ref b150_o0, .null, .int p2, .ref b153, .ref b153])
        obtain ⟨_, _, ⟨T156, L156, k156, n156⟩, -, X156, ⟨Lc156, hQ156, l156, y156, z156⟩, st156⟩ := X153.specialBack hx (y := own_y4) rfl hown (mvT hZ (own_w hw 30 rfl)) (mvT hZ (own_w hw 31 rfl)) (mvT hZ (own_w hw 32 rfl)) (by decide) (backOf (W := 1) (own_init010 l Z a0 hw [] b153 b150_o0 p2 h153 n0 Z154 A153 F_limit_b153 F_startingAfter_b153 F_endingBefore_b153 F_descending_b153 g_b153) hZ (own_w hw 32 rfl) (own_w hw 29 rfl) (by decide) (by decide)) (g := (mkF m 78 #[iv p1, iv p2, iv p3, iv p4, iv p5, iv 2, iv 0, iv 1, rv b150_o0, .val (.null), rv b150_o0, .unset, .unset] [.int 0, .ref b150_o0, .null, .int p2, .ref b153, .ref b153])) rfl (by rw [hml]; rfl) (Steps.refl _) (a := b153) (argsL := [(.int p2), .null, (.ref b150_o0), (.int (0 : Int32))]) (rest := [(.ref b153)]) (lenOf own_pd_4 rfl) rfl (by show 2 * 0 + _ ≤ _; exact Nat.le_of_eq rfl) (hb hby at_78) (fun _ _ => ⟨rfl, e153, (by decide : 4 + 0 ≤ _), (by decide : 10 + 0 ≤ _)⟩)
        dsimp only [Pt.U, Pt.locs, Pt.cells, Pt.slots] at X156 l156 y156 z156 st156 hQ156
        subst l156 y156 z156
        obtain ⟨rfl, Nq156, Kq156, P156_0, P156_1, P156_2⟩ := hQ156
        have N156 := Fr.app N150 Nq156
        have e156 : T156.heap = T156.heap := rfl
        have Z157 := Nat.le_trans Z154 Kq156.1
        have K158 : Keep h0 _ [] := K155.trans Kq156 (allS (P := fun x => x ∈ [] ∨ h0.size ≤ x) (Or.inr sz_b153) all0)
        refine own_tr st156 ?_
        show own_E p e below _ T156 (mkF m 81 #[iv p1, iv p2, iv p3, iv p4, iv p5, iv 2, iv 0, iv 1, rv b150_o0, .val (.null), rv b150_o0, .unset, .unset] [.ref b153])
        refine own_st (fun t k => XS.astore X156.here hx rfl (hb hby at_81) rfl rfl (l' := #[iv p1, iv p2, iv p3, iv p4, iv p5, iv 2, iv 0, iv 1, rv b150_o0, .val (.null), rv b150_o0, rv b153, .unset]) rfl k) ?_
        show own_E p e below _ T156 (mkF m 83 #[iv p1, iv p2, iv p3, iv p4, iv p5, iv 2, iv 0, iv 1, rv b150_o0, .val (.null), rv b150_o0, rv b153, .unset] [])
        refine own_st (fun t k => XS.aload X156.here hx rfl (hb hby at_83) rfl rfl k) ?_
        show own_E p e below _ T156 (mkF m 85 #[iv p1, iv p2, iv p3, iv p4, iv p5, iv 2, iv 0, iv 1, rv b150_o0, .val (.null), rv b150_o0, rv b153, .unset] [.ref b153])
        obtain ⟨cq159, kq159, q159a, q159b, q159c⟩ := isOf hZ e156 P156_0
        obtain ⟨_, _, ⟨T159, L159, k159, n159⟩, -, X159, ⟨Lc159, hQ159, l159, y159, z159⟩, st159⟩ := X156.virtualBack hx (y := own_y5) (z := own_y5) hown (mvT hZ (own_w hw 47 rfl)) (mvT hZ (own_w hw 48 rfl)) (notFace_of_selects (args := #[]) (mvT hZ (own_w hw 50 rfl))) (mvT hZ (own_w hw 50 rfl)) (mvT hZ (own_w hw 49 rfl)) (by decide) (backOf (W := 0) (own_cur01 l Z a0 hw [] b153 b150_o0 T156.heap n0 Z157 P156_1 P156_2) hZ (own_w hw 51 rfl) (own_w hw 29 rfl) (by decide) (by decide)) q159a q159c (g := (mkF m 85 #[iv p1, iv p2, iv p3, iv p4, iv p5, iv 2, iv 0, iv 1, rv b150_o0, .val (.null), rv b150_o0, rv b153, .unset] [.ref b153])) rfl (by rw [hml]; rfl) (Steps.refl _) (argsL := []) (rest := []) (lenOf own_pd_0 rfl) rfl (by show 2 * 0 + _ ≤ _; exact Nat.le_of_eq rfl) (hb hby at_85) (fun _ _ => ⟨rfl, e156, (by decide : 4 + 0 ≤ _), (by decide : 10 + 0 ≤ _)⟩)
        dsimp only [Pt.U, Pt.locs, Pt.cells, Pt.slots] at X159 l159 y159 z159 st159 hQ159
        subst l159 y159 z159
        obtain ⟨hR159, e159, rfl⟩ := hQ159
        have N159 := Fr.app N156 (Fr.nil n0)
        obtain rfl := hR159
        refine own_tr st159 ?_
        show own_E p e below _ T159 (mkF m 88 #[iv p1, iv p2, iv p3, iv p4, iv p5, iv 2, iv 0, iv 1, rv b150_o0, .val (.null), rv b150_o0, rv b153, .unset] [.ref b150_o0])
        refine own_st (fun t k => XS.astore X159.here hx rfl (hb hby at_88) rfl rfl (l' := #[iv p1, iv p2, iv p3, iv p4, iv p5, iv 2, iv 0, iv 1, rv b150_o0, .val (.null), rv b150_o0, rv b153, rv b150_o0]) rfl k) ?_
        show own_E p e below _ T159 (mkF m 90 #[iv p1, iv p2, iv p3, iv p4, iv p5, iv 2, iv 0, iv 1, rv b150_o0, .val (.null), rv b150_o0, rv b153, rv b150_o0] [])
        refine own_st (fun t k => XS.iload X159.here hx rfl (hb hby at_90) rfl k) ?_
        show own_E p e below _ T159 (mkF m 92 #[iv p1, iv p2, iv p3, iv p4, iv p5, iv 2, iv 0, iv 1, rv b150_o0, .val (.null), rv b150_o0, rv b153, rv b150_o0] [.int 2])
        refine own_st (fun t k => XS.ifYes X159.here hx rfl (pc0 := 92) (pc' := 106) rfl (hb hby at_92) rfl (by decide) (by decide) (by decide) k) ?_
        show own_E p e below _ T159 (mkF m 106 #[iv p1, iv p2, iv p3, iv p4, iv p5, iv 2, iv 0, iv 1, rv b150_o0, .val (.null), rv b150_o0, rv b153, rv b150_o0] [])
        refine own_st (fun t k => XS.aload X159.here hx rfl (hb hby at_106) rfl rfl k) ?_
        show own_E p e below _ T159 (mkF m 108 #[iv p1, iv p2, iv p3, iv p4, iv p5, iv 2, iv 0, iv 1, rv b150_o0, .val (.null), rv b150_o0, rv b153, rv b150_o0] [.ref b150_o0])
        refine own_st (fun t k => XS.aload X159.here hx rfl (hb hby at_108) rfl rfl k) ?_
        show own_E p e below _ T159 (mkF m 110 #[iv p1, iv p2, iv p3, iv p4, iv p5, iv 2, iv 0, iv 1, rv b150_o0, .val (.null), rv b150_o0, rv b153, rv b150_o0] [.ref b150_o0, .ref b150_o0])
        refine own_st (fun t k => Jvm.RoadKit.acmp (g := (mkF m 110 #[iv p1, iv p2, iv p3, iv p4, iv p5, iv 2, iv 0, iv 1, rv b150_o0, .val (.null), rv b150_o0, rv b153, rv b150_o0] [.ref b150_o0, .ref b150_o0])) X159 hx rfl rfl rfl (pc0 := 110) (pc' := 113) (same := true) rfl (hb hby at_110) rfl (decide_eq_true rfl) (by decide) (by decide) k) ?_
        show own_E p e below _ T159 (mkF m 113 #[iv p1, iv p2, iv p3, iv p4, iv p5, iv 2, iv 0, iv 1, rv b150_o0, .val (.null), rv b150_o0, rv b153, rv b150_o0] [])
        refine own_st (fun t k => XS.iconst X159.here hx rfl (hb hby at_113) k) ?_
        show own_E p e below _ T159 (mkF m 114 #[iv p1, iv p2, iv p3, iv p4, iv p5, iv 2, iv 0, iv 1, rv b150_o0, .val (.null), rv b150_o0, rv b153, rv b150_o0] [.int 1])
        refine own_st (fun t k => XS.goto X159.here hx rfl (pc0 := 114) (pc' := 118) rfl (hb hby at_114) (by decide) (by decide) k) ?_
        show own_E p e below _ T159 (mkF m 118 #[iv p1, iv p2, iv p3, iv p4, iv p5, iv 2, iv 0, iv 1, rv b150_o0, .val (.null), rv b150_o0, rv b153, rv b150_o0] [.int 1])
        refine own_retSW X159 (own_since s) (by rw [e159]; exact (Nat.zero_le _)) hx Bd.notSynchronized Bd.returns rfl (by decide) (hb hby at_118) (by decide) (by decide) ?_
        exact ⟨rfl, N159⟩
      · rw [hs137]
        show own_E p e below _ s₁ (mkF m 30 #[iv p1, iv p2, iv p3, iv p4, iv p5, iv 2, iv 0, iv 2, .unset, .unset, .unset, .unset, .unset] [])
        refine own_st (fun t k => XS.iload X0.here hx rfl (hb hby at_30) rfl k) ?_
        show own_E p e below _ s₁ (mkF m 32 #[iv p1, iv p2, iv p3, iv p4, iv p5, iv 2, iv 0, iv 2, .unset, .unset, .unset, .unset, .unset] [.int 2])
        refine own_st (fun t k => XS.iloadN X0.here hx rfl (hb hby at_32) rfl k) ?_
        show own_E p e below _ s₁ (mkF m 33 #[iv p1, iv p2, iv p3, iv p4, iv p5, iv 2, iv 0, iv 2, .unset, .unset, .unset, .unset, .unset] [.int p3, .int 2])
        refine own_st (fun t k => XS.iloadN X0.here hx rfl (hb hby at_33) rfl k) ?_
        show own_E p e below _ s₁ (mkF m 34 #[iv p1, iv p2, iv p3, iv p4, iv p5, iv 2, iv 0, iv 2, .unset, .unset, .unset, .unset, .unset] [.int p4, .int p3, .int 2])
        obtain ⟨_, _, ⟨T160, L160, k160, n160⟩, -, X160, ⟨Lc160, hQ160, l160, y160, z160⟩, st160⟩ := Jvm.LawKit.callS X0 hx (y := own_y3) hown (mvT hZ (own_w hw 1 rfl)) (mvT hZ (own_w hw 2 rfl)) (mvT hZ (own_w hw 3 rfl)) (mvT hZ (own_w hw 4 rfl)) (by decide) (backOf (W := 0) (own_drawn2 l Z a0 hw [] zc p3 p4 h0 n0 Z0 SC hzc) hZ (own_w hw 4 rfl) (own_w hw 3 rfl) (by decide) (by decide)) (g := (mkF m 34 #[iv p1, iv p2, iv p3, iv p4, iv p5, iv 2, iv 0, iv 2, .unset, .unset, .unset, .unset, .unset] [.int p4, .int p3, .int 2])) rfl (by rw [hml]; rfl) (argsL := [(.int (2 : Int32)), (.int p3), (.int p4)]) (rest := []) (lenOf own_pd_2 rfl) rfl (by show 2 * 0 + _ ≤ _; exact Nat.le_of_eq rfl) (hb hby at_34) (fun _ _ => ⟨rfl, e0, (by decide : 0 + 3 ≤ _), (by decide : 0 + 8 ≤ _)⟩)
        dsimp only [Pt.U, Pt.locs, Pt.cells, Pt.slots] at X160 l160 y160 z160 st160 hQ160
        subst l160 y160 z160
        obtain ⟨b160_o0, rfl, Nq160, Kq160, sz160_0, P160_0⟩ := hQ160
        have N160 := Fr.app (Fr.nil n0) Nq160
        have g_b160_o0 : n0 ≤ b160_o0 := Nat.le_trans Z0 sz160_0
        have sz_b160_o0 : h0.size ≤ b160_o0 := Nat.le_trans (Keep.refl h0 []).1 sz160_0
        have e160 : T160.heap = T160.heap := rfl
        have Z161 := Nat.le_trans Z0 Kq160.1
        have K162 : Keep h0 _ [] := (Keep.refl h0 []).trans Kq160 all0
        refine own_st st160 ?_
        show own_E p e below _ T160 (mkF m 37 #[iv p1, iv p2, iv p3, iv p4, iv p5, iv 2, iv 0, iv 2, .unset, .unset, .unset, .unset, .unset] [.ref b160_o0])
        refine own_st (fun t k => XS.astore X160.here hx rfl (hb hby at_37) rfl rfl (l' := #[iv p1, iv p2, iv p3, iv p4, iv p5, iv 2, iv 0, iv 2, rv b160_o0, .unset, .unset, .unset, .unset]) rfl k) ?_
        show own_E p e below _ T160 (mkF m 39 #[iv p1, iv p2, iv p3, iv p4, iv p5, iv 2, iv 0, iv 2, rv b160_o0, .unset, .unset, .unset, .unset] [])
        refine own_st (fun t k => XS.iload X160.here hx rfl (hb hby at_39) rfl k) ?_
        show own_E p e below _ T160 (mkF m 41 #[iv p1, iv p2, iv p3, iv p4, iv p5, iv 2, iv 0, iv 2, rv b160_o0, .unset, .unset, .unset, .unset] [.int 2])
        refine own_st (fun t k => XS.iconst X160.here hx rfl (hb hby at_41) k) ?_
        show own_E p e below _ T160 (mkF m 42 #[iv p1, iv p2, iv p3, iv p4, iv p5, iv 2, iv 0, iv 2, rv b160_o0, .unset, .unset, .unset, .unset] [.int 1, .int 2])
        refine own_st (fun t k => XS.icmpYes X160.here hx rfl (pc0 := 42) (pc' := 50) rfl (hb hby at_42) rfl (by decide) (by decide) (by decide) k) ?_
        show own_E p e below _ T160 (mkF m 50 #[iv p1, iv p2, iv p3, iv p4, iv p5, iv 2, iv 0, iv 2, rv b160_o0, .unset, .unset, .unset, .unset] [])
        refine own_st (fun t k => XS.aconstNull X160.here hx rfl (hb hby at_50) k) ?_
        show own_E p e below _ T160 (mkF m 51 #[iv p1, iv p2, iv p3, iv p4, iv p5, iv 2, iv 0, iv 2, rv b160_o0, .unset, .unset, .unset, .unset] [.null])
        refine own_st (fun t k => XS.astore X160.here hx rfl (hb hby at_51) rfl rfl (l' := #[iv p1, iv p2, iv p3, iv p4, iv p5, iv 2, iv 0, iv 2, rv b160_o0, .val (.null), .unset, .unset, .unset]) rfl k) ?_
        show own_E p e below _ T160 (mkF m 53 #[iv p1, iv p2, iv p3, iv p4, iv p5, iv 2, iv 0, iv 2, rv b160_o0, .val (.null), .unset, .unset, .unset] [])
        refine own_st (fun t k => XS.iload X160.here hx rfl (hb hby at_53) rfl k) ?_
        show own_E p e below _ T160 (mkF m 55 #[iv p1, iv p2, iv p3, iv p4, iv p5, iv 2, iv 0, iv 2, rv b160_o0, .val (.null), .unset, .unset, .unset] [.int 2])
        refine own_st (fun t k => XS.iconst X160.here hx rfl (hb hby at_55) k) ?_
        show own_E p e below _ T160 (mkF m 56 #[iv p1, iv p2, iv p3, iv p4, iv p5, iv 2, iv 0, iv 2, rv b160_o0, .val (.null), .unset, .unset, .unset] [.int 2, .int 2])
        refine own_st (fun t k => XS.icmpNo X160.here hx rfl (hb hby at_56) rfl (by decide) k) ?_
        show own_E p e below _ T160 (mkF m 59 #[iv p1, iv p2, iv p3, iv p4, iv p5, iv 2, iv 0, iv 2, rv b160_o0, .val (.null), .unset, .unset, .unset] [])
        refine own_st (fun t k => XS.aload X160.here hx rfl (hb hby at_59) rfl rfl k) ?_
        show own_E p e below _ T160 (mkF m 61 #[iv p1, iv p2, iv p3, iv p4, iv p5, iv 2, iv 0, iv 2, rv b160_o0, .val (.null), .unset, .unset, .unset] [.ref b160_o0])
        refine own_st (fun t k => XS.goto X160.here hx rfl (pc0 := 61) (pc' := 65) rfl (hb hby at_61) (by decide) (by decide) k) ?_
        show own_E p e below _ T160 (mkF m 65 #[iv p1, iv p2, iv p3, iv p4, iv p5, iv 2, iv 0, iv 2, rv b160_o0, .val (.null), .unset, .unset, .unset] [.ref b160_o0])
        refine own_st (fun t k => XS.astore X160.here hx rfl (hb hby at_65) rfl rfl (l' := #[iv p1, iv p2, iv p3, iv p4, iv p5, iv 2, iv 0, iv 2, rv b160_o0, .val (.null), rv b160_o0, .unset, .unset]) rfl k) ?_
        show own_E p e below _ T160 (mkF m 67 #[iv p1, iv p2, iv p3, iv p4, iv p5, iv 2, iv 0, iv 2, rv b160_o0, .val (.null), rv b160_o0, .unset, .unset] [])
        obtain ⟨T163, h163, X163, e163, E163, A163, D163, -, st163⟩ := newO X160 hx hZ hown (own_w hw 27 rfl) (own_w hw 28 rfl) (own_w hw 29 rfl) e160 (g := (mkF m 67 #[iv p1, iv p2, iv p3, iv p4, iv p5, iv 2, iv 0, iv 2, rv b160_o0, .val (.null), rv b160_o0, .unset, .unset] [])) rfl (hb hby at_67) (by decide) (by decide)
        obtain ⟨b163, g163⟩ : ∃ z, z = T160.heap.size := ⟨_, rfl⟩
        rw [← g163] at A163 D163 st163
        have ne_b160_o0_b163 : b160_o0 ≠ b163 := Nat.ne_of_lt (Nat.lt_of_lt_of_le P160_0.lt (Nat.le_of_eq g163.symm))
        have g_b163 : n0 ≤ b163 := Nat.le_trans Z161 (Nat.le_of_eq g163.symm)
        have sz_b163 : h0.size ≤ b163 := Nat.le_trans K162.1 (Nat.le_of_eq g163.symm)
        have Z164 := Nat.le_trans Z161 E163.1
        have K165 : Keep h0 _ [] := K162.ext E163
        have F_limit_b163 : Fld Z h163 b163 "com/example/acquirer/acquirer/PageRequest" "limit" "I" (.int (0 : Int32)) := D163 (Or.inr (own_w hw 40 rfl)) (ty := .int) (by decide)
        have F_startingAfter_b163 : Fld Z h163 b163 "com/example/acquirer/acquirer/PageRequest" "startingAfter" "Ljava/lang/String;" .null := D163 (Or.inr (own_w hw 42 rfl)) (ty := (.object "java/lang/String")) (by decide)
        have F_endingBefore_b163 : Fld Z h163 b163 "com/example/acquirer/acquirer/PageRequest" "endingBefore" "Ljava/lang/String;" .null := D163 (Or.inr (own_w hw 44 rfl)) (ty := (.object "java/lang/String")) (by decide)
        have F_descending_b163 : Fld Z h163 b163 "com/example/acquirer/acquirer/PageRequest" "descending" "Z" (.int (0 : Int32)) := D163 (Or.inr (own_w hw 46 rfl)) (ty := .boolean) (by decide)
        refine own_st st163 ?_
        show own_E p e below _ T163 (mkF m 70 #[iv p1, iv p2, iv p3, iv p4, iv p5, iv 2, iv 0, iv 2, rv b160_o0, .val (.null), rv b160_o0, .unset, .unset] [.ref b163])
        refine own_st (fun t k => XS.dup X163.here hx rfl (hb hby at_70) rfl rfl k) ?_
        show own_E p e below _ T163 (mkF m 71 #[iv p1, iv p2, iv p3, iv p4, iv p5, iv 2, iv 0, iv 2, rv b160_o0, .val (.null), rv b160_o0, .unset, .unset] [.ref b163, .ref b163])
        refine own_st (fun t k => XS.iloadN X163.here hx rfl (hb hby at_71) rfl k) ?_
        show own_E p e below _ T163 (mkF m 72 #[iv p1, iv p2, iv p3, iv p4, iv p5, iv 2, iv 0, iv 2, rv b160_o0, .val (.null), rv b160_o0, .unset, .unset] [.int p2, .ref b163, .ref b163])
        refine own_st (fun t k => XS.aload X163.here hx rfl (hb hby at_72) rfl rfl k) ?_
        show own_E p e below _ T163 (mkF m 74 #[iv p1, iv p2, iv p3, iv p4, iv p5, iv 2, iv 0, iv 2, rv b160_o0, .val (.null), rv b160_o0, .unset, .unset] [.null, .int p2, .ref b163, .ref b163])
        refine own_st (fun t k => XS.aload X163.here hx rfl (hb hby at_74) rfl rfl k) ?_
        show own_E p e below _ T163 (mkF m 76 #[iv p1, iv p2, iv p3, iv p4, iv p5, iv 2, iv 0, iv 2, rv b160_o0, .val (.null), rv b160_o0, .unset, .unset] [.ref b160_o0, .null, .int p2, .ref b163, .ref b163])
        refine own_st (fun t k => XS.iload X163.here hx rfl (hb hby at_76) rfl k) ?_
        show own_E p e below _ T163 (mkF m 78 #[iv p1, iv p2, iv p3, iv p4, iv p5, iv 2, iv 0, iv 2, rv b160_o0, .val (.null), rv b160_o0, .unset, .unset] [.int 0, .ref b160_o0, .null, .int p2, .ref b163, .ref b163])
        obtain ⟨_, _, ⟨T166, L166, k166, n166⟩, -, X166, ⟨Lc166, hQ166, l166, y166, z166⟩, st166⟩ := X163.specialBack hx (y := own_y4) rfl hown (mvT hZ (own_w hw 30 rfl)) (mvT hZ (own_w hw 31 rfl)) (mvT hZ (own_w hw 32 rfl)) (by decide) (backOf (W := 1) (own_init010 l Z a0 hw [] b163 b160_o0 p2 h163 n0 Z164 A163 F_limit_b163 F_startingAfter_b163 F_endingBefore_b163 F_descending_b163 g_b163) hZ (own_w hw 32 rfl) (own_w hw 29 rfl) (by decide) (by decide)) (g := (mkF m 78 #[iv p1, iv p2, iv p3, iv p4, iv p5, iv 2, iv 0, iv 2, rv b160_o0, .val (.null), rv b160_o0, .unset, .unset] [.int 0, .ref b160_o0, .null, .int p2, .ref b163, .ref b163])) rfl (by rw [hml]; rfl) (Steps.refl _) (a := b163) (argsL := [(.int p2), .null, (.ref b160_o0), (.int (0 : Int32))]) (rest := [(.ref b163)]) (lenOf own_pd_4 rfl) rfl (by show 2 * 0 + _ ≤ _; exact Nat.le_of_eq rfl) (hb hby at_78) (fun _ _ => ⟨rfl, e163, (by decide : 4 + 0 ≤ _), (by decide : 12 + 0 ≤ _)⟩)
        dsimp only [Pt.U, Pt.locs, Pt.cells, Pt.slots] at X166 l166 y166 z166 st166 hQ166
        subst l166 y166 z166
        obtain ⟨rfl, Nq166, Kq166, P166_0, P166_1, P166_2⟩ := hQ166
        have N166 := Fr.app N160 Nq166
        have e166 : T166.heap = T166.heap := rfl
        have Z167 := Nat.le_trans Z164 Kq166.1
        have K168 : Keep h0 _ [] := K165.trans Kq166 (allS (P := fun x => x ∈ [] ∨ h0.size ≤ x) (Or.inr sz_b163) all0)
        refine own_tr st166 ?_
        show own_E p e below _ T166 (mkF m 81 #[iv p1, iv p2, iv p3, iv p4, iv p5, iv 2, iv 0, iv 2, rv b160_o0, .val (.null), rv b160_o0, .unset, .unset] [.ref b163])
        refine own_st (fun t k => XS.astore X166.here hx rfl (hb hby at_81) rfl rfl (l' := #[iv p1, iv p2, iv p3, iv p4, iv p5, iv 2, iv 0, iv 2, rv b160_o0, .val (.null), rv b160_o0, rv b163, .unset]) rfl k) ?_
        show own_E p e below _ T166 (mkF m 83 #[iv p1, iv p2, iv p3, iv p4, iv p5, iv 2, iv 0, iv 2, rv b160_o0, .val (.null), rv b160_o0, rv b163, .unset] [])
        refine own_st (fun t k => XS.aload X166.here hx rfl (hb hby at_83) rfl rfl k) ?_
        show own_E p e below _ T166 (mkF m 85 #[iv p1, iv p2, iv p3, iv p4, iv p5, iv 2, iv 0, iv 2, rv b160_o0, .val (.null), rv b160_o0, rv b163, .unset] [.ref b163])
        obtain ⟨cq169, kq169, q169a, q169b, q169c⟩ := isOf hZ e166 P166_0
        obtain ⟨_, _, ⟨T169, L169, k169, n169⟩, -, X169, ⟨Lc169, hQ169, l169, y169, z169⟩, st169⟩ := X166.virtualBack hx (y := own_y5) (z := own_y5) hown (mvT hZ (own_w hw 47 rfl)) (mvT hZ (own_w hw 48 rfl)) (notFace_of_selects (args := #[]) (mvT hZ (own_w hw 50 rfl))) (mvT hZ (own_w hw 50 rfl)) (mvT hZ (own_w hw 49 rfl)) (by decide) (backOf (W := 0) (own_cur01 l Z a0 hw [] b163 b160_o0 T166.heap n0 Z167 P166_1 P166_2) hZ (own_w hw 51 rfl) (own_w hw 29 rfl) (by decide) (by decide)) q169a q169c (g := (mkF m 85 #[iv p1, iv p2, iv p3, iv p4, iv p5, iv 2, iv 0, iv 2, rv b160_o0, .val (.null), rv b160_o0, rv b163, .unset] [.ref b163])) rfl (by rw [hml]; rfl) (Steps.refl _) (argsL := []) (rest := []) (lenOf own_pd_0 rfl) rfl (by show 2 * 0 + _ ≤ _; exact Nat.le_of_eq rfl) (hb hby at_85) (fun _ _ => ⟨rfl, e166, (by decide : 4 + 0 ≤ _), (by decide : 12 + 0 ≤ _)⟩)
        dsimp only [Pt.U, Pt.locs, Pt.cells, Pt.slots] at X169 l169 y169 z169 st169 hQ169
        subst l169 y169 z169
        obtain ⟨hR169, e169, rfl⟩ := hQ169
        have N169 := Fr.app N166 (Fr.nil n0)
        obtain rfl := hR169
        refine own_tr st169 ?_
        show own_E p e below _ T169 (mkF m 88 #[iv p1, iv p2, iv p3, iv p4, iv p5, iv 2, iv 0, iv 2, rv b160_o0, .val (.null), rv b160_o0, rv b163, .unset] [.ref b160_o0])
        refine own_st (fun t k => XS.astore X169.here hx rfl (hb hby at_88) rfl rfl (l' := #[iv p1, iv p2, iv p3, iv p4, iv p5, iv 2, iv 0, iv 2, rv b160_o0, .val (.null), rv b160_o0, rv b163, rv b160_o0]) rfl k) ?_
        show own_E p e below _ T169 (mkF m 90 #[iv p1, iv p2, iv p3, iv p4, iv p5, iv 2, iv 0, iv 2, rv b160_o0, .val (.null), rv b160_o0, rv b163, rv b160_o0] [])
        refine own_st (fun t k => XS.iload X169.here hx rfl (hb hby at_90) rfl k) ?_
        show own_E p e below _ T169 (mkF m 92 #[iv p1, iv p2, iv p3, iv p4, iv p5, iv 2, iv 0, iv 2, rv b160_o0, .val (.null), rv b160_o0, rv b163, rv b160_o0] [.int 2])
        refine own_st (fun t k => XS.ifYes X169.here hx rfl (pc0 := 92) (pc' := 106) rfl (hb hby at_92) rfl (by decide) (by decide) (by decide) k) ?_
        show own_E p e below _ T169 (mkF m 106 #[iv p1, iv p2, iv p3, iv p4, iv p5, iv 2, iv 0, iv 2, rv b160_o0, .val (.null), rv b160_o0, rv b163, rv b160_o0] [])
        refine own_st (fun t k => XS.aload X169.here hx rfl (hb hby at_106) rfl rfl k) ?_
        show own_E p e below _ T169 (mkF m 108 #[iv p1, iv p2, iv p3, iv p4, iv p5, iv 2, iv 0, iv 2, rv b160_o0, .val (.null), rv b160_o0, rv b163, rv b160_o0] [.ref b160_o0])
        refine own_st (fun t k => XS.aload X169.here hx rfl (hb hby at_108) rfl rfl k) ?_
        show own_E p e below _ T169 (mkF m 110 #[iv p1, iv p2, iv p3, iv p4, iv p5, iv 2, iv 0, iv 2, rv b160_o0, .val (.null), rv b160_o0, rv b163, rv b160_o0] [.ref b160_o0, .ref b160_o0])
        refine own_st (fun t k => Jvm.RoadKit.acmp (g := (mkF m 110 #[iv p1, iv p2, iv p3, iv p4, iv p5, iv 2, iv 0, iv 2, rv b160_o0, .val (.null), rv b160_o0, rv b163, rv b160_o0] [.ref b160_o0, .ref b160_o0])) X169 hx rfl rfl rfl (pc0 := 110) (pc' := 113) (same := true) rfl (hb hby at_110) rfl (decide_eq_true rfl) (by decide) (by decide) k) ?_
        show own_E p e below _ T169 (mkF m 113 #[iv p1, iv p2, iv p3, iv p4, iv p5, iv 2, iv 0, iv 2, rv b160_o0, .val (.null), rv b160_o0, rv b163, rv b160_o0] [])
        refine own_st (fun t k => XS.iconst X169.here hx rfl (hb hby at_113) k) ?_
        show own_E p e below _ T169 (mkF m 114 #[iv p1, iv p2, iv p3, iv p4, iv p5, iv 2, iv 0, iv 2, rv b160_o0, .val (.null), rv b160_o0, rv b163, rv b160_o0] [.int 1])
        refine own_st (fun t k => XS.goto X169.here hx rfl (pc0 := 114) (pc' := 118) rfl (hb hby at_114) (by decide) (by decide) k) ?_
        show own_E p e below _ T169 (mkF m 118 #[iv p1, iv p2, iv p3, iv p4, iv p5, iv 2, iv 0, iv 2, rv b160_o0, .val (.null), rv b160_o0, rv b163, rv b160_o0] [.int 1])
        refine own_retSW X169 (own_since s) (by rw [e169]; exact (Nat.zero_le _)) hx Bd.notSynchronized Bd.returns rfl (by decide) (hb hby at_118) (by decide) (by decide) ?_
        exact ⟨rfl, N169⟩
    · refine own_st (fun t k => XS.ifNo X0.here hx rfl (hb hby at_12) rfl ((if0 _ _).trans (feq hc136).1) k) ?_
      show own_E p e below _ s₁ (mkF m 15 #[iv p1, iv p2, iv p3, iv p4, iv p5, iv 2, .unset, .unset, .unset, .unset, .unset, .unset, .unset] [])
      refine own_st (fun t k => XS.iconst X0.here hx rfl (hb hby at_15) k) ?_
      show own_E p e below _ s₁ (mkF m 16 #[iv p1, iv p2, iv p3, iv p4, iv p5, iv 2, .unset, .unset, .unset, .unset, .unset, .unset, .unset] [.int 1])
      refine own_st (fun t k => XS.goto X0.here hx rfl (pc0 := 16) (pc' := 20) rfl (hb hby at_16) (by decide) (by decide) k) ?_
      show own_E p e below _ s₁ (mkF m 20 #[iv p1, iv p2, iv p3, iv p4, iv p5, iv 2, .unset, .unset, .unset, .unset, .unset, .unset, .unset] [.int 1])
      refine own_st (fun t k => XS.istore X0.here hx rfl (hb hby at_20) rfl (l' := #[iv p1, iv p2, iv p3, iv p4, iv p5, iv 2, iv 1, .unset, .unset, .unset, .unset, .unset, .unset]) rfl k) ?_
      show own_E p e below _ s₁ (mkF m 22 #[iv p1, iv p2, iv p3, iv p4, iv p5, iv 2, iv 1, .unset, .unset, .unset, .unset, .unset, .unset] [])
      refine own_st (fun t k => XS.iload X0.here hx rfl (hb hby at_22) rfl k) ?_
      show own_E p e below _ s₁ (mkF m 24 #[iv p1, iv p2, iv p3, iv p4, iv p5, iv 2, iv 1, .unset, .unset, .unset, .unset, .unset, .unset] [.int p5])
      refine own_st (fun t k => XS.iconst X0.here hx rfl (hb hby at_24) k) ?_
      show own_E p e below _ s₁ (mkF m 25 #[iv p1, iv p2, iv p3, iv p4, iv p5, iv 2, iv 1, .unset, .unset, .unset, .unset, .unset, .unset] [.int 1, .int p5])
      refine own_st (fun t k => XS.iushr X0.here hx rfl (hb hby at_25) rfl k) ?_
      show own_E p e below _ s₁ (mkF m 26 #[iv p1, iv p2, iv p3, iv p4, iv p5, iv 2, iv 1, .unset, .unset, .unset, .unset, .unset, .unset] [.int ((p5.toUInt32 >>> ((1 : Int32) &&& 31).toUInt32).toInt32)])
      refine own_st (fun t k => XS.iconst X0.here hx rfl (hb hby at_26) k) ?_
      show own_E p e below _ s₁ (mkF m 27 #[iv p1, iv p2, iv p3, iv p4, iv p5, iv 2, iv 1, .unset, .unset, .unset, .unset, .unset, .unset] [.int 3, .int ((p5.toUInt32 >>> ((1 : Int32) &&& 31).toUInt32).toInt32)])
      refine own_st (fun t k => iremM X0 hx rfl (hb hby at_27) rfl (by decide) k) ?_
      show own_E p e below _ s₁ (mkF m 28 #[iv p1, iv p2, iv p3, iv p4, iv p5, iv 2, iv 1, .unset, .unset, .unset, .unset, .unset, .unset] [.int (((p5.toUInt32 >>> ((1 : Int32) &&& 31).toUInt32).toInt32) % (3 : Int32))])
      refine own_st (fun t k => XS.istore X0.here hx rfl (hb hby at_28) rfl (l' := #[iv p1, iv p2, iv p3, iv p4, iv p5, iv 2, iv 1, iv (((p5.toUInt32 >>> ((1 : Int32) &&& 31).toUInt32).toInt32) % (3 : Int32)), .unset, .unset, .unset, .unset, .unset]) rfl k) ?_
      show own_E p e below _ s₁ (mkF m 30 #[iv p1, iv p2, iv p3, iv p4, iv p5, iv 2, iv 1, iv (((p5.toUInt32 >>> ((1 : Int32) &&& 31).toUInt32).toInt32) % (3 : Int32)), .unset, .unset, .unset, .unset, .unset] [])
      rcases own_len3 p5 with hs170 | hs170 | hs170
      · rw [hs170]
        show own_E p e below _ s₁ (mkF m 30 #[iv p1, iv p2, iv p3, iv p4, iv p5, iv 2, iv 1, iv 0, .unset, .unset, .unset, .unset, .unset] [])
        refine own_st (fun t k => XS.iload X0.here hx rfl (hb hby at_30) rfl k) ?_
        show own_E p e below _ s₁ (mkF m 32 #[iv p1, iv p2, iv p3, iv p4, iv p5, iv 2, iv 1, iv 0, .unset, .unset, .unset, .unset, .unset] [.int 0])
        refine own_st (fun t k => XS.iloadN X0.here hx rfl (hb hby at_32) rfl k) ?_
        show own_E p e below _ s₁ (mkF m 33 #[iv p1, iv p2, iv p3, iv p4, iv p5, iv 2, iv 1, iv 0, .unset, .unset, .unset, .unset, .unset] [.int p3, .int 0])
        refine own_st (fun t k => XS.iloadN X0.here hx rfl (hb hby at_33) rfl k) ?_
        show own_E p e below _ s₁ (mkF m 34 #[iv p1, iv p2, iv p3, iv p4, iv p5, iv 2, iv 1, iv 0, .unset, .unset, .unset, .unset, .unset] [.int p4, .int p3, .int 0])
        obtain ⟨_, _, ⟨T171, L171, k171, n171⟩, -, X171, hS171, hgr171, ⟨Lc171, hQ171, l171, y171, z171⟩, st171⟩ := callSS X0 hx (y := own_y3) hown (mvT hZ (own_w hw 1 rfl)) (mvT hZ (own_w hw 2 rfl)) (mvT hZ (own_w hw 3 rfl)) (mvT hZ (own_w hw 4 rfl)) (by decide) (own_backI (W := 0) (own_drawn0 l Z a0 hw [] p3 p4 h0 n0 Z0 hO hheld hcw) hZ hI (own_w hw 4 rfl) (own_w hw 3 rfl) (by decide) (by decide)) (g := (mkF m 34 #[iv p1, iv p2, iv p3, iv p4, iv p5, iv 2, iv 1, iv 0, .unset, .unset, .unset, .unset, .unset] [.int p4, .int p3, .int 0])) rfl (by rw [hml]; rfl) (argsL := [(.int (0 : Int32)), (.int p3), (.int p4)]) (rest := []) (lenOf own_pd_2 rfl) rfl (by show 2 * 0 + _ ≤ _; exact Nat.le_of_eq rfl) (hb hby at_34) (fun _ _ => ⟨rfl, e0, (by decide : 0 + 4 ≤ _), (by decide : 0 + 8 ≤ _)⟩)
        dsimp only [Pt.U, Pt.locs, Pt.cells, Pt.slots] at X171 l171 y171 z171 st171 hQ171 hS171 hgr171
        subst l171 y171 z171
        have hZ171 := own_Zw hZ hS171
        have ho171 := own_ow hown hS171
        have hk171 := Nat.le_refl T171.heap.size
        obtain ⟨b171_o0, rfl, Nq171, Kq171, sz171_0, P171_0⟩ := hQ171
        have N171 := Fr.app (Fr.nil n0) Nq171
        have g_b171_o0 : n0 ≤ b171_o0 := Nat.le_trans Z0 sz171_0
        have sz_b171_o0 : h0.size ≤ b171_o0 := Nat.le_trans (Keep.refl h0 []).1 sz171_0
        have e171 : T171.heap = T171.heap := rfl
        have Z172 := Nat.le_trans Z0 Kq171.1
        have K173 : Keep h0 _ [] := (Keep.refl h0 []).trans Kq171 all0
        refine own_tr st171 ?_
        show own_E p e below _ T171 (mkF m 37 #[iv p1, iv p2, iv p3, iv p4, iv p5, iv 2, iv 1, iv 0, .unset, .unset, .unset, .unset, .unset] [.ref b171_o0])
        refine own_st (fun t k => XS.astore X171.here hx rfl (hb hby at_37) rfl rfl (l' := #[iv p1, iv p2, iv p3, iv p4, iv p5, iv 2, iv 1, iv 0, rv b171_o0, .unset, .unset, .unset, .unset]) rfl k) ?_
        show own_E p e below _ T171 (mkF m 39 #[iv p1, iv p2, iv p3, iv p4, iv p5, iv 2, iv 1, iv 0, rv b171_o0, .unset, .unset, .unset, .unset] [])
        refine own_st (fun t k => XS.iload X171.here hx rfl (hb hby at_39) rfl k) ?_
        show own_E p e below _ T171 (mkF m 41 #[iv p1, iv p2, iv p3, iv p4, iv p5, iv 2, iv 1, iv 0, rv b171_o0, .unset, .unset, .unset, .unset] [.int 2])
        refine own_st (fun t k => XS.iconst X171.here hx rfl (hb hby at_41) k) ?_
        show own_E p e below _ T171 (mkF m 42 #[iv p1, iv p2, iv p3, iv p4, iv p5, iv 2, iv 1, iv 0, rv b171_o0, .unset, .unset, .unset, .unset] [.int 1, .int 2])
        refine own_st (fun t k => XS.icmpYes X171.here hx rfl (pc0 := 42) (pc' := 50) rfl (hb hby at_42) rfl (by decide) (by decide) (by decide) k) ?_
        show own_E p e below _ T171 (mkF m 50 #[iv p1, iv p2, iv p3, iv p4, iv p5, iv 2, iv 1, iv 0, rv b171_o0, .unset, .unset, .unset, .unset] [])
        refine own_st (fun t k => XS.aconstNull X171.here hx rfl (hb hby at_50) k) ?_
        show own_E p e below _ T171 (mkF m 51 #[iv p1, iv p2, iv p3, iv p4, iv p5, iv 2, iv 1, iv 0, rv b171_o0, .unset, .unset, .unset, .unset] [.null])
        refine own_st (fun t k => XS.astore X171.here hx rfl (hb hby at_51) rfl rfl (l' := #[iv p1, iv p2, iv p3, iv p4, iv p5, iv 2, iv 1, iv 0, rv b171_o0, .val (.null), .unset, .unset, .unset]) rfl k) ?_
        show own_E p e below _ T171 (mkF m 53 #[iv p1, iv p2, iv p3, iv p4, iv p5, iv 2, iv 1, iv 0, rv b171_o0, .val (.null), .unset, .unset, .unset] [])
        refine own_st (fun t k => XS.iload X171.here hx rfl (hb hby at_53) rfl k) ?_
        show own_E p e below _ T171 (mkF m 55 #[iv p1, iv p2, iv p3, iv p4, iv p5, iv 2, iv 1, iv 0, rv b171_o0, .val (.null), .unset, .unset, .unset] [.int 2])
        refine own_st (fun t k => XS.iconst X171.here hx rfl (hb hby at_55) k) ?_
        show own_E p e below _ T171 (mkF m 56 #[iv p1, iv p2, iv p3, iv p4, iv p5, iv 2, iv 1, iv 0, rv b171_o0, .val (.null), .unset, .unset, .unset] [.int 2, .int 2])
        refine own_st (fun t k => XS.icmpNo X171.here hx rfl (hb hby at_56) rfl (by decide) k) ?_
        show own_E p e below _ T171 (mkF m 59 #[iv p1, iv p2, iv p3, iv p4, iv p5, iv 2, iv 1, iv 0, rv b171_o0, .val (.null), .unset, .unset, .unset] [])
        refine own_st (fun t k => XS.aload X171.here hx rfl (hb hby at_59) rfl rfl k) ?_
        show own_E p e below _ T171 (mkF m 61 #[iv p1, iv p2, iv p3, iv p4, iv p5, iv 2, iv 1, iv 0, rv b171_o0, .val (.null), .unset, .unset, .unset] [.ref b171_o0])
        refine own_st (fun t k => XS.goto X171.here hx rfl (pc0 := 61) (pc' := 65) rfl (hb hby at_61) (by decide) (by decide) k) ?_
        show own_E p e below _ T171 (mkF m 65 #[iv p1, iv p2, iv p3, iv p4, iv p5, iv 2, iv 1, iv 0, rv b171_o0, .val (.null), .unset, .unset, .unset] [.ref b171_o0])
        refine own_st (fun t k => XS.astore X171.here hx rfl (hb hby at_65) rfl rfl (l' := #[iv p1, iv p2, iv p3, iv p4, iv p5, iv 2, iv 1, iv 0, rv b171_o0, .val (.null), rv b171_o0, .unset, .unset]) rfl k) ?_
        show own_E p e below _ T171 (mkF m 67 #[iv p1, iv p2, iv p3, iv p4, iv p5, iv 2, iv 1, iv 0, rv b171_o0, .val (.null), rv b171_o0, .unset, .unset] [])
        obtain ⟨T174, h174, X174, e174, E174, A174, D174, -, st174⟩ := newO X171 hx hZ171 ho171 (own_w hw 27 rfl) (own_w hw 28 rfl) (own_w hw 29 rfl) e171 (g := (mkF m 67 #[iv p1, iv p2, iv p3, iv p4, iv p5, iv 2, iv 1, iv 0, rv b171_o0, .val (.null), rv b171_o0, .unset, .unset] [])) rfl (hb hby at_67) (by decide) (by decide)
        obtain ⟨b174, g174⟩ : ∃ z, z = T171.heap.size := ⟨_, rfl⟩
        rw [← g174] at A174 D174 st174
        have ne_b171_o0_b174 : b171_o0 ≠ b174 := Nat.ne_of_lt (Nat.lt_of_lt_of_le P171_0.lt (Nat.le_of_eq g174.symm))
        have g_b174 : n0 ≤ b174 := Nat.le_trans Z172 (Nat.le_of_eq g174.symm)
        have sz_b174 : h0.size ≤ b174 := Nat.le_trans K173.1 (Nat.le_of_eq g174.symm)
        have Z175 := Nat.le_trans Z172 E174.1
        have hk176 := Nat.le_trans hk171 E174.1
        have K177 : Keep h0 _ [] := K173.ext E174
        have F_limit_b174 : Fld Z h174 b174 "com/example/acquirer/acquirer/PageRequest" "limit" "I" (.int (0 : Int32)) := D174 (Or.inr (own_w hw 40 rfl)) (ty := .int) (by decide)
        have F_startingAfter_b174 : Fld Z h174 b174 "com/example/acquirer/acquirer/PageRequest" "startingAfter" "Ljava/lang/String;" .null := D174 (Or.inr (own_w hw 42 rfl)) (ty := (.object "java/lang/String")) (by decide)
        have F_endingBefore_b174 : Fld Z h174 b174 "com/example/acquirer/acquirer/PageRequest" "endingBefore" "Ljava/lang/String;" .null := D174 (Or.inr (own_w hw 44 rfl)) (ty := (.object "java/lang/String")) (by decide)
        have F_descending_b174 : Fld Z h174 b174 "com/example/acquirer/acquirer/PageRequest" "descending" "Z" (.int (0 : Int32)) := D174 (Or.inr (own_w hw 46 rfl)) (ty := .boolean) (by decide)
        refine own_st st174 ?_
        show own_E p e below _ T174 (mkF m 70 #[iv p1, iv p2, iv p3, iv p4, iv p5, iv 2, iv 1, iv 0, rv b171_o0, .val (.null), rv b171_o0, .unset, .unset] [.ref b174])
        refine own_st (fun t k => XS.dup X174.here hx rfl (hb hby at_70) rfl rfl k) ?_
        show own_E p e below _ T174 (mkF m 71 #[iv p1, iv p2, iv p3, iv p4, iv p5, iv 2, iv 1, iv 0, rv b171_o0, .val (.null), rv b171_o0, .unset, .unset] [.ref b174, .ref b174])
        refine own_st (fun t k => XS.iloadN X174.here hx rfl (hb hby at_71) rfl k) ?_
        show own_E p e below _ T174 (mkF m 72 #[iv p1, iv p2, iv p3, iv p4, iv p5, iv 2, iv 1, iv 0, rv b171_o0, .val (.null), rv b171_o0, .unset, .unset] [.int p2, .ref b174, .ref b174])
        refine own_st (fun t k => XS.aload X174.here hx rfl (hb hby at_72) rfl rfl k) ?_
        show own_E p e below _ T174 (mkF m 74 #[iv p1, iv p2, iv p3, iv p4, iv p5, iv 2, iv 1, iv 0, rv b171_o0, .val (.null), rv b171_o0, .unset, .unset] [.null, .int p2, .ref b174, .ref b174])
        refine own_st (fun t k => XS.aload X174.here hx rfl (hb hby at_74) rfl rfl k) ?_
        show own_E p e below _ T174 (mkF m 76 #[iv p1, iv p2, iv p3, iv p4, iv p5, iv 2, iv 1, iv 0, rv b171_o0, .val (.null), rv b171_o0, .unset, .unset] [.ref b171_o0, .null, .int p2, .ref b174, .ref b174])
        refine own_st (fun t k => XS.iload X174.here hx rfl (hb hby at_76) rfl k) ?_
        show own_E p e below _ T174 (mkF m 78 #[iv p1, iv p2, iv p3, iv p4, iv p5, iv 2, iv 1, iv 0, rv b171_o0, .val (.null), rv b171_o0, .unset, .unset] [.int 1, .ref b171_o0, .null, .int p2, .ref b174, .ref b174])
        obtain ⟨_, _, ⟨T178, L178, k178, n178⟩, -, X178, ⟨Lc178, hQ178, l178, y178, z178⟩, st178⟩ := X174.specialBack hx (y := own_y4) rfl ho171 (mvT hZ171 (own_w hw 30 rfl)) (mvT hZ171 (own_w hw 31 rfl)) (mvT hZ171 (own_w hw 32 rfl)) (by decide) (backOf (W := 1) (own_init011 l Z a0 hw [] b174 b171_o0 p2 h174 n0 Z175 A174 F_limit_b174 F_startingAfter_b174 F_endingBefore_b174 F_descending_b174 g_b174) hZ171 (own_w hw 32 rfl) (own_w hw 29 rfl) (by decide) (by decide)) (g := (mkF m 78 #[iv p1, iv p2, iv p3, iv p4, iv p5, iv 2, iv 1, iv 0, rv b171_o0, .val (.null), rv b171_o0, .unset, .unset] [.int 1, .ref b171_o0, .null, .int p2, .ref b174, .ref b174])) rfl (by rw [hml]; rfl) (Steps.refl _) (a := b174) (argsL := [(.int p2), .null, (.ref b171_o0), (.int (1 : Int32))]) (rest := [(.ref b174)]) (lenOf own_pd_4 rfl) rfl (by show 2 * 0 + _ ≤ _; exact Nat.le_of_eq rfl) (hb hby at_78) (fun _ _ => ⟨rfl, e174, (by decide : 5 + 0 ≤ _), (by decide : 12 + 0 ≤ _)⟩)
        dsimp only [Pt.U, Pt.locs, Pt.cells, Pt.slots] at X178 l178 y178 z178 st178 hQ178
        subst l178 y178 z178
        obtain ⟨rfl, Nq178, Kq178, P178_0, P178_1, P178_2⟩ := hQ178
        have N178 := Fr.app N171 Nq178
        have e178 : T178.heap = T178.heap := rfl
        have Z179 := Nat.le_trans Z175 Kq178.1
        have hk180 := Nat.le_trans hk176 Kq178.1
        have K181 : Keep h0 _ [] := K177.trans Kq178 (allS (P := fun x => x ∈ [] ∨ h0.size ≤ x) (Or.inr sz_b174) all0)
        refine own_tr st178 ?_
        show own_E p e below _ T178 (mkF m 81 #[iv p1, iv p2, iv p3, iv p4, iv p5, iv 2, iv 1, iv 0, rv b171_o0, .val (.null), rv b171_o0, .unset, .unset] [.ref b174])
        refine own_st (fun t k => XS.astore X178.here hx rfl (hb hby at_81) rfl rfl (l' := #[iv p1, iv p2, iv p3, iv p4, iv p5, iv 2, iv 1, iv 0, rv b171_o0, .val (.null), rv b171_o0, rv b174, .unset]) rfl k) ?_
        show own_E p e below _ T178 (mkF m 83 #[iv p1, iv p2, iv p3, iv p4, iv p5, iv 2, iv 1, iv 0, rv b171_o0, .val (.null), rv b171_o0, rv b174, .unset] [])
        refine own_st (fun t k => XS.aload X178.here hx rfl (hb hby at_83) rfl rfl k) ?_
        show own_E p e below _ T178 (mkF m 85 #[iv p1, iv p2, iv p3, iv p4, iv p5, iv 2, iv 1, iv 0, rv b171_o0, .val (.null), rv b171_o0, rv b174, .unset] [.ref b174])
        obtain ⟨cq182, kq182, q182a, q182b, q182c⟩ := isOf hZ171 e178 P178_0
        obtain ⟨_, _, ⟨T182, L182, k182, n182⟩, -, X182, ⟨Lc182, hQ182, l182, y182, z182⟩, st182⟩ := X178.virtualBack hx (y := own_y5) (z := own_y5) ho171 (mvT hZ171 (own_w hw 47 rfl)) (mvT hZ171 (own_w hw 48 rfl)) (notFace_of_selects (args := #[]) (mvT hZ171 (own_w hw 50 rfl))) (mvT hZ171 (own_w hw 50 rfl)) (mvT hZ171 (own_w hw 49 rfl)) (by decide) (backOf (W := 0) (own_cur01 l Z a0 hw [] b174 b171_o0 T178.heap n0 Z179 P178_1 P178_2) hZ171 (own_w hw 51 rfl) (own_w hw 29 rfl) (by decide) (by decide)) q182a q182c (g := (mkF m 85 #[iv p1, iv p2, iv p3, iv p4, iv p5, iv 2, iv 1, iv 0, rv b171_o0, .val (.null), rv b171_o0, rv b174, .unset] [.ref b174])) rfl (by rw [hml]; rfl) (Steps.refl _) (argsL := []) (rest := []) (lenOf own_pd_0 rfl) rfl (by show 2 * 0 + _ ≤ _; exact Nat.le_of_eq rfl) (hb hby at_85) (fun _ _ => ⟨rfl, e178, (by decide : 5 + 0 ≤ _), (by decide : 12 + 0 ≤ _)⟩)
        dsimp only [Pt.U, Pt.locs, Pt.cells, Pt.slots] at X182 l182 y182 z182 st182 hQ182
        subst l182 y182 z182
        obtain ⟨hR182, e182, rfl⟩ := hQ182
        have N182 := Fr.app N178 (Fr.nil n0)
        obtain rfl := hR182
        refine own_tr st182 ?_
        show own_E p e below _ T182 (mkF m 88 #[iv p1, iv p2, iv p3, iv p4, iv p5, iv 2, iv 1, iv 0, rv b171_o0, .val (.null), rv b171_o0, rv b174, .unset] [.ref b171_o0])
        refine own_st (fun t k => XS.astore X182.here hx rfl (hb hby at_88) rfl rfl (l' := #[iv p1, iv p2, iv p3, iv p4, iv p5, iv 2, iv 1, iv 0, rv b171_o0, .val (.null), rv b171_o0, rv b174, rv b171_o0]) rfl k) ?_
        show own_E p e below _ T182 (mkF m 90 #[iv p1, iv p2, iv p3, iv p4, iv p5, iv 2, iv 1, iv 0, rv b171_o0, .val (.null), rv b171_o0, rv b174, rv b171_o0] [])
        refine own_st (fun t k => XS.iload X182.here hx rfl (hb hby at_90) rfl k) ?_
        show own_E p e below _ T182 (mkF m 92 #[iv p1, iv p2, iv p3, iv p4, iv p5, iv 2, iv 1, iv 0, rv b171_o0, .val (.null), rv b171_o0, rv b174, rv b171_o0] [.int 2])
        refine own_st (fun t k => XS.ifYes X182.here hx rfl (pc0 := 92) (pc' := 106) rfl (hb hby at_92) rfl (by decide) (by decide) (by decide) k) ?_
        show own_E p e below _ T182 (mkF m 106 #[iv p1, iv p2, iv p3, iv p4, iv p5, iv 2, iv 1, iv 0, rv b171_o0, .val (.null), rv b171_o0, rv b174, rv b171_o0] [])
        refine own_st (fun t k => XS.aload X182.here hx rfl (hb hby at_106) rfl rfl k) ?_
        show own_E p e below _ T182 (mkF m 108 #[iv p1, iv p2, iv p3, iv p4, iv p5, iv 2, iv 1, iv 0, rv b171_o0, .val (.null), rv b171_o0, rv b174, rv b171_o0] [.ref b171_o0])
        refine own_st (fun t k => XS.aload X182.here hx rfl (hb hby at_108) rfl rfl k) ?_
        show own_E p e below _ T182 (mkF m 110 #[iv p1, iv p2, iv p3, iv p4, iv p5, iv 2, iv 1, iv 0, rv b171_o0, .val (.null), rv b171_o0, rv b174, rv b171_o0] [.ref b171_o0, .ref b171_o0])
        refine own_st (fun t k => Jvm.RoadKit.acmp (g := (mkF m 110 #[iv p1, iv p2, iv p3, iv p4, iv p5, iv 2, iv 1, iv 0, rv b171_o0, .val (.null), rv b171_o0, rv b174, rv b171_o0] [.ref b171_o0, .ref b171_o0])) X182 hx rfl rfl rfl (pc0 := 110) (pc' := 113) (same := true) rfl (hb hby at_110) rfl (decide_eq_true rfl) (by decide) (by decide) k) ?_
        show own_E p e below _ T182 (mkF m 113 #[iv p1, iv p2, iv p3, iv p4, iv p5, iv 2, iv 1, iv 0, rv b171_o0, .val (.null), rv b171_o0, rv b174, rv b171_o0] [])
        refine own_st (fun t k => XS.iconst X182.here hx rfl (hb hby at_113) k) ?_
        show own_E p e below _ T182 (mkF m 114 #[iv p1, iv p2, iv p3, iv p4, iv p5, iv 2, iv 1, iv 0, rv b171_o0, .val (.null), rv b171_o0, rv b174, rv b171_o0] [.int 1])
        refine own_st (fun t k => XS.goto X182.here hx rfl (pc0 := 114) (pc' := 118) rfl (hb hby at_114) (by decide) (by decide) k) ?_
        show own_E p e below _ T182 (mkF m 118 #[iv p1, iv p2, iv p3, iv p4, iv p5, iv 2, iv 1, iv 0, rv b171_o0, .val (.null), rv b171_o0, rv b174, rv b171_o0] [.int 1])
        refine own_retSW X182 hS171 (by rw [e182]; exact hk180) hx Bd.notSynchronized Bd.returns rfl (by decide) (hb hby at_118) (by decide) (by decide) ?_
        exact ⟨rfl, N182⟩
      · rw [hs170]
        show own_E p e below _ s₁ (mkF m 30 #[iv p1, iv p2, iv p3, iv p4, iv p5, iv 2, iv 1, iv 1, .unset, .unset, .unset, .unset, .unset] [])
        refine own_st (fun t k => XS.iload X0.here hx rfl (hb hby at_30) rfl k) ?_
        show own_E p e below _ s₁ (mkF m 32 #[iv p1, iv p2, iv p3, iv p4, iv p5, iv 2, iv 1, iv 1, .unset, .unset, .unset, .unset, .unset] [.int 1])
        refine own_st (fun t k => XS.iloadN X0.here hx rfl (hb hby at_32) rfl k) ?_
        show own_E p e below _ s₁ (mkF m 33 #[iv p1, iv p2, iv p3, iv p4, iv p5, iv 2, iv 1, iv 1, .unset, .unset, .unset, .unset, .unset] [.int p3, .int 1])
        refine own_st (fun t k => XS.iloadN X0.here hx rfl (hb hby at_33) rfl k) ?_
        show own_E p e below _ s₁ (mkF m 34 #[iv p1, iv p2, iv p3, iv p4, iv p5, iv 2, iv 1, iv 1, .unset, .unset, .unset, .unset, .unset] [.int p4, .int p3, .int 1])
        obtain ⟨_, _, ⟨T183, L183, k183, n183⟩, -, X183, ⟨Lc183, hQ183, l183, y183, z183⟩, st183⟩ := Jvm.LawKit.callS X0 hx (y := own_y3) hown (mvT hZ (own_w hw 1 rfl)) (mvT hZ (own_w hw 2 rfl)) (mvT hZ (own_w hw 3 rfl)) (mvT hZ (own_w hw 4 rfl)) (by decide) (backOf (W := 0) (own_drawn1 l Z a0 hw [] zc p3 p4 h0 n0 Z0 SC hzc) hZ (own_w hw 4 rfl) (own_w hw 3 rfl) (by decide) (by decide)) (g := (mkF m 34 #[iv p1, iv p2, iv p3, iv p4, iv p5, iv 2, iv 1, iv 1, .unset, .unset, .unset, .unset, .unset] [.int p4, .int p3, .int 1])) rfl (by rw [hml]; rfl) (argsL := [(.int (1 : Int32)), (.int p3), (.int p4)]) (rest := []) (lenOf own_pd_2 rfl) rfl (by show 2 * 0 + _ ≤ _; exact Nat.le_of_eq rfl) (hb hby at_34) (fun _ _ => ⟨rfl, e0, (by decide : 0 + 3 ≤ _), (by decide : 0 + 6 ≤ _)⟩)
        dsimp only [Pt.U, Pt.locs, Pt.cells, Pt.slots] at X183 l183 y183 z183 st183 hQ183
        subst l183 y183 z183
        obtain ⟨b183_o0, rfl, Nq183, Kq183, sz183_0, P183_0⟩ := hQ183
        have N183 := Fr.app (Fr.nil n0) Nq183
        have g_b183_o0 : n0 ≤ b183_o0 := Nat.le_trans Z0 sz183_0
        have sz_b183_o0 : h0.size ≤ b183_o0 := Nat.le_trans (Keep.refl h0 []).1 sz183_0
        have e183 : T183.heap = T183.heap := rfl
        have Z184 := Nat.le_trans Z0 Kq183.1
        have K185 : Keep h0 _ [] := (Keep.refl h0 []).trans Kq183 all0
        refine own_st st183 ?_
        show own_E p e below _ T183 (mkF m 37 #[iv p1, iv p2, iv p3, iv p4, iv p5, iv 2, iv 1, iv 1, .unset, .unset, .unset, .unset, .unset] [.ref b183_o0])
        refine own_st (fun t k => XS.astore X183.here hx rfl (hb hby at_37) rfl rfl (l' := #[iv p1, iv p2, iv p3, iv p4, iv p5, iv 2, iv 1, iv 1, rv b183_o0, .unset, .unset, .unset, .unset]) rfl k) ?_
        show own_E p e below _ T183 (mkF m 39 #[iv p1, iv p2, iv p3, iv p4, iv p5, iv 2, iv 1, iv 1, rv b183_o0, .unset, .unset, .unset, .unset] [])
        refine own_st (fun t k => XS.iload X183.here hx rfl (hb hby at_39) rfl k) ?_
        show own_E p e below _ T183 (mkF m 41 #[iv p1, iv p2, iv p3, iv p4, iv p5, iv 2, iv 1, iv 1, rv b183_o0, .unset, .unset, .unset, .unset] [.int 2])
        refine own_st (fun t k => XS.iconst X183.here hx rfl (hb hby at_41) k) ?_
        show own_E p e below _ T183 (mkF m 42 #[iv p1, iv p2, iv p3, iv p4, iv p5, iv 2, iv 1, iv 1, rv b183_o0, .unset, .unset, .unset, .unset] [.int 1, .int 2])
        refine own_st (fun t k => XS.icmpYes X183.here hx rfl (pc0 := 42) (pc' := 50) rfl (hb hby at_42) rfl (by decide) (by decide) (by decide) k) ?_
        show own_E p e below _ T183 (mkF m 50 #[iv p1, iv p2, iv p3, iv p4, iv p5, iv 2, iv 1, iv 1, rv b183_o0, .unset, .unset, .unset, .unset] [])
        refine own_st (fun t k => XS.aconstNull X183.here hx rfl (hb hby at_50) k) ?_
        show own_E p e below _ T183 (mkF m 51 #[iv p1, iv p2, iv p3, iv p4, iv p5, iv 2, iv 1, iv 1, rv b183_o0, .unset, .unset, .unset, .unset] [.null])
        refine own_st (fun t k => XS.astore X183.here hx rfl (hb hby at_51) rfl rfl (l' := #[iv p1, iv p2, iv p3, iv p4, iv p5, iv 2, iv 1, iv 1, rv b183_o0, .val (.null), .unset, .unset, .unset]) rfl k) ?_
        show own_E p e below _ T183 (mkF m 53 #[iv p1, iv p2, iv p3, iv p4, iv p5, iv 2, iv 1, iv 1, rv b183_o0, .val (.null), .unset, .unset, .unset] [])
        refine own_st (fun t k => XS.iload X183.here hx rfl (hb hby at_53) rfl k) ?_
        show own_E p e below _ T183 (mkF m 55 #[iv p1, iv p2, iv p3, iv p4, iv p5, iv 2, iv 1, iv 1, rv b183_o0, .val (.null), .unset, .unset, .unset] [.int 2])
        refine own_st (fun t k => XS.iconst X183.here hx rfl (hb hby at_55) k) ?_
        show own_E p e below _ T183 (mkF m 56 #[iv p1, iv p2, iv p3, iv p4, iv p5, iv 2, iv 1, iv 1, rv b183_o0, .val (.null), .unset, .unset, .unset] [.int 2, .int 2])
        refine own_st (fun t k => XS.icmpNo X183.here hx rfl (hb hby at_56) rfl (by decide) k) ?_
        show own_E p e below _ T183 (mkF m 59 #[iv p1, iv p2, iv p3, iv p4, iv p5, iv 2, iv 1, iv 1, rv b183_o0, .val (.null), .unset, .unset, .unset] [])
        refine own_st (fun t k => XS.aload X183.here hx rfl (hb hby at_59) rfl rfl k) ?_
        show own_E p e below _ T183 (mkF m 61 #[iv p1, iv p2, iv p3, iv p4, iv p5, iv 2, iv 1, iv 1, rv b183_o0, .val (.null), .unset, .unset, .unset] [.ref b183_o0])
        refine own_st (fun t k => XS.goto X183.here hx rfl (pc0 := 61) (pc' := 65) rfl (hb hby at_61) (by decide) (by decide) k) ?_
        show own_E p e below _ T183 (mkF m 65 #[iv p1, iv p2, iv p3, iv p4, iv p5, iv 2, iv 1, iv 1, rv b183_o0, .val (.null), .unset, .unset, .unset] [.ref b183_o0])
        refine own_st (fun t k => XS.astore X183.here hx rfl (hb hby at_65) rfl rfl (l' := #[iv p1, iv p2, iv p3, iv p4, iv p5, iv 2, iv 1, iv 1, rv b183_o0, .val (.null), rv b183_o0, .unset, .unset]) rfl k) ?_
        show own_E p e below _ T183 (mkF m 67 #[iv p1, iv p2, iv p3, iv p4, iv p5, iv 2, iv 1, iv 1, rv b183_o0, .val (.null), rv b183_o0, .unset, .unset] [])
        obtain ⟨T186, h186, X186, e186, E186, A186, D186, -, st186⟩ := newO X183 hx hZ hown (own_w hw 27 rfl) (own_w hw 28 rfl) (own_w hw 29 rfl) e183 (g := (mkF m 67 #[iv p1, iv p2, iv p3, iv p4, iv p5, iv 2, iv 1, iv 1, rv b183_o0, .val (.null), rv b183_o0, .unset, .unset] [])) rfl (hb hby at_67) (by decide) (by decide)
        obtain ⟨b186, g186⟩ : ∃ z, z = T183.heap.size := ⟨_, rfl⟩
        rw [← g186] at A186 D186 st186
        have ne_b183_o0_b186 : b183_o0 ≠ b186 := Nat.ne_of_lt (Nat.lt_of_lt_of_le P183_0.lt (Nat.le_of_eq g186.symm))
        have g_b186 : n0 ≤ b186 := Nat.le_trans Z184 (Nat.le_of_eq g186.symm)
        have sz_b186 : h0.size ≤ b186 := Nat.le_trans K185.1 (Nat.le_of_eq g186.symm)
        have Z187 := Nat.le_trans Z184 E186.1
        have K188 : Keep h0 _ [] := K185.ext E186
        have F_limit_b186 : Fld Z h186 b186 "com/example/acquirer/acquirer/PageRequest" "limit" "I" (.int (0 : Int32)) := D186 (Or.inr (own_w hw 40 rfl)) (ty := .int) (by decide)
        have F_startingAfter_b186 : Fld Z h186 b186 "com/example/acquirer/acquirer/PageRequest" "startingAfter" "Ljava/lang/String;" .null := D186 (Or.inr (own_w hw 42 rfl)) (ty := (.object "java/lang/String")) (by decide)
        have F_endingBefore_b186 : Fld Z h186 b186 "com/example/acquirer/acquirer/PageRequest" "endingBefore" "Ljava/lang/String;" .null := D186 (Or.inr (own_w hw 44 rfl)) (ty := (.object "java/lang/String")) (by decide)
        have F_descending_b186 : Fld Z h186 b186 "com/example/acquirer/acquirer/PageRequest" "descending" "Z" (.int (0 : Int32)) := D186 (Or.inr (own_w hw 46 rfl)) (ty := .boolean) (by decide)
        refine own_st st186 ?_
        show own_E p e below _ T186 (mkF m 70 #[iv p1, iv p2, iv p3, iv p4, iv p5, iv 2, iv 1, iv 1, rv b183_o0, .val (.null), rv b183_o0, .unset, .unset] [.ref b186])
        refine own_st (fun t k => XS.dup X186.here hx rfl (hb hby at_70) rfl rfl k) ?_
        show own_E p e below _ T186 (mkF m 71 #[iv p1, iv p2, iv p3, iv p4, iv p5, iv 2, iv 1, iv 1, rv b183_o0, .val (.null), rv b183_o0, .unset, .unset] [.ref b186, .ref b186])
        refine own_st (fun t k => XS.iloadN X186.here hx rfl (hb hby at_71) rfl k) ?_
        show own_E p e below _ T186 (mkF m 72 #[iv p1, iv p2, iv p3, iv p4, iv p5, iv 2, iv 1, iv 1, rv b183_o0, .val (.null), rv b183_o0, .unset, .unset] [.int p2, .ref b186, .ref b186])
        refine own_st (fun t k => XS.aload X186.here hx rfl (hb hby at_72) rfl rfl k) ?_
        show own_E p e below _ T186 (mkF m 74 #[iv p1, iv p2, iv p3, iv p4, iv p5, iv 2, iv 1, iv 1, rv b183_o0, .val (.null), rv b183_o0, .unset, .unset] [.null, .int p2, .ref b186, .ref b186])
        refine own_st (fun t k => XS.aload X186.here hx rfl (hb hby at_74) rfl rfl k) ?_
        show own_E p e below _ T186 (mkF m 76 #[iv p1, iv p2, iv p3, iv p4, iv p5, iv 2, iv 1, iv 1, rv b183_o0, .val (.null), rv b183_o0, .unset, .unset] [.ref b183_o0, .null, .int p2, .ref b186, .ref b186])
        refine own_st (fun t k => XS.iload X186.here hx rfl (hb hby at_76) rfl k) ?_
        show own_E p e below _ T186 (mkF m 78 #[iv p1, iv p2, iv p3, iv p4, iv p5, iv 2, iv 1, iv 1, rv b183_o0, .val (.null), rv b183_o0, .unset, .unset] [.int 1, .ref b183_o0, .null, .int p2, .ref b186, .ref b186])
        obtain ⟨_, _, ⟨T189, L189, k189, n189⟩, -, X189, ⟨Lc189, hQ189, l189, y189, z189⟩, st189⟩ := X186.specialBack hx (y := own_y4) rfl hown (mvT hZ (own_w hw 30 rfl)) (mvT hZ (own_w hw 31 rfl)) (mvT hZ (own_w hw 32 rfl)) (by decide) (backOf (W := 1) (own_init011 l Z a0 hw [] b186 b183_o0 p2 h186 n0 Z187 A186 F_limit_b186 F_startingAfter_b186 F_endingBefore_b186 F_descending_b186 g_b186) hZ (own_w hw 32 rfl) (own_w hw 29 rfl) (by decide) (by decide)) (g := (mkF m 78 #[iv p1, iv p2, iv p3, iv p4, iv p5, iv 2, iv 1, iv 1, rv b183_o0, .val (.null), rv b183_o0, .unset, .unset] [.int 1, .ref b183_o0, .null, .int p2, .ref b186, .ref b186])) rfl (by rw [hml]; rfl) (Steps.refl _) (a := b186) (argsL := [(.int p2), .null, (.ref b183_o0), (.int (1 : Int32))]) (rest := [(.ref b186)]) (lenOf own_pd_4 rfl) rfl (by show 2 * 0 + _ ≤ _; exact Nat.le_of_eq rfl) (hb hby at_78) (fun _ _ => ⟨rfl, e186, (by decide : 4 + 0 ≤ _), (by decide : 10 + 0 ≤ _)⟩)
        dsimp only [Pt.U, Pt.locs, Pt.cells, Pt.slots] at X189 l189 y189 z189 st189 hQ189
        subst l189 y189 z189
        obtain ⟨rfl, Nq189, Kq189, P189_0, P189_1, P189_2⟩ := hQ189
        have N189 := Fr.app N183 Nq189
        have e189 : T189.heap = T189.heap := rfl
        have Z190 := Nat.le_trans Z187 Kq189.1
        have K191 : Keep h0 _ [] := K188.trans Kq189 (allS (P := fun x => x ∈ [] ∨ h0.size ≤ x) (Or.inr sz_b186) all0)
        refine own_tr st189 ?_
        show own_E p e below _ T189 (mkF m 81 #[iv p1, iv p2, iv p3, iv p4, iv p5, iv 2, iv 1, iv 1, rv b183_o0, .val (.null), rv b183_o0, .unset, .unset] [.ref b186])
        refine own_st (fun t k => XS.astore X189.here hx rfl (hb hby at_81) rfl rfl (l' := #[iv p1, iv p2, iv p3, iv p4, iv p5, iv 2, iv 1, iv 1, rv b183_o0, .val (.null), rv b183_o0, rv b186, .unset]) rfl k) ?_
        show own_E p e below _ T189 (mkF m 83 #[iv p1, iv p2, iv p3, iv p4, iv p5, iv 2, iv 1, iv 1, rv b183_o0, .val (.null), rv b183_o0, rv b186, .unset] [])
        refine own_st (fun t k => XS.aload X189.here hx rfl (hb hby at_83) rfl rfl k) ?_
        show own_E p e below _ T189 (mkF m 85 #[iv p1, iv p2, iv p3, iv p4, iv p5, iv 2, iv 1, iv 1, rv b183_o0, .val (.null), rv b183_o0, rv b186, .unset] [.ref b186])
        obtain ⟨cq192, kq192, q192a, q192b, q192c⟩ := isOf hZ e189 P189_0
        obtain ⟨_, _, ⟨T192, L192, k192, n192⟩, -, X192, ⟨Lc192, hQ192, l192, y192, z192⟩, st192⟩ := X189.virtualBack hx (y := own_y5) (z := own_y5) hown (mvT hZ (own_w hw 47 rfl)) (mvT hZ (own_w hw 48 rfl)) (notFace_of_selects (args := #[]) (mvT hZ (own_w hw 50 rfl))) (mvT hZ (own_w hw 50 rfl)) (mvT hZ (own_w hw 49 rfl)) (by decide) (backOf (W := 0) (own_cur01 l Z a0 hw [] b186 b183_o0 T189.heap n0 Z190 P189_1 P189_2) hZ (own_w hw 51 rfl) (own_w hw 29 rfl) (by decide) (by decide)) q192a q192c (g := (mkF m 85 #[iv p1, iv p2, iv p3, iv p4, iv p5, iv 2, iv 1, iv 1, rv b183_o0, .val (.null), rv b183_o0, rv b186, .unset] [.ref b186])) rfl (by rw [hml]; rfl) (Steps.refl _) (argsL := []) (rest := []) (lenOf own_pd_0 rfl) rfl (by show 2 * 0 + _ ≤ _; exact Nat.le_of_eq rfl) (hb hby at_85) (fun _ _ => ⟨rfl, e189, (by decide : 4 + 0 ≤ _), (by decide : 10 + 0 ≤ _)⟩)
        dsimp only [Pt.U, Pt.locs, Pt.cells, Pt.slots] at X192 l192 y192 z192 st192 hQ192
        subst l192 y192 z192
        obtain ⟨hR192, e192, rfl⟩ := hQ192
        have N192 := Fr.app N189 (Fr.nil n0)
        obtain rfl := hR192
        refine own_tr st192 ?_
        show own_E p e below _ T192 (mkF m 88 #[iv p1, iv p2, iv p3, iv p4, iv p5, iv 2, iv 1, iv 1, rv b183_o0, .val (.null), rv b183_o0, rv b186, .unset] [.ref b183_o0])
        refine own_st (fun t k => XS.astore X192.here hx rfl (hb hby at_88) rfl rfl (l' := #[iv p1, iv p2, iv p3, iv p4, iv p5, iv 2, iv 1, iv 1, rv b183_o0, .val (.null), rv b183_o0, rv b186, rv b183_o0]) rfl k) ?_
        show own_E p e below _ T192 (mkF m 90 #[iv p1, iv p2, iv p3, iv p4, iv p5, iv 2, iv 1, iv 1, rv b183_o0, .val (.null), rv b183_o0, rv b186, rv b183_o0] [])
        refine own_st (fun t k => XS.iload X192.here hx rfl (hb hby at_90) rfl k) ?_
        show own_E p e below _ T192 (mkF m 92 #[iv p1, iv p2, iv p3, iv p4, iv p5, iv 2, iv 1, iv 1, rv b183_o0, .val (.null), rv b183_o0, rv b186, rv b183_o0] [.int 2])
        refine own_st (fun t k => XS.ifYes X192.here hx rfl (pc0 := 92) (pc' := 106) rfl (hb hby at_92) rfl (by decide) (by decide) (by decide) k) ?_
        show own_E p e below _ T192 (mkF m 106 #[iv p1, iv p2, iv p3, iv p4, iv p5, iv 2, iv 1, iv 1, rv b183_o0, .val (.null), rv b183_o0, rv b186, rv b183_o0] [])
        refine own_st (fun t k => XS.aload X192.here hx rfl (hb hby at_106) rfl rfl k) ?_
        show own_E p e below _ T192 (mkF m 108 #[iv p1, iv p2, iv p3, iv p4, iv p5, iv 2, iv 1, iv 1, rv b183_o0, .val (.null), rv b183_o0, rv b186, rv b183_o0] [.ref b183_o0])
        refine own_st (fun t k => XS.aload X192.here hx rfl (hb hby at_108) rfl rfl k) ?_
        show own_E p e below _ T192 (mkF m 110 #[iv p1, iv p2, iv p3, iv p4, iv p5, iv 2, iv 1, iv 1, rv b183_o0, .val (.null), rv b183_o0, rv b186, rv b183_o0] [.ref b183_o0, .ref b183_o0])
        refine own_st (fun t k => Jvm.RoadKit.acmp (g := (mkF m 110 #[iv p1, iv p2, iv p3, iv p4, iv p5, iv 2, iv 1, iv 1, rv b183_o0, .val (.null), rv b183_o0, rv b186, rv b183_o0] [.ref b183_o0, .ref b183_o0])) X192 hx rfl rfl rfl (pc0 := 110) (pc' := 113) (same := true) rfl (hb hby at_110) rfl (decide_eq_true rfl) (by decide) (by decide) k) ?_
        show own_E p e below _ T192 (mkF m 113 #[iv p1, iv p2, iv p3, iv p4, iv p5, iv 2, iv 1, iv 1, rv b183_o0, .val (.null), rv b183_o0, rv b186, rv b183_o0] [])
        refine own_st (fun t k => XS.iconst X192.here hx rfl (hb hby at_113) k) ?_
        show own_E p e below _ T192 (mkF m 114 #[iv p1, iv p2, iv p3, iv p4, iv p5, iv 2, iv 1, iv 1, rv b183_o0, .val (.null), rv b183_o0, rv b186, rv b183_o0] [.int 1])
        refine own_st (fun t k => XS.goto X192.here hx rfl (pc0 := 114) (pc' := 118) rfl (hb hby at_114) (by decide) (by decide) k) ?_
        show own_E p e below _ T192 (mkF m 118 #[iv p1, iv p2, iv p3, iv p4, iv p5, iv 2, iv 1, iv 1, rv b183_o0, .val (.null), rv b183_o0, rv b186, rv b183_o0] [.int 1])
        refine own_retSW X192 (own_since s) (by rw [e192]; exact (Nat.zero_le _)) hx Bd.notSynchronized Bd.returns rfl (by decide) (hb hby at_118) (by decide) (by decide) ?_
        exact ⟨rfl, N192⟩
      · rw [hs170]
        show own_E p e below _ s₁ (mkF m 30 #[iv p1, iv p2, iv p3, iv p4, iv p5, iv 2, iv 1, iv 2, .unset, .unset, .unset, .unset, .unset] [])
        refine own_st (fun t k => XS.iload X0.here hx rfl (hb hby at_30) rfl k) ?_
        show own_E p e below _ s₁ (mkF m 32 #[iv p1, iv p2, iv p3, iv p4, iv p5, iv 2, iv 1, iv 2, .unset, .unset, .unset, .unset, .unset] [.int 2])
        refine own_st (fun t k => XS.iloadN X0.here hx rfl (hb hby at_32) rfl k) ?_
        show own_E p e below _ s₁ (mkF m 33 #[iv p1, iv p2, iv p3, iv p4, iv p5, iv 2, iv 1, iv 2, .unset, .unset, .unset, .unset, .unset] [.int p3, .int 2])
        refine own_st (fun t k => XS.iloadN X0.here hx rfl (hb hby at_33) rfl k) ?_
        show own_E p e below _ s₁ (mkF m 34 #[iv p1, iv p2, iv p3, iv p4, iv p5, iv 2, iv 1, iv 2, .unset, .unset, .unset, .unset, .unset] [.int p4, .int p3, .int 2])
        obtain ⟨_, _, ⟨T193, L193, k193, n193⟩, -, X193, ⟨Lc193, hQ193, l193, y193, z193⟩, st193⟩ := Jvm.LawKit.callS X0 hx (y := own_y3) hown (mvT hZ (own_w hw 1 rfl)) (mvT hZ (own_w hw 2 rfl)) (mvT hZ (own_w hw 3 rfl)) (mvT hZ (own_w hw 4 rfl)) (by decide) (backOf (W := 0) (own_drawn2 l Z a0 hw [] zc p3 p4 h0 n0 Z0 SC hzc) hZ (own_w hw 4 rfl) (own_w hw 3 rfl) (by decide) (by decide)) (g := (mkF m 34 #[iv p1, iv p2, iv p3, iv p4, iv p5, iv 2, iv 1, iv 2, .unset, .unset, .unset, .unset, .unset] [.int p4, .int p3, .int 2])) rfl (by rw [hml]; rfl) (argsL := [(.int (2 : Int32)), (.int p3), (.int p4)]) (rest := []) (lenOf own_pd_2 rfl) rfl (by show 2 * 0 + _ ≤ _; exact Nat.le_of_eq rfl) (hb hby at_34) (fun _ _ => ⟨rfl, e0, (by decide : 0 + 3 ≤ _), (by decide : 0 + 8 ≤ _)⟩)
        dsimp only [Pt.U, Pt.locs, Pt.cells, Pt.slots] at X193 l193 y193 z193 st193 hQ193
        subst l193 y193 z193
        obtain ⟨b193_o0, rfl, Nq193, Kq193, sz193_0, P193_0⟩ := hQ193
        have N193 := Fr.app (Fr.nil n0) Nq193
        have g_b193_o0 : n0 ≤ b193_o0 := Nat.le_trans Z0 sz193_0
        have sz_b193_o0 : h0.size ≤ b193_o0 := Nat.le_trans (Keep.refl h0 []).1 sz193_0
        have e193 : T193.heap = T193.heap := rfl
        have Z194 := Nat.le_trans Z0 Kq193.1
        have K195 : Keep h0 _ [] := (Keep.refl h0 []).trans Kq193 all0
        refine own_st st193 ?_
        show own_E p e below _ T193 (mkF m 37 #[iv p1, iv p2, iv p3, iv p4, iv p5, iv 2, iv 1, iv 2, .unset, .unset, .unset, .unset, .unset] [.ref b193_o0])
        refine own_st (fun t k => XS.astore X193.here hx rfl (hb hby at_37) rfl rfl (l' := #[iv p1, iv p2, iv p3, iv p4, iv p5, iv 2, iv 1, iv 2, rv b193_o0, .unset, .unset, .unset, .unset]) rfl k) ?_
        show own_E p e below _ T193 (mkF m 39 #[iv p1, iv p2, iv p3, iv p4, iv p5, iv 2, iv 1, iv 2, rv b193_o0, .unset, .unset, .unset, .unset] [])
        refine own_st (fun t k => XS.iload X193.here hx rfl (hb hby at_39) rfl k) ?_
        show own_E p e below _ T193 (mkF m 41 #[iv p1, iv p2, iv p3, iv p4, iv p5, iv 2, iv 1, iv 2, rv b193_o0, .unset, .unset, .unset, .unset] [.int 2])
        refine own_st (fun t k => XS.iconst X193.here hx rfl (hb hby at_41) k) ?_
        show own_E p e below _ T193 (mkF m 42 #[iv p1, iv p2, iv p3, iv p4, iv p5, iv 2, iv 1, iv 2, rv b193_o0, .unset, .unset, .unset, .unset] [.int 1, .int 2])
        refine own_st (fun t k => XS.icmpYes X193.here hx rfl (pc0 := 42) (pc' := 50) rfl (hb hby at_42) rfl (by decide) (by decide) (by decide) k) ?_
        show own_E p e below _ T193 (mkF m 50 #[iv p1, iv p2, iv p3, iv p4, iv p5, iv 2, iv 1, iv 2, rv b193_o0, .unset, .unset, .unset, .unset] [])
        refine own_st (fun t k => XS.aconstNull X193.here hx rfl (hb hby at_50) k) ?_
        show own_E p e below _ T193 (mkF m 51 #[iv p1, iv p2, iv p3, iv p4, iv p5, iv 2, iv 1, iv 2, rv b193_o0, .unset, .unset, .unset, .unset] [.null])
        refine own_st (fun t k => XS.astore X193.here hx rfl (hb hby at_51) rfl rfl (l' := #[iv p1, iv p2, iv p3, iv p4, iv p5, iv 2, iv 1, iv 2, rv b193_o0, .val (.null), .unset, .unset, .unset]) rfl k) ?_
        show own_E p e below _ T193 (mkF m 53 #[iv p1, iv p2, iv p3, iv p4, iv p5, iv 2, iv 1, iv 2, rv b193_o0, .val (.null), .unset, .unset, .unset] [])
        refine own_st (fun t k => XS.iload X193.here hx rfl (hb hby at_53) rfl k) ?_
        show own_E p e below _ T193 (mkF m 55 #[iv p1, iv p2, iv p3, iv p4, iv p5, iv 2, iv 1, iv 2, rv b193_o0, .val (.null), .unset, .unset, .unset] [.int 2])
        refine own_st (fun t k => XS.iconst X193.here hx rfl (hb hby at_55) k) ?_
        show own_E p e below _ T193 (mkF m 56 #[iv p1, iv p2, iv p3, iv p4, iv p5, iv 2, iv 1, iv 2, rv b193_o0, .val (.null), .unset, .unset, .unset] [.int 2, .int 2])
        refine own_st (fun t k => XS.icmpNo X193.here hx rfl (hb hby at_56) rfl (by decide) k) ?_
        show own_E p e below _ T193 (mkF m 59 #[iv p1, iv p2, iv p3, iv p4, iv p5, iv 2, iv 1, iv 2, rv b193_o0, .val (.null), .unset, .unset, .unset] [])
        refine own_st (fun t k => XS.aload X193.here hx rfl (hb hby at_59) rfl rfl k) ?_
        show own_E p e below _ T193 (mkF m 61 #[iv p1, iv p2, iv p3, iv p4, iv p5, iv 2, iv 1, iv 2, rv b193_o0, .val (.null), .unset, .unset, .unset] [.ref b193_o0])
        refine own_st (fun t k => XS.goto X193.here hx rfl (pc0 := 61) (pc' := 65) rfl (hb hby at_61) (by decide) (by decide) k) ?_
        show own_E p e below _ T193 (mkF m 65 #[iv p1, iv p2, iv p3, iv p4, iv p5, iv 2, iv 1, iv 2, rv b193_o0, .val (.null), .unset, .unset, .unset] [.ref b193_o0])
        refine own_st (fun t k => XS.astore X193.here hx rfl (hb hby at_65) rfl rfl (l' := #[iv p1, iv p2, iv p3, iv p4, iv p5, iv 2, iv 1, iv 2, rv b193_o0, .val (.null), rv b193_o0, .unset, .unset]) rfl k) ?_
        show own_E p e below _ T193 (mkF m 67 #[iv p1, iv p2, iv p3, iv p4, iv p5, iv 2, iv 1, iv 2, rv b193_o0, .val (.null), rv b193_o0, .unset, .unset] [])
        obtain ⟨T196, h196, X196, e196, E196, A196, D196, -, st196⟩ := newO X193 hx hZ hown (own_w hw 27 rfl) (own_w hw 28 rfl) (own_w hw 29 rfl) e193 (g := (mkF m 67 #[iv p1, iv p2, iv p3, iv p4, iv p5, iv 2, iv 1, iv 2, rv b193_o0, .val (.null), rv b193_o0, .unset, .unset] [])) rfl (hb hby at_67) (by decide) (by decide)
        obtain ⟨b196, g196⟩ : ∃ z, z = T193.heap.size := ⟨_, rfl⟩
        rw [← g196] at A196 D196 st196
        have ne_b193_o0_b196 : b193_o0 ≠ b196 := Nat.ne_of_lt (Nat.lt_of_lt_of_le P193_0.lt (Nat.le_of_eq g196.symm))
        have g_b196 : n0 ≤ b196 := Nat.le_trans Z194 (Nat.le_of_eq g196.symm)
        have sz_b196 : h0.size ≤ b196 := Nat.le_trans K195.1 (Nat.le_of_eq g196.symm)
        have Z197 := Nat.le_trans Z194 E196.1
        have K198 : Keep h0 _ [] := K195.ext E196
        have F_limit_b196 : Fld Z h196 b196 "com/example/acquirer/acquirer/PageRequest" "limit" "I" (.int (0 : Int32)) := D196 (Or.inr (own_w hw 40 rfl)) (ty := .int) (by decide)
        have F_startingAfter_b196 : Fld Z h196 b196 "com/example/acquirer/acquirer/PageRequest" "startingAfter" "Ljava/lang/String;" .null := D196 (Or.inr (own_w hw 42 rfl)) (ty := (.object "java/lang/String")) (by decide)
        have F_endingBefore_b196 : Fld Z h196 b196 "com/example/acquirer/acquirer/PageRequest" "endingBefore" "Ljava/lang/String;" .null := D196 (Or.inr (own_w hw 44 rfl)) (ty := (.object "java/lang/String")) (by decide)
        have F_descending_b196 : Fld Z h196 b196 "com/example/acquirer/acquirer/PageRequest" "descending" "Z" (.int (0 : Int32)) := D196 (Or.inr (own_w hw 46 rfl)) (ty := .boolean) (by decide)
        refine own_st st196 ?_
        show own_E p e below _ T196 (mkF m 70 #[iv p1, iv p2, iv p3, iv p4, iv p5, iv 2, iv 1, iv 2, rv b193_o0, .val (.null), rv b193_o0, .unset, .unset] [.ref b196])
        refine own_st (fun t k => XS.dup X196.here hx rfl (hb hby at_70) rfl rfl k) ?_
        show own_E p e below _ T196 (mkF m 71 #[iv p1, iv p2, iv p3, iv p4, iv p5, iv 2, iv 1, iv 2, rv b193_o0, .val (.null), rv b193_o0, .unset, .unset] [.ref b196, .ref b196])
        refine own_st (fun t k => XS.iloadN X196.here hx rfl (hb hby at_71) rfl k) ?_
        show own_E p e below _ T196 (mkF m 72 #[iv p1, iv p2, iv p3, iv p4, iv p5, iv 2, iv 1, iv 2, rv b193_o0, .val (.null), rv b193_o0, .unset, .unset] [.int p2, .ref b196, .ref b196])
        refine own_st (fun t k => XS.aload X196.here hx rfl (hb hby at_72) rfl rfl k) ?_
        show own_E p e below _ T196 (mkF m 74 #[iv p1, iv p2, iv p3, iv p4, iv p5, iv 2, iv 1, iv 2, rv b193_o0, .val (.null), rv b193_o0, .unset, .unset] [.null, .int p2, .ref b196, .ref b196])
        refine own_st (fun t k => XS.aload X196.here hx rfl (hb hby at_74) rfl rfl k) ?_
        show own_E p e below _ T196 (mkF m 76 #[iv p1, iv p2, iv p3, iv p4, iv p5, iv 2, iv 1, iv 2, rv b193_o0, .val (.null), rv b193_o0, .unset, .unset] [.ref b193_o0, .null, .int p2, .ref b196, .ref b196])
        refine own_st (fun t k => XS.iload X196.here hx rfl (hb hby at_76) rfl k) ?_
        show own_E p e below _ T196 (mkF m 78 #[iv p1, iv p2, iv p3, iv p4, iv p5, iv 2, iv 1, iv 2, rv b193_o0, .val (.null), rv b193_o0, .unset, .unset] [.int 1, .ref b193_o0, .null, .int p2, .ref b196, .ref b196])
        obtain ⟨_, _, ⟨T199, L199, k199, n199⟩, -, X199, ⟨Lc199, hQ199, l199, y199, z199⟩, st199⟩ := X196.specialBack hx (y := own_y4) rfl hown (mvT hZ (own_w hw 30 rfl)) (mvT hZ (own_w hw 31 rfl)) (mvT hZ (own_w hw 32 rfl)) (by decide) (backOf (W := 1) (own_init011 l Z a0 hw [] b196 b193_o0 p2 h196 n0 Z197 A196 F_limit_b196 F_startingAfter_b196 F_endingBefore_b196 F_descending_b196 g_b196) hZ (own_w hw 32 rfl) (own_w hw 29 rfl) (by decide) (by decide)) (g := (mkF m 78 #[iv p1, iv p2, iv p3, iv p4, iv p5, iv 2, iv 1, iv 2, rv b193_o0, .val (.null), rv b193_o0, .unset, .unset] [.int 1, .ref b193_o0, .null, .int p2, .ref b196, .ref b196])) rfl (by rw [hml]; rfl) (Steps.refl _) (a := b196) (argsL := [(.int p2), .null, (.ref b193_o0), (.int (1 : Int32))]) (rest := [(.ref b196)]) (lenOf own_pd_4 rfl) rfl (by show 2 * 0 + _ ≤ _; exact Nat.le_of_eq rfl) (hb hby at_78) (fun _ _ => ⟨rfl, e196, (by decide : 4 + 0 ≤ _), (by decide : 12 + 0 ≤ _)⟩)
        dsimp only [Pt.U, Pt.locs, Pt.cells, Pt.slots] at X199 l199 y199 z199 st199 hQ199
        subst l199 y199 z199
        obtain ⟨rfl, Nq199, Kq199, P199_0, P199_1, P199_2⟩ := hQ199
        have N199 := Fr.app N193 Nq199
        have e199 : T199.heap = T199.heap := rfl
        have Z200 := Nat.le_trans Z197 Kq199.1
        have K201 : Keep h0 _ [] := K198.trans Kq199 (allS (P := fun x => x ∈ [] ∨ h0.size ≤ x) (Or.inr sz_b196) all0)
        refine own_tr st199 ?_
        show own_E p e below _ T199 (mkF m 81 #[iv p1, iv p2, iv p3, iv p4, iv p5, iv 2, iv 1, iv 2, rv b193_o0, .val (.null), rv b193_o0, .unset, .unset] [.ref b196])
        refine own_st (fun t k => XS.astore X199.here hx rfl (hb hby at_81) rfl rfl (l' := #[iv p1, iv p2, iv p3, iv p4, iv p5, iv 2, iv 1, iv 2, rv b193_o0, .val (.null), rv b193_o0, rv b196, .unset]) rfl k) ?_
        show own_E p e below _ T199 (mkF m 83 #[iv p1, iv p2, iv p3, iv p4, iv p5, iv 2, iv 1, iv 2, rv b193_o0, .val (.null), rv b193_o0, rv b196, .unset] [])
        refine own_st (fun t k => XS.aload X199.here hx rfl (hb hby at_83) rfl rfl k) ?_
        show own_E p e below _ T199 (mkF m 85 #[iv p1, iv p2, iv p3, iv p4, iv p5, iv 2, iv 1, iv 2, rv b193_o0, .val (.null), rv b193_o0, rv b196, .unset] [.ref b196])
        obtain ⟨cq202, kq202, q202a, q202b, q202c⟩ := isOf hZ e199 P199_0
        obtain ⟨_, _, ⟨T202, L202, k202, n202⟩, -, X202, ⟨Lc202, hQ202, l202, y202, z202⟩, st202⟩ := X199.virtualBack hx (y := own_y5) (z := own_y5) hown (mvT hZ (own_w hw 47 rfl)) (mvT hZ (own_w hw 48 rfl)) (notFace_of_selects (args := #[]) (mvT hZ (own_w hw 50 rfl))) (mvT hZ (own_w hw 50 rfl)) (mvT hZ (own_w hw 49 rfl)) (by decide) (backOf (W := 0) (own_cur01 l Z a0 hw [] b196 b193_o0 T199.heap n0 Z200 P199_1 P199_2) hZ (own_w hw 51 rfl) (own_w hw 29 rfl) (by decide) (by decide)) q202a q202c (g := (mkF m 85 #[iv p1, iv p2, iv p3, iv p4, iv p5, iv 2, iv 1, iv 2, rv b193_o0, .val (.null), rv b193_o0, rv b196, .unset] [.ref b196])) rfl (by rw [hml]; rfl) (Steps.refl _) (argsL := []) (rest := []) (lenOf own_pd_0 rfl) rfl (by show 2 * 0 + _ ≤ _; exact Nat.le_of_eq rfl) (hb hby at_85) (fun _ _ => ⟨rfl, e199, (by decide : 4 + 0 ≤ _), (by decide : 12 + 0 ≤ _)⟩)
        dsimp only [Pt.U, Pt.locs, Pt.cells, Pt.slots] at X202 l202 y202 z202 st202 hQ202
        subst l202 y202 z202
        obtain ⟨hR202, e202, rfl⟩ := hQ202
        have N202 := Fr.app N199 (Fr.nil n0)
        obtain rfl := hR202
        refine own_tr st202 ?_
        show own_E p e below _ T202 (mkF m 88 #[iv p1, iv p2, iv p3, iv p4, iv p5, iv 2, iv 1, iv 2, rv b193_o0, .val (.null), rv b193_o0, rv b196, .unset] [.ref b193_o0])
        refine own_st (fun t k => XS.astore X202.here hx rfl (hb hby at_88) rfl rfl (l' := #[iv p1, iv p2, iv p3, iv p4, iv p5, iv 2, iv 1, iv 2, rv b193_o0, .val (.null), rv b193_o0, rv b196, rv b193_o0]) rfl k) ?_
        show own_E p e below _ T202 (mkF m 90 #[iv p1, iv p2, iv p3, iv p4, iv p5, iv 2, iv 1, iv 2, rv b193_o0, .val (.null), rv b193_o0, rv b196, rv b193_o0] [])
        refine own_st (fun t k => XS.iload X202.here hx rfl (hb hby at_90) rfl k) ?_
        show own_E p e below _ T202 (mkF m 92 #[iv p1, iv p2, iv p3, iv p4, iv p5, iv 2, iv 1, iv 2, rv b193_o0, .val (.null), rv b193_o0, rv b196, rv b193_o0] [.int 2])
        refine own_st (fun t k => XS.ifYes X202.here hx rfl (pc0 := 92) (pc' := 106) rfl (hb hby at_92) rfl (by decide) (by decide) (by decide) k) ?_
        show own_E p e below _ T202 (mkF m 106 #[iv p1, iv p2, iv p3, iv p4, iv p5, iv 2, iv 1, iv 2, rv b193_o0, .val (.null), rv b193_o0, rv b196, rv b193_o0] [])
        refine own_st (fun t k => XS.aload X202.here hx rfl (hb hby at_106) rfl rfl k) ?_
        show own_E p e below _ T202 (mkF m 108 #[iv p1, iv p2, iv p3, iv p4, iv p5, iv 2, iv 1, iv 2, rv b193_o0, .val (.null), rv b193_o0, rv b196, rv b193_o0] [.ref b193_o0])
        refine own_st (fun t k => XS.aload X202.here hx rfl (hb hby at_108) rfl rfl k) ?_
        show own_E p e below _ T202 (mkF m 110 #[iv p1, iv p2, iv p3, iv p4, iv p5, iv 2, iv 1, iv 2, rv b193_o0, .val (.null), rv b193_o0, rv b196, rv b193_o0] [.ref b193_o0, .ref b193_o0])
        refine own_st (fun t k => Jvm.RoadKit.acmp (g := (mkF m 110 #[iv p1, iv p2, iv p3, iv p4, iv p5, iv 2, iv 1, iv 2, rv b193_o0, .val (.null), rv b193_o0, rv b196, rv b193_o0] [.ref b193_o0, .ref b193_o0])) X202 hx rfl rfl rfl (pc0 := 110) (pc' := 113) (same := true) rfl (hb hby at_110) rfl (decide_eq_true rfl) (by decide) (by decide) k) ?_
        show own_E p e below _ T202 (mkF m 113 #[iv p1, iv p2, iv p3, iv p4, iv p5, iv 2, iv 1, iv 2, rv b193_o0, .val (.null), rv b193_o0, rv b196, rv b193_o0] [])
        refine own_st (fun t k => XS.iconst X202.here hx rfl (hb hby at_113) k) ?_
        show own_E p e below _ T202 (mkF m 114 #[iv p1, iv p2, iv p3, iv p4, iv p5, iv 2, iv 1, iv 2, rv b193_o0, .val (.null), rv b193_o0, rv b196, rv b193_o0] [.int 1])
        refine own_st (fun t k => XS.goto X202.here hx rfl (pc0 := 114) (pc' := 118) rfl (hb hby at_114) (by decide) (by decide) k) ?_
        show own_E p e below _ T202 (mkF m 118 #[iv p1, iv p2, iv p3, iv p4, iv p5, iv 2, iv 1, iv 2, rv b193_o0, .val (.null), rv b193_o0, rv b196, rv b193_o0] [.int 1])
        refine own_retSW X202 (own_since s) (by rw [e202]; exact (Nat.zero_le _)) hx Bd.notSynchronized Bd.returns rfl (by decide) (hb hby at_118) (by decide) (by decide) ?_
        exact ⟨rfl, N202⟩
set_option maxRecDepth 65536 in
set_option maxHeartbeats 40000000 in
theorem comes_1 {Post : Tables → Env → Array Value → State → Outcome → State → Prop} (hpost : ∀ tb e args s v u, (limb_1_1.after args s (.returned v) u = true ∧ limb_1_2.after args s (.returned v) u = true ∧ True) → Jvm.ReturnedEndW s (.returned v) u (Jvm.fieldLocs frame_1_writes args s ++ Jvm.arrayLocs frame_1_arrays args s ++ Jvm.staticLocs frame_1_statics s) 24 1152 → Post tb e args s (.returned v) u) :
    ArmFor flags0 classFile x code maxLocals ret World_1 tables_1 room_1 Calls_1 rest_1 Pre_1 Post := by
  intro l hfl _ _ p e ha hc hk s m args below hf hA hF happ hP
  obtain ⟨hcalls, hrest, hpre⟩ := hP
  obtain ⟨-, -, -, hnamed, -, -, -, hat⟩ := (Spec.applies_iff hf).mp happ
  obtain ⟨hg, hn⟩ := and_e (Cond.before_iff.mp (show (Jvm.Cond.and given_1 narrow_1).before args s = true from hpre))
  obtain ⟨hg0, hg1⟩ := and_e hg
  obtain ⟨hv0, hg2⟩ := and_e hg1
  obtain ⟨hv1, hg3⟩ := and_e hg2
  obtain ⟨hv2, hg4⟩ := and_e hg3
  obtain ⟨hv3, hg5⟩ := and_e hg4
  have hv4 := hg5
  obtain ⟨w0, w1, w2, w3, w4, rfl⟩ : ∃ w0 w1 w2 w3 w4 : Value, args = #[w0, w1, w2, w3, w4] := by
    have hs : args.size = 5 := by simpa [Cond.value, given_1] using hg0
    obtain ⟨L⟩ := args
    match L, hs with
    | [w0, w1, w2, w3, w4], _ => exact ⟨w0, w1, w2, w3, w4, rfl⟩
  have hw := fun d (hd : d ∈ tables_1) => atoms_spec (ws := Jvm.Cond.code x code maxLocals ret :: tables_1) hat d (List.mem_cons_of_mem _ hd)
  have hfit : Fit s := fun {y c} hc i hi => by
    obtain ⟨ha, rfl⟩ := Array.getElem?_eq_some_iff.mp hc
    have q := List.all_eq_true.mp ((Array.all_eq_true_iff_forall_mem.mp hF) _ (Array.getElem_mem ha)) i (List.mem_range.mpr hi)
    simpa [Array.getElem?_eq_getElem hi] using q
  obtain ⟨i0, ev0⟩ := is_v hv0
  obtain rfl : w0 = (.int i0) := Option.some.inj ev0
  obtain ⟨i1, ev1⟩ := is_v hv1
  obtain rfl : w1 = (.int i1) := Option.some.inj ev1
  obtain ⟨i2, ev2⟩ := is_v hv2
  obtain rfl : w2 = (.int i2) := Option.some.inj ev2
  obtain ⟨i3, ev3⟩ := is_v hv3
  obtain rfl : w3 = (.int i3) := Option.some.inj ev3
  obtain ⟨i4, ev4⟩ := is_v hv4
  obtain rfl : w4 = (.int i4) := Option.some.inj ev4
  have hsets := (atoms_of jdkStatics_1 (own := restOwn_1) (by rw [← rest_1_c_eq]; exact hrest)).1
  obtain ⟨zc, evc⟩ := is_v (Cond.before_iff.mp (hsets _ (List.mem_of_getElem? (i := 1) rfl)))
  have SC := Sta.start evc (Or.inl (hsets _ (List.mem_of_getElem? (i := 0) rfl)))
  have hzc : ¬ zc = 0 := fun h => by
    subst h
    have q := not_v (Cond.before_iff.mp (hsets _ (List.mem_of_getElem? (i := 2) rfl)))
    rw [eq_i evc (Term.int_eval 0) rfl] at q
    cases q
  have hheld : Jvm.Lit.constHeld s "java/lang/String" 7 := hcalls.1 ("java/lang/String", 7) (by simp [consts_1])
  have hO : Ext s.heap s.heap := ⟨Nat.le_refl _, fun _ _ q => q⟩
  have hcw := hsets _ (List.mem_of_getElem? (i := 2) rfl)
  obtain ⟨n, o, h1, h2, h3, _, L, rfl, ⟨rfl, N⟩, hq⟩ := own_law l s _ hw tables_1 zc i0 i1 i2 i3 i4 s.heap s.heap.size (Nat.le_refl _) hO hheld hcw SC hzc p e ha hc hk s m _ below hf ((Spec.applies_iff_loose hf).mp happ).1 ⟨rfl, State.Warmed39.refl s, IB.start, rfl⟩ trivial
  refine ⟨n, _, h1, h2, h3, hpost _ _ _ _ _ _ ⟨Cond.after_iff.mpr rfl, Cond.after_iff.mpr (eq_i res_at (Term.int_eval (1)) rfl), trivial⟩ ⟨hq.1, hq.2.1, hq.2.2.1, (hq.2.2.2.sift fun y hy => Or.inr (N y hy)).mono (by decide) (by decide)⟩⟩
theorem main_1_1 : Claimed_1_1 := comes_1 fun _ _ _ _ _ _ h hF => ⟨h.1, hF⟩
theorem main_1_2 : Claimed_1_2 := comes_1 fun _ _ _ _ _ _ h hF => ⟨h.2.1, hF⟩
end Jvm.Pilot.@@N@@
namespace Jvm.Pilot.@@N@@
open Jvm Jvm.ClassFile Sem Op Lib Jvm.Free Jvm.Stand Jvm.Pilot.@@N@@.Jvm.D
/-! MADE BY PROGRAM (witnessworld.py) out of the Statement's table words and the real class files: 21 classes; the members and pool entries that the words name. The judged class is class 1, her method 1. -/
namespace start1
open Jvm.ClassFile
def u (s : String) : CpInfo := .utf8 (stringToUtf16 s)
/-- a pool by its gaps: so many unusable entries, then the entry; so many at the end -/
def gap : Nat → List CpInfo → List CpInfo
  | 0, r => r
  | n + 1, r => .unusable :: gap n r
def poolList (es : List (Nat × CpInfo)) (last : Nat) : List CpInfo := es.foldr (fun e r => gap e.1 (e.2 :: r)) (gap last [])
def pool (es : List (Nat × CpInfo)) (last : Nat) : Array CpInfo := ⟨poolList es last⟩
def fileOf (pool : Array CpInfo) (this : Nat) (attrs : Array Attribute := #[]) (ms : Array MethodInfo := #[]) (fl : Nat := 33) (sup : Nat := 0) (ifs : Array Nat := #[]) (fds : Array FieldInfo := #[]) : ClassFile where
  minorVersion := 0
  majorVersion := 65
  constantPool := pool
  accessFlags := fl
  thisClass := this
  superClass := sup
  interfaces := ifs
  fields := fds
  methods := ms
  attributes := attrs
def plain (name : String) (sup : Option ClassId) : Class where
  name := name
  kind := .ordinary
  loader := none
  accessFlags := 33
  super := sup
  interfaces := #[]
  cf := none
  fields := #[]
  methods := #[]
  instanceTypes := #[]
  staticTypes := #[]
  resolved := #[]
  callSites := []
  init := .initialized
  statics := none
  mirror := none

def pool0 : Array CpInfo := pool [(5, u "<init>"), (0, u "()V"), (1, .class_ 10), (1, u "java/lang/Object")] 113

def k0c0 : Code := { maxStack := 0, maxLocals := 1, code := object_method_1_code, exceptionTable := #[], attributes := #[] }
def k0m0 : Method := { name := "<init>", desc := "()V", sig := { parameters := [], returnType := none }, accessFlags := 1, code := some k0c0 }
/-- java/lang/Object -/
def k0 : Class := { plain "java/lang/Object" none with
  accessFlags := 33
  interfaces := #[]
  cf := some (fileOf pool0 8 #[] #[{ accessFlags := 1, nameIndex := 5, descriptorIndex := 6, attributes := #[] }] 33 0 #[] #[])
  fields := #[]
  methods := #[k0m0]
  instanceTypes := #[]
  staticTypes := #[]
  resolved := Array.replicate 124 none
  statics := none }

def pool1 : Array CpInfo := pool [(2, .class_ 4), (1, u "java/lang/Object"), (0, u "<init>"), (0, u "()V"), (0, .integer 2147483647), (0, .methodref 9 10), (0, .class_ 11), (0, .nameAndType 12 13), (0, u "com/example/acquirer/acquirer/PageRequestCursorPinLaw"), (0, u "drawn"), (0, u "(III)Ljava/lang/String;"), (0, .class_ 15), (0, u "com/example/acquirer/acquirer/PageRequest"), (0, .methodref 14 17), (0, .nameAndType 5 18), (0, u "(ILjava/lang/String;Ljava/lang/String;Z)V"), (0, .methodref 14 20), (0, .nameAndType 21 22), (0, u "cursor"), (0, u "()Ljava/lang/String;"), (0, .class_ 24), (0, u "java/lang/String"), (0, .methodref 23 26), (0, .nameAndType 5 27), (0, u "([C)V"), (2, u "law"), (0, u "(IIIII)Z")] 5

def k1m0 : Method := { name := "<init>", desc := "()V", sig := { parameters := [], returnType := none }, accessFlags := 1, code := none }
def k1c1 : Code := { maxStack := 6, maxLocals := 13, code := code, exceptionTable := #[], attributes := #[] }
def k1m1 : Method := { name := "law", desc := "(IIIII)Z", sig := { parameters := [.int, .int, .int, .int, .int], returnType := some .boolean }, accessFlags := 9, code := some k1c1 }
def k1c2 : Code := { maxStack := 5, maxLocals := 4, code := method_3_code, exceptionTable := #[], attributes := #[] }
def k1m2 : Method := { name := "drawn", desc := "(III)Ljava/lang/String;", sig := { parameters := [.int, .int, .int], returnType := some (.object "java/lang/String") }, accessFlags := 10, code := some k1c2 }
/-- com/example/acquirer/acquirer/PageRequestCursorPinLaw -/
def k1 : Class := { plain "com/example/acquirer/acquirer/PageRequestCursorPinLaw" (some 0) with
  accessFlags := 49
  interfaces := #[]
  cf := some (fileOf pool1 9 #[] #[{ accessFlags := 1, nameIndex := 5, descriptorIndex := 6, attributes := #[] }, { accessFlags := 9, nameIndex := 30, descriptorIndex := 31, attributes := #[] }, { accessFlags := 10, nameIndex := 12, descriptorIndex := 13, attributes := #[] }] 49 2 #[] #[])
  fields := #[]
  methods := #[k1m0, k1m1, k1m2]
  instanceTypes := #[]
  staticTypes := #[]
  resolved := Array.replicate 37 none
  statics := none }

def pool2 : Array CpInfo := pool [(1, .class_ 2), (0, u "java/io/Serializable"), (0, .class_ 4), (0, u "java/lang/Object")] 2

/-- java/io/Serializable -/
def k2 : Class := { plain "java/io/Serializable" (some 0) with
  accessFlags := 1537
  interfaces := #[]
  cf := some (fileOf pool2 1 #[] #[] 1537 3 #[] #[])
  fields := #[]
  methods := #[]
  instanceTypes := #[]
  staticTypes := #[]
  resolved := Array.replicate 7 none
  statics := none }

def pool3 : Array CpInfo := pool [(1, .class_ 2), (0, u "java/lang/Comparable"), (0, .class_ 4), (0, u "java/lang/Object")] 7

/-- java/lang/Comparable -/
def k3 : Class := { plain "java/lang/Comparable" (some 0) with
  accessFlags := 1537
  interfaces := #[]
  cf := some (fileOf pool3 1 #[] #[] 1537 3 #[] #[])
  fields := #[]
  methods := #[]
  instanceTypes := #[]
  staticTypes := #[]
  resolved := Array.replicate 12 none
  statics := none }

def pool4 : Array CpInfo := pool [(2, .class_ 4), (1, u "java/lang/CharSequence"), (42, .class_ 48), (0, u "java/lang/CharSequence$1CodePointIterator"), (10, .class_ 60), (0, u "java/lang/CharSequence$1CharIterator"), (5, .class_ 67), (0, u "java/lang/Object")] 63

/-- java/lang/CharSequence -/
def k4 : Class := { plain "java/lang/CharSequence" (some 0) with
  accessFlags := 1537
  interfaces := #[]
  cf := some (fileOf pool4 2 #[.nestMembers #[47, 59]] #[] 1537 66 #[] #[])
  fields := #[]
  methods := #[]
  instanceTypes := #[]
  staticTypes := #[]
  resolved := Array.replicate 131 none
  statics := none }

def pool5 : Array CpInfo := pool [(1, .class_ 2), (0, u "java/lang/constant/Constable"), (0, .class_ 4), (0, u "java/lang/Object")] 6

/-- java/lang/constant/Constable -/
def k5 : Class := { plain "java/lang/constant/Constable" (some 0) with
  accessFlags := 1537
  interfaces := #[]
  cf := some (fileOf pool5 1 #[] #[] 1537 3 #[] #[])
  fields := #[]
  methods := #[]
  instanceTypes := #[]
  staticTypes := #[]
  resolved := Array.replicate 11 none
  statics := none }

def pool6 : Array CpInfo := pool [(1, .class_ 2), (0, u "java/lang/constant/ConstantDesc"), (0, .class_ 4), (0, u "java/lang/Object")] 32

/-- java/lang/constant/ConstantDesc -/
def k6 : Class := { plain "java/lang/constant/ConstantDesc" (some 0) with
  accessFlags := 1537
  interfaces := #[]
  cf := some (fileOf pool6 1 #[] #[] 1537 3 #[] #[])
  fields := #[]
  methods := #[]
  instanceTypes := #[]
  staticTypes := #[]
  resolved := Array.replicate 37 none
  statics := none }

def pool7 : Array CpInfo := pool [(1, .methodref 2 3), (0, .class_ 4), (0, .nameAndType 5 6), (0, u "java/lang/Object"), (0, u "<init>"), (0, u "()V"), (0, .string 8), (0, u ""), (0, .fieldref 10 11), (0, .class_ 12), (0, .nameAndType 13 14), (0, u "java/lang/String"), (0, u "value"), (0, u "[B"), (0, .fieldref 10 16), (0, .nameAndType 17 18), (0, u "coder"), (0, u "B"), (2, u "hash"), (0, u "I"), (2, u "hashIsZero"), (0, u "Z"), (0, .methodref 10 28), (0, .nameAndType 5 29), (0, u "([CIILjava/lang/Void;)V"), (8, .fieldref 10 39), (0, .nameAndType 40 26), (0, u "COMPACT_STRINGS"), (1, .class_ 44), (1, u "java/lang/StringUTF16"), (0, u "compress"), (1, .methodref 42 48), (0, .nameAndType 49 50), (0, u "coderFromArrayLen"), (0, u "([BI)B"), (126, .methodref 42 178), (0, .nameAndType 45 179), (0, u "([CII)[B"), (395, .class_ 576), (0, u "java/lang/CharSequence"), (22, u "CASE_INSENSITIVE_ORDER"), (0, u "Ljava/util/Comparator;"), (409, u "([C)V"), (90, u "serialPersistentFields"), (0, u "[Ljava/io/ObjectStreamField;"), (0, .class_ 1104), (0, u "java/lang/String$CaseInsensitiveComparator"), (1, .class_ 1107), (0, u "java/io/Serializable"), (0, .class_ 1109), (0, u "java/lang/Comparable"), (0, .class_ 1111), (0, u "java/lang/constant/Constable"), (0, .class_ 1113), (0, u "java/lang/constant/ConstantDesc"), (2, u "serialVersionUID"), (0, u "J"), (3, u "REPL"), (0, u "C"), (2, u "LATIN1"), (1, u "UTF16")] 323

def k7m0 : Method := { name := "<init>", desc := "()V", sig := { parameters := [], returnType := none }, accessFlags := 1, code := none }
def k7c1 : Code := { maxStack := 5, maxLocals := 2, code := jdk_42_method_3_code, exceptionTable := #[], attributes := #[] }
def k7m1 : Method := { name := "<init>", desc := "([C)V", sig := { parameters := [(.array .char)], returnType := none }, accessFlags := 1, code := some k7c1 }
def k7c2 : Code := { maxStack := 4, maxLocals := 6, code := jdk_42_method_149_code, exceptionTable := #[], attributes := #[] }
def k7m2 : Method := { name := "<init>", desc := "([CIILjava/lang/Void;)V", sig := { parameters := [(.array .char), .int, .int, (.object "java/lang/Void")], returnType := none }, accessFlags := 2, code := some k7c2 }
/-- java/lang/String -/
def k7 : Class := { plain "java/lang/String" (some 0) with
  accessFlags := 49
  interfaces := #[2, 3, 4, 5, 6]
  cf := some (fileOf pool7 10 #[.nestMembers #[1103]] #[{ accessFlags := 1, nameIndex := 5, descriptorIndex := 6, attributes := #[] }, { accessFlags := 1, nameIndex := 5, descriptorIndex := 1010, attributes := #[] }, { accessFlags := 2, nameIndex := 5, descriptorIndex := 29, attributes := #[] }] 49 2 #[1106, 1108, 575, 1110, 1112] #[{ accessFlags := 18, nameIndex := 13, descriptorIndex := 14, attributes := #[] }, { accessFlags := 18, nameIndex := 17, descriptorIndex := 18, attributes := #[] }, { accessFlags := 2, nameIndex := 21, descriptorIndex := 22, attributes := #[] }, { accessFlags := 2, nameIndex := 25, descriptorIndex := 26, attributes := #[] }, { accessFlags := 26, nameIndex := 1116, descriptorIndex := 1117, attributes := #[] }, { accessFlags := 24, nameIndex := 40, descriptorIndex := 26, attributes := #[] }, { accessFlags := 26, nameIndex := 1101, descriptorIndex := 1102, attributes := #[] }, { accessFlags := 26, nameIndex := 1121, descriptorIndex := 1122, attributes := #[] }, { accessFlags := 25, nameIndex := 599, descriptorIndex := 600, attributes := #[] }, { accessFlags := 24, nameIndex := 1125, descriptorIndex := 18, attributes := #[] }, { accessFlags := 24, nameIndex := 1127, descriptorIndex := 18, attributes := #[] }])
  fields := #[{ name := "value", type := (.array .byte), accessFlags := 18, slot := 0, constantValue := 0 }, { name := "coder", type := .byte, accessFlags := 18, slot := 1, constantValue := 0 }, { name := "hash", type := .int, accessFlags := 2, slot := 2, constantValue := 0 }, { name := "hashIsZero", type := .boolean, accessFlags := 2, slot := 3, constantValue := 0 }, { name := "serialVersionUID", type := .long, accessFlags := 26, slot := 0, constantValue := 0 }, { name := "COMPACT_STRINGS", type := .boolean, accessFlags := 24, slot := 1, constantValue := 0 }, { name := "serialPersistentFields", type := (.array (.object "java/io/ObjectStreamField")), accessFlags := 26, slot := 2, constantValue := 0 }, { name := "REPL", type := .char, accessFlags := 26, slot := 3, constantValue := 0 }, { name := "CASE_INSENSITIVE_ORDER", type := (.object "java/util/Comparator"), accessFlags := 25, slot := 4, constantValue := 0 }, { name := "LATIN1", type := .byte, accessFlags := 24, slot := 5, constantValue := 0 }, { name := "UTF16", type := .byte, accessFlags := 24, slot := 6, constantValue := 0 }]
  methods := #[k7m0, k7m1, k7m2]
  instanceTypes := #[(.array .byte), .byte, .int, .boolean]
  staticTypes := #[.long, .boolean, (.array (.object "java/io/ObjectStreamField")), .char, (.object "java/util/Comparator"), .byte, .byte]
  resolved := Array.replicate 1451 none
  statics := some 0 }

def pool8 : Array CpInfo := pool [(1, .methodref 2 3), (0, .class_ 4), (0, .nameAndType 5 6), (0, u "java/lang/Object"), (0, u "<init>"), (0, u "()V"), (0, .class_ 8), (0, u "java/lang/Record")] 13

def k8c0 : Code := { maxStack := 1, maxLocals := 1, code := jdk_30_method_1_code, exceptionTable := #[], attributes := #[] }
def k8m0 : Method := { name := "<init>", desc := "()V", sig := { parameters := [], returnType := none }, accessFlags := 4, code := some k8c0 }
/-- java/lang/Record -/
def k8 : Class := { plain "java/lang/Record" (some 0) with
  accessFlags := 1057
  interfaces := #[]
  cf := some (fileOf pool8 7 #[] #[{ accessFlags := 4, nameIndex := 5, descriptorIndex := 6, attributes := #[] }] 1057 2 #[] #[])
  fields := #[]
  methods := #[k8m0]
  instanceTypes := #[]
  staticTypes := #[]
  resolved := Array.replicate 22 none
  statics := none }

def pool9 : Array CpInfo := pool [(1, .methodref 2 3), (0, .class_ 4), (0, .nameAndType 5 6), (0, u "java/lang/Record"), (0, u "<init>"), (0, u "()V"), (0, .fieldref 8 9), (0, .class_ 10), (0, .nameAndType 11 12), (0, u "com/example/acquirer/acquirer/PageRequest"), (0, u "limit"), (0, u "I"), (0, .fieldref 8 14), (0, .nameAndType 15 16), (0, u "startingAfter"), (0, u "Ljava/lang/String;"), (0, .fieldref 8 18), (0, .nameAndType 19 16), (0, u "endingBefore"), (0, .fieldref 8 21), (0, .nameAndType 22 23), (0, u "descending"), (0, u "Z"), (41, u "STARTING_AFTER"), (1, u "ENDING_BEFORE"), (0, u "(ILjava/lang/String;Ljava/lang/String;Z)V"), (3, u "cursor"), (0, u "()Ljava/lang/String;")] 38

def k9c0 : Code := { maxStack := 2, maxLocals := 5, code := prog_19_method_1_code, exceptionTable := #[], attributes := #[] }
def k9m0 : Method := { name := "<init>", desc := "(ILjava/lang/String;Ljava/lang/String;Z)V", sig := { parameters := [.int, (.object "java/lang/String"), (.object "java/lang/String"), .boolean], returnType := none }, accessFlags := 1, code := some k9c0 }
def k9c1 : Code := { maxStack := 1, maxLocals := 1, code := prog_19_method_2_code, exceptionTable := #[], attributes := #[] }
def k9m1 : Method := { name := "cursor", desc := "()Ljava/lang/String;", sig := { parameters := [], returnType := some (.object "java/lang/String") }, accessFlags := 1, code := some k9c1 }
/-- com/example/acquirer/acquirer/PageRequest -/
def k9 : Class := { plain "com/example/acquirer/acquirer/PageRequest" (some 8) with
  accessFlags := 49
  interfaces := #[]
  cf := some (fileOf pool9 8 #[] #[{ accessFlags := 1, nameIndex := 5, descriptorIndex := 68, attributes := #[] }, { accessFlags := 1, nameIndex := 72, descriptorIndex := 73, attributes := #[] }] 49 2 #[] #[{ accessFlags := 18, nameIndex := 11, descriptorIndex := 12, attributes := #[] }, { accessFlags := 18, nameIndex := 15, descriptorIndex := 16, attributes := #[] }, { accessFlags := 18, nameIndex := 19, descriptorIndex := 16, attributes := #[] }, { accessFlags := 18, nameIndex := 22, descriptorIndex := 23, attributes := #[] }, { accessFlags := 25, nameIndex := 65, descriptorIndex := 16, attributes := #[] }, { accessFlags := 25, nameIndex := 67, descriptorIndex := 16, attributes := #[] }])
  fields := #[{ name := "limit", type := .int, accessFlags := 18, slot := 0, constantValue := 0 }, { name := "startingAfter", type := (.object "java/lang/String"), accessFlags := 18, slot := 1, constantValue := 0 }, { name := "endingBefore", type := (.object "java/lang/String"), accessFlags := 18, slot := 2, constantValue := 0 }, { name := "descending", type := .boolean, accessFlags := 18, slot := 3, constantValue := 0 }, { name := "STARTING_AFTER", type := (.object "java/lang/String"), accessFlags := 25, slot := 0, constantValue := 0 }, { name := "ENDING_BEFORE", type := (.object "java/lang/String"), accessFlags := 25, slot := 1, constantValue := 0 }]
  methods := #[k9m0, k9m1]
  instanceTypes := #[.int, (.object "java/lang/String"), (.object "java/lang/String"), .boolean]
  staticTypes := #[(.object "java/lang/String"), (.object "java/lang/String")]
  resolved := Array.replicate 112 none
  statics := none }

def pool10 : Array CpInfo := pool [(6, .class_ 8), (1, u "java/lang/Object"), (0, u "<init>"), (0, u "()V"), (1, .class_ 14), (1, u "java/lang/StringUTF16"), (31, u "$assertionsDisabled"), (0, u "Z"), (13, u "HI_BYTE_SHIFT"), (0, u "I"), (2, u "LO_BYTE_SHIFT"), (49, .methodref 12 116), (0, .nameAndType 117 118), (0, u "compress"), (0, u "([CI[BII)I"), (3, u "([CII)[B"), (138, u "coderFromArrayLen"), (0, u "([BI)B"), (106, .class_ 371), (1, u "java/lang/StringUTF16$LinesSpliterator"), (58, u "MAX_LENGTH"), (196, .class_ 628), (0, u "java/lang/StringUTF16$CodePointsSpliterator"), (0, .class_ 630), (0, u "java/lang/StringUTF16$CharsSpliterator")] 4

def k10m0 : Method := { name := "<init>", desc := "()V", sig := { parameters := [], returnType := none }, accessFlags := 0, code := none }
def k10c1 : Code := { maxStack := 2, maxLocals := 2, code := jdk_52_method_15_code, exceptionTable := #[], attributes := #[] }
def k10m1 : Method := { name := "coderFromArrayLen", desc := "([BI)B", sig := { parameters := [(.array .byte), .int], returnType := some .byte }, accessFlags := 8, code := some k10c1 }
def k10c2 : Code := { maxStack := 5, maxLocals := 6, code := jdk_52_method_16_code, exceptionTable := #[], attributes := #[] }
def k10m2 : Method := { name := "compress", desc := "([CII)[B", sig := { parameters := [(.array .char), .int, .int], returnType := some (.array .byte) }, accessFlags := 9, code := some k10c2 }
def k10c3 : Code := { maxStack := 3, maxLocals := 7, code := jdk_52_method_21_code, exceptionTable := #[], attributes := #[] }
def k10m3 : Method := { name := "compress", desc := "([CI[BII)I", sig := { parameters := [(.array .char), .int, (.array .byte), .int, .int], returnType := some .int }, accessFlags := 9, code := some k10c3 }
/-- java/lang/StringUTF16 -/
def k10 : Class := { plain "java/lang/StringUTF16" (some 0) with
  accessFlags := 48
  interfaces := #[]
  cf := some (fileOf pool10 12 #[.nestMembers #[627, 629, 369]] #[{ accessFlags := 0, nameIndex := 9, descriptorIndex := 10, attributes := #[] }, { accessFlags := 8, nameIndex := 261, descriptorIndex := 262, attributes := #[] }, { accessFlags := 9, nameIndex := 117, descriptorIndex := 122, attributes := #[] }, { accessFlags := 9, nameIndex := 117, descriptorIndex := 118, attributes := #[] }] 48 6 #[] #[{ accessFlags := 26, nameIndex := 61, descriptorIndex := 62, attributes := #[] }, { accessFlags := 26, nameIndex := 65, descriptorIndex := 62, attributes := #[] }, { accessFlags := 24, nameIndex := 430, descriptorIndex := 62, attributes := #[] }, { accessFlags := 4120, nameIndex := 46, descriptorIndex := 47, attributes := #[] }])
  fields := #[{ name := "HI_BYTE_SHIFT", type := .int, accessFlags := 26, slot := 0, constantValue := 0 }, { name := "LO_BYTE_SHIFT", type := .int, accessFlags := 26, slot := 1, constantValue := 0 }, { name := "MAX_LENGTH", type := .int, accessFlags := 24, slot := 2, constantValue := 0 }, { name := "$assertionsDisabled", type := .boolean, accessFlags := 4120, slot := 3, constantValue := 0 }]
  methods := #[k10m0, k10m1, k10m2, k10m3]
  instanceTypes := #[]
  staticTypes := #[.int, .int, .int, .boolean]
  resolved := Array.replicate 635 none
  statics := none }

def pool11 : Array CpInfo := pool [(4, .class_ 6), (1, u "java/lang/Object"), (0, u "<init>"), (0, u "()V"), (5, .class_ 16), (1, u "java/lang/StringLatin1"), (104, u "$assertionsDisabled"), (0, u "Z"), (98, .class_ 223), (1, u "java/lang/StringLatin1$LinesSpliterator"), (166, .class_ 391), (0, u "java/lang/StringLatin1$CharsSpliterator")] 3

def k11m0 : Method := { name := "<init>", desc := "()V", sig := { parameters := [], returnType := none }, accessFlags := 0, code := none }
/-- java/lang/StringLatin1 -/
def k11 : Class := { plain "java/lang/StringLatin1" (some 0) with
  accessFlags := 48
  interfaces := #[]
  cf := some (fileOf pool11 14 #[.nestMembers #[390, 221]] #[{ accessFlags := 0, nameIndex := 7, descriptorIndex := 8, attributes := #[] }] 48 4 #[] #[{ accessFlags := 4120, nameIndex := 121, descriptorIndex := 122, attributes := #[] }])
  fields := #[{ name := "$assertionsDisabled", type := .boolean, accessFlags := 4120, slot := 0, constantValue := 0 }]
  methods := #[k11m0]
  instanceTypes := #[]
  staticTypes := #[.boolean]
  resolved := Array.replicate 395 none
  statics := none }

def pool12 : Array CpInfo := pool [(2, .class_ 4), (1, u "java/lang/Object"), (0, u "<init>"), (0, u "()V"), (17, .class_ 26), (1, u "jdk/internal/util/Preconditions"), (28, .class_ 56), (0, u "jdk/internal/util/Preconditions$4"), (57, .class_ 115), (0, u "jdk/internal/util/Preconditions$1"), (7, u "SIOOBE_FORMATTER"), (0, u "Ljava/util/function/BiFunction;"), (0, .class_ 126), (0, u "jdk/internal/util/Preconditions$2"), (3, u "AIOOBE_FORMATTER"), (0, .class_ 132), (0, u "jdk/internal/util/Preconditions$3"), (3, u "IOOBE_FORMATTER")] 57

def k12m0 : Method := { name := "<init>", desc := "()V", sig := { parameters := [], returnType := none }, accessFlags := 1, code := none }
/-- jdk/internal/util/Preconditions -/
def k12 : Class := { plain "jdk/internal/util/Preconditions" (some 0) with
  accessFlags := 33
  interfaces := #[]
  cf := some (fileOf pool12 24 #[.nestMembers #[55, 131, 125, 114]] #[{ accessFlags := 1, nameIndex := 5, descriptorIndex := 6, attributes := #[] }] 33 2 #[] #[{ accessFlags := 25, nameIndex := 123, descriptorIndex := 124, attributes := #[] }, { accessFlags := 25, nameIndex := 130, descriptorIndex := 124, attributes := #[] }, { accessFlags := 25, nameIndex := 136, descriptorIndex := 124, attributes := #[] }])
  fields := #[{ name := "SIOOBE_FORMATTER", type := (.object "java/util/function/BiFunction"), accessFlags := 25, slot := 0, constantValue := 0 }, { name := "AIOOBE_FORMATTER", type := (.object "java/util/function/BiFunction"), accessFlags := 25, slot := 1, constantValue := 0 }, { name := "IOOBE_FORMATTER", type := (.object "java/util/function/BiFunction"), accessFlags := 25, slot := 2, constantValue := 0 }]
  methods := #[k12m0]
  instanceTypes := #[]
  staticTypes := #[(.object "java/util/function/BiFunction"), (.object "java/util/function/BiFunction"), (.object "java/util/function/BiFunction")]
  resolved := Array.replicate 194 none
  statics := some 1 }

def pool13 : Array CpInfo := pool [(9, u "<init>"), (6, .class_ 18), (1, u "java/lang/Object"), (0, u "()V"), (1, .class_ 23), (1, u "jdk/internal/util/ArraysSupport"), (0, u "LOG2_ARRAY_LONG_INDEX_SCALE"), (0, u "I"), (2, u "U"), (0, u "Ljdk/internal/misc/Unsafe;"), (8, u "BIG_ENDIAN"), (0, u "Z"), (8, u "LOG2_BYTE_BIT_SIZE"), (4, u "LOG2_ARRAY_INT_INDEX_SCALE"), (54, u "JLA"), (0, u "Ljdk/internal/access/JavaLangAccess;"), (11, u "LOG2_ARRAY_BOOLEAN_INDEX_SCALE"), (9, u "LOG2_ARRAY_BYTE_INDEX_SCALE"), (5, u "LOG2_ARRAY_CHAR_INDEX_SCALE"), (5, u "LOG2_ARRAY_SHORT_INDEX_SCALE"), (18, u "LOG2_ARRAY_FLOAT_INDEX_SCALE"), (24, u "LOG2_ARRAY_DOUBLE_INDEX_SCALE"), (89, u "T_BOOLEAN"), (2, u "T_CHAR"), (1, u "T_FLOAT"), (1, u "T_DOUBLE"), (1, u "T_BYTE"), (1, u "T_SHORT"), (1, u "T_INT"), (1, u "T_LONG"), (1, u "SOFT_MAX_ARRAY_LENGTH")] 83

def k13m0 : Method := { name := "<init>", desc := "()V", sig := { parameters := [], returnType := none }, accessFlags := 2, code := none }
/-- jdk/internal/util/ArraysSupport -/
def k13 : Class := { plain "jdk/internal/util/ArraysSupport" (some 0) with
  accessFlags := 33
  interfaces := #[]
  cf := some (fileOf pool13 21 #[] #[{ accessFlags := 2, nameIndex := 9, descriptorIndex := 19, attributes := #[] }] 33 16 #[] #[{ accessFlags := 24, nameIndex := 28, descriptorIndex := 29, attributes := #[] }, { accessFlags := 26, nameIndex := 38, descriptorIndex := 39, attributes := #[] }, { accessFlags := 25, nameIndex := 121, descriptorIndex := 25, attributes := #[] }, { accessFlags := 25, nameIndex := 131, descriptorIndex := 25, attributes := #[] }, { accessFlags := 25, nameIndex := 137, descriptorIndex := 25, attributes := #[] }, { accessFlags := 25, nameIndex := 143, descriptorIndex := 25, attributes := #[] }, { accessFlags := 25, nameIndex := 53, descriptorIndex := 25, attributes := #[] }, { accessFlags := 25, nameIndex := 24, descriptorIndex := 25, attributes := #[] }, { accessFlags := 25, nameIndex := 162, descriptorIndex := 25, attributes := #[] }, { accessFlags := 25, nameIndex := 187, descriptorIndex := 25, attributes := #[] }, { accessFlags := 26, nameIndex := 48, descriptorIndex := 25, attributes := #[] }, { accessFlags := 25, nameIndex := 277, descriptorIndex := 25, attributes := #[] }, { accessFlags := 25, nameIndex := 280, descriptorIndex := 25, attributes := #[] }, { accessFlags := 25, nameIndex := 282, descriptorIndex := 25, attributes := #[] }, { accessFlags := 25, nameIndex := 284, descriptorIndex := 25, attributes := #[] }, { accessFlags := 25, nameIndex := 286, descriptorIndex := 25, attributes := #[] }, { accessFlags := 25, nameIndex := 288, descriptorIndex := 25, attributes := #[] }, { accessFlags := 25, nameIndex := 290, descriptorIndex := 25, attributes := #[] }, { accessFlags := 25, nameIndex := 292, descriptorIndex := 25, attributes := #[] }, { accessFlags := 26, nameIndex := 108, descriptorIndex := 109, attributes := #[] }, { accessFlags := 25, nameIndex := 294, descriptorIndex := 25, attributes := #[] }])
  fields := #[{ name := "U", type := (.object "jdk/internal/misc/Unsafe"), accessFlags := 24, slot := 0, constantValue := 0 }, { name := "BIG_ENDIAN", type := .boolean, accessFlags := 26, slot := 1, constantValue := 0 }, { name := "LOG2_ARRAY_BOOLEAN_INDEX_SCALE", type := .int, accessFlags := 25, slot := 2, constantValue := 0 }, { name := "LOG2_ARRAY_BYTE_INDEX_SCALE", type := .int, accessFlags := 25, slot := 3, constantValue := 0 }, { name := "LOG2_ARRAY_CHAR_INDEX_SCALE", type := .int, accessFlags := 25, slot := 4, constantValue := 0 }, { name := "LOG2_ARRAY_SHORT_INDEX_SCALE", type := .int, accessFlags := 25, slot := 5, constantValue := 0 }, { name := "LOG2_ARRAY_INT_INDEX_SCALE", type := .int, accessFlags := 25, slot := 6, constantValue := 0 }, { name := "LOG2_ARRAY_LONG_INDEX_SCALE", type := .int, accessFlags := 25, slot := 7, constantValue := 0 }, { name := "LOG2_ARRAY_FLOAT_INDEX_SCALE", type := .int, accessFlags := 25, slot := 8, constantValue := 0 }, { name := "LOG2_ARRAY_DOUBLE_INDEX_SCALE", type := .int, accessFlags := 25, slot := 9, constantValue := 0 }, { name := "LOG2_BYTE_BIT_SIZE", type := .int, accessFlags := 26, slot := 10, constantValue := 0 }, { name := "T_BOOLEAN", type := .int, accessFlags := 25, slot := 11, constantValue := 0 }, { name := "T_CHAR", type := .int, accessFlags := 25, slot := 12, constantValue := 0 }, { name := "T_FLOAT", type := .int, accessFlags := 25, slot := 13, constantValue := 0 }, { name := "T_DOUBLE", type := .int, accessFlags := 25, slot := 14, constantValue := 0 }, { name := "T_BYTE", type := .int, accessFlags := 25, slot := 15, constantValue := 0 }, { name := "T_SHORT", type := .int, accessFlags := 25, slot := 16, constantValue := 0 }, { name := "T_INT", type := .int, accessFlags := 25, slot := 17, constantValue := 0 }, { name := "T_LONG", type := .int, accessFlags := 25, slot := 18, constantValue := 0 }, { name := "JLA", type := (.object "jdk/internal/access/JavaLangAccess"), accessFlags := 26, slot := 19, constantValue := 0 }, { name := "SOFT_MAX_ARRAY_LENGTH", type := .int, accessFlags := 25, slot := 20, constantValue := 0 }]
  methods := #[k13m0]
  instanceTypes := #[]
  staticTypes := #[(.object "jdk/internal/misc/Unsafe"), .boolean, .int, .int, .int, .int, .int, .int, .int, .int, .int, .int, .int, .int, .int, .int, .int, .int, .int, (.object "jdk/internal/access/JavaLangAccess"), .int]
  resolved := Array.replicate 378 none
  statics := none }

def pool14 : Array CpInfo := pool [(1, u "java/lang/Cloneable"), (0, .class_ 1), (0, u "java/lang/Object"), (0, .class_ 3)] 3

/-- java/lang/Cloneable -/
def k14 : Class := { plain "java/lang/Cloneable" (some 0) with
  accessFlags := 1537
  interfaces := #[]
  cf := some (fileOf pool14 2 #[] #[] 1537 4 #[] #[])
  fields := #[]
  methods := #[]
  instanceTypes := #[]
  staticTypes := #[]
  resolved := Array.replicate 8 none
  statics := none }

/-- the primitive byte -/
def k15 : Class := { plain "byte" none with kind := .primitive 'B', accessFlags := 0x411 }
/-- [B -/
def k16 : Class := { plain "[B" (some 0) with kind := .array 15 .byte, interfaces := #[14, 2], accessFlags := 1041 }

/-- the primitive char -/
def k17 : Class := { plain "char" none with kind := .primitive 'C', accessFlags := 0x411 }
/-- [C -/
def k18 : Class := { plain "[C" (some 0) with kind := .array 17 .char, interfaces := #[14, 2], accessFlags := 1041 }

/-- the primitive int -/
def k19 : Class := { plain "int" none with kind := .primitive 'I', accessFlags := 0x411 }
/-- [I -/
def k20 : Class := { plain "[I" (some 0) with kind := .array 19 .int, interfaces := #[14, 2], accessFlags := 1041 }

def heap : Heap := #[{ cls := 7, slots := #[.long 0, .int 1, .null, .int 0, .null, .int 0, .int 0], vm := .statics 7 },
  { cls := 12, slots := #[.null, .null, .null], vm := .statics 12 }]
def classes : Array Class := #[k0, k1, k2, k3, k4, k5, k6, k7, k8, k9, k10, k11, k12, k13, k14, k15, k16, k17, k18, k19, k20]
def interned : List (Array UInt16 × Addr) := []
def slotsUsed : Nat := 10
def theMethod : MethodId := ⟨1, 1⟩
def args0 : Array Value := #[.int 1, .int 2, .int 3, .int 4, .int 5]
def aboutOver (below : List Frame) : State where
  vm := { classes := classes, interned := interned.toArray }
  heap := heap
  slotsUsed := slotsUsed
  threads := #[{ frames := .invoking theMethod args0 :: below }]
def below0 : List Frame := [.native { method := ⟨0, 0⟩, args := #[] }]
def about1 : State := aboutOver below0
def p0 : Program := .bare "" "" ""
def e0 : Env := launch0.env 0 0 0
theorem w_frames : about1.frames = Frame.invoking theMethod args0 :: below0 := rfl
set_option maxRecDepth 65536 in
theorem w_args : argsFit about1.vm theMethod args0 = true := by decide +kernel
set_option maxRecDepth 65536 in
theorem w_heap : heapFits about1 = true := by decide +kernel
set_option maxRecDepth 65536 in
theorem w_runnable : about1.curStatus? = some .runnable := by decide +kernel
set_option maxRecDepth 65536 in
theorem w_alone : about1.alone = true := by decide +kernel
set_option maxRecDepth 65536 in
theorem w_named : about1.methodNamed? x = some theMethod := by decide +kernel
set_option maxRecDepth 65536 in
theorem w_hears : about1.hears theMethod below0 = true := by decide +kernel
set_option maxRecDepth 65536 in
theorem w_ripe : about1.ripe theMethod args0 below0 = true := by decide +kernel
theorem w_running : about1.status = .running := rfl
set_option maxRecDepth 65536 in
theorem w_room : about1.hasRoom e0.platform room_1 = true :=
  launch0.hasRoom_least _ room_1 (by decide +kernel) (by decide +kernel) (by decide +kernel) (by decide +kernel) (by decide +kernel) (by decide +kernel)
theorem allAtoms_all (ts : List Jvm.Cond) (a : Array Jvm.Value) (st : Jvm.State) : (allAtoms ts).before a st = ts.all (fun c => c.before a st) := by
  induction ts with
  | nil => rfl
  | cons c t ih =>
    show (Jvm.Cond.and c (allAtoms t)).before a st = _
    rw [Jvm.Cond.before_and, ih, List.all_cons]
def words1 : List Jvm.Cond := Jvm.Cond.code x code maxLocals ret :: tables_1
/-- a 'code' word, met by the world's own term for the bytes: nothing is compared byte by byte -/
theorem code_word {y : MethodName} {bytes : ByteArray} {mx : Nat} {rt : Option FieldType} {a : Array Value} {s : State} {m : MethodId} {meth : Method} {c : Code} (h1 : s.methodNamed? y = some m) (h2 : s.vm.method? m = some meth) (h3 : meth.code = some c) (h4 : c.code = bytes)
    (h5 : (c.maxLocals == mx && c.exceptionTable.isEmpty && decide (c.maxStack ≤ mostOperands) && decide (meth.sig.returnType = rt) && !meth.locks && decide (parseMethodDescriptor y.desc = some meth.sig)) = true) : (Jvm.Cond.code y bytes mx rt).before a s = true := by
  simp only [Bool.and_eq_true, beq_iff_eq, Bool.not_eq_true', decide_eq_true_eq] at h5
  obtain ⟨⟨⟨⟨⟨g1, g2⟩, g3⟩, g4⟩, g5⟩, g6⟩ := h5
  simp [Cond.before, Cond.holds, Cond.value, h1, h2, h3, h4, g1, g2, g3, g4, g5, g6]
def isCode : Jvm.Cond → Bool
  | .code _ _ _ _ => true
  | _ => false
theorem all_split {L : List Jvm.Cond} {P : Jvm.Cond → Bool} (h1 : L.all (fun c => isCode c || P c) = true) (h2 : ∀ c ∈ L.filter isCode, P c = true) : L.all P = true := by
  refine List.all_eq_true.mpr fun c hc => ?_
  have h := List.all_eq_true.mp h1 c hc
  rcases Bool.eq_false_or_eq_true (isCode c) with hi | hi
  · exact h2 c (List.mem_filter.mpr ⟨hc, hi⟩)
  · simpa [hi] using h
set_option maxRecDepth 65536 in
theorem w_c0 : (Jvm.Cond.code x code maxLocals ret).before args0 about1 = true := code_word (m := ⟨1, 1⟩) (meth := k1m1) (c := k1c1) (by decide +kernel) rfl rfl rfl (by decide +kernel)
set_option maxRecDepth 65536 in
theorem w_c1 : (Jvm.Cond.code ({ cls := "com/example/acquirer/acquirer/PageRequestCursorPinLaw", name := "drawn", desc := "(III)Ljava/lang/String;" } : Jvm.MethodName) method_3_code (4 : Nat) (Option.some (Jvm.ClassFile.FieldType.object "java/lang/String"))).before args0 about1 = true := code_word (m := ⟨1, 2⟩) (meth := k1m2) (c := k1c2) (by decide +kernel) rfl rfl rfl (by decide +kernel)
set_option maxRecDepth 65536 in
theorem w_c2 : (Jvm.Cond.code ({ cls := "java/lang/String", name := "<init>", desc := "([C)V" } : Jvm.MethodName) jdk_42_method_3_code (2 : Nat) (Option.none : Option Jvm.ClassFile.FieldType)).before args0 about1 = true := code_word (m := ⟨7, 1⟩) (meth := k7m1) (c := k7c1) (by decide +kernel) rfl rfl rfl (by decide +kernel)
set_option maxRecDepth 65536 in
theorem w_c3 : (Jvm.Cond.code ({ cls := "java/lang/String", name := "<init>", desc := "([CIILjava/lang/Void;)V" } : Jvm.MethodName) jdk_42_method_149_code (6 : Nat) (Option.none : Option Jvm.ClassFile.FieldType)).before args0 about1 = true := code_word (m := ⟨7, 2⟩) (meth := k7m2) (c := k7c2) (by decide +kernel) rfl rfl rfl (by decide +kernel)
set_option maxRecDepth 65536 in
theorem w_c4 : (Jvm.Cond.code ({ cls := "java/lang/Object", name := "<init>", desc := "()V" } : Jvm.MethodName) object_method_1_code (1 : Nat) (Option.none : Option Jvm.ClassFile.FieldType)).before args0 about1 = true := code_word (m := ⟨0, 0⟩) (meth := k0m0) (c := k0c0) (by decide +kernel) rfl rfl rfl (by decide +kernel)
set_option maxRecDepth 65536 in
theorem w_c5 : (Jvm.Cond.code ({ cls := "com/example/acquirer/acquirer/PageRequest", name := "<init>", desc := "(ILjava/lang/String;Ljava/lang/String;Z)V" } : Jvm.MethodName) prog_19_method_1_code (5 : Nat) (Option.none : Option Jvm.ClassFile.FieldType)).before args0 about1 = true := code_word (m := ⟨9, 0⟩) (meth := k9m0) (c := k9c0) (by decide +kernel) rfl rfl rfl (by decide +kernel)
set_option maxRecDepth 65536 in
theorem w_c6 : (Jvm.Cond.code ({ cls := "java/lang/Record", name := "<init>", desc := "()V" } : Jvm.MethodName) jdk_30_method_1_code (1 : Nat) (Option.none : Option Jvm.ClassFile.FieldType)).before args0 about1 = true := code_word (m := ⟨8, 0⟩) (meth := k8m0) (c := k8c0) (by decide +kernel) rfl rfl rfl (by decide +kernel)
set_option maxRecDepth 65536 in
theorem w_c7 : (Jvm.Cond.code ({ cls := "com/example/acquirer/acquirer/PageRequest", name := "cursor", desc := "()Ljava/lang/String;" } : Jvm.MethodName) prog_19_method_2_code (1 : Nat) (Option.some (Jvm.ClassFile.FieldType.object "java/lang/String"))).before args0 about1 = true := code_word (m := ⟨9, 1⟩) (meth := k9m1) (c := k9c1) (by decide +kernel) rfl rfl rfl (by decide +kernel)
set_option maxRecDepth 65536 in
theorem w_c8 : (Jvm.Cond.code ({ cls := "java/lang/StringUTF16", name := "compress", desc := "([CII)[B" } : Jvm.MethodName) jdk_52_method_16_code (6 : Nat) (Option.some (Jvm.ClassFile.FieldType.array Jvm.ClassFile.FieldType.byte))).before args0 about1 = true := code_word (m := ⟨10, 2⟩) (meth := k10m2) (c := k10c2) (by decide +kernel) rfl rfl rfl (by decide +kernel)
set_option maxRecDepth 65536 in
theorem w_c9 : (Jvm.Cond.code ({ cls := "java/lang/StringUTF16", name := "compress", desc := "([CI[BII)I" } : Jvm.MethodName) jdk_52_method_21_code (7 : Nat) (Option.some Jvm.ClassFile.FieldType.int)).before args0 about1 = true := code_word (m := ⟨10, 3⟩) (meth := k10m3) (c := k10c3) (by decide +kernel) rfl rfl rfl (by decide +kernel)
set_option maxRecDepth 65536 in
theorem w_c10 : (Jvm.Cond.code ({ cls := "java/lang/StringUTF16", name := "coderFromArrayLen", desc := "([BI)B" } : Jvm.MethodName) jdk_52_method_15_code (2 : Nat) (Option.some Jvm.ClassFile.FieldType.byte)).before args0 about1 = true := code_word (m := ⟨10, 1⟩) (meth := k10m1) (c := k10c1) (by decide +kernel) rfl rfl rfl (by decide +kernel)
def codes1 : List Jvm.Cond := [Jvm.Cond.code x code maxLocals ret, Jvm.Cond.code ({ cls := "com/example/acquirer/acquirer/PageRequestCursorPinLaw", name := "drawn", desc := "(III)Ljava/lang/String;" } : Jvm.MethodName) method_3_code (4 : Nat) (Option.some (Jvm.ClassFile.FieldType.object "java/lang/String")), Jvm.Cond.code ({ cls := "java/lang/String", name := "<init>", desc := "([C)V" } : Jvm.MethodName) jdk_42_method_3_code (2 : Nat) (Option.none : Option Jvm.ClassFile.FieldType), Jvm.Cond.code ({ cls := "java/lang/String", name := "<init>", desc := "([CIILjava/lang/Void;)V" } : Jvm.MethodName) jdk_42_method_149_code (6 : Nat) (Option.none : Option Jvm.ClassFile.FieldType), Jvm.Cond.code ({ cls := "java/lang/Object", name := "<init>", desc := "()V" } : Jvm.MethodName) object_method_1_code (1 : Nat) (Option.none : Option Jvm.ClassFile.FieldType), Jvm.Cond.code ({ cls := "com/example/acquirer/acquirer/PageRequest", name := "<init>", desc := "(ILjava/lang/String;Ljava/lang/String;Z)V" } : Jvm.MethodName) prog_19_method_1_code (5 : Nat) (Option.none : Option Jvm.ClassFile.FieldType), Jvm.Cond.code ({ cls := "java/lang/Record", name := "<init>", desc := "()V" } : Jvm.MethodName) jdk_30_method_1_code (1 : Nat) (Option.none : Option Jvm.ClassFile.FieldType), Jvm.Cond.code ({ cls := "com/example/acquirer/acquirer/PageRequest", name := "cursor", desc := "()Ljava/lang/String;" } : Jvm.MethodName) prog_19_method_2_code (1 : Nat) (Option.some (Jvm.ClassFile.FieldType.object "java/lang/String")), Jvm.Cond.code ({ cls := "java/lang/StringUTF16", name := "compress", desc := "([CII)[B" } : Jvm.MethodName) jdk_52_method_16_code (6 : Nat) (Option.some (Jvm.ClassFile.FieldType.array Jvm.ClassFile.FieldType.byte)), Jvm.Cond.code ({ cls := "java/lang/StringUTF16", name := "compress", desc := "([CI[BII)I" } : Jvm.MethodName) jdk_52_method_21_code (7 : Nat) (Option.some Jvm.ClassFile.FieldType.int), Jvm.Cond.code ({ cls := "java/lang/StringUTF16", name := "coderFromArrayLen", desc := "([BI)B" } : Jvm.MethodName) jdk_52_method_15_code (2 : Nat) (Option.some Jvm.ClassFile.FieldType.byte)]
set_option maxRecDepth 65536 in
theorem codes_eq : words1.filter isCode = codes1 := rfl
theorem w_codes : ∀ c ∈ words1.filter isCode, c.before args0 about1 = true := by
  rw [codes_eq]
  intro c hc
  simp only [codes1, List.mem_cons, List.not_mem_nil, or_false] at hc
  rcases hc with rfl | rfl | rfl | rfl | rfl | rfl | rfl | rfl | rfl | rfl | rfl
  · exact w_c0
  · exact w_c1
  · exact w_c2
  · exact w_c3
  · exact w_c4
  · exact w_c5
  · exact w_c6
  · exact w_c7
  · exact w_c8
  · exact w_c9
  · exact w_c10
set_option maxRecDepth 65536 in
theorem w_t1 : (words1.take 24).all (fun c => isCode c || c.before args0 about1) = true := by decide +kernel
set_option maxRecDepth 65536 in
theorem w_t2 : ((words1.drop 24).take 24).all (fun c => isCode c || c.before args0 about1) = true := by decide +kernel
set_option maxRecDepth 65536 in
theorem w_t3 : ((words1.drop 24).drop 24).all (fun c => isCode c || c.before args0 about1) = true := by decide +kernel
theorem w_tables : (allAtoms (Jvm.Cond.code x code maxLocals ret :: tables_1)).before args0 about1 = true := by
  rw [allAtoms_all]
  show words1.all (fun c => c.before args0 about1) = true
  refine all_split ?_ w_codes
  rw [← List.take_append_drop 24 words1, List.all_append, w_t1, ← List.take_append_drop 24 (words1.drop 24), List.all_append, w_t2, w_t3]
  rfl
set_option maxRecDepth 65536 in
theorem w_rest : rest_1_c.before args0 about1 = true := by decide +kernel
set_option maxRecDepth 65536 in
theorem w_case : (Jvm.Cond.and given_1 narrow_1).before args0 about1 = true := by decide +kernel
set_option maxRecDepth 65536 in
theorem w_consts : constsHeld consts_1 about1 := Jvm.Lit.constsHeldB_iff.mp (by decide +kernel)
theorem w_applies : (headSpec (Jvm.Cond.code x code maxLocals ret :: tables_1) room_1).applies x e0.platform about1 = true :=
  (Spec.applies_iff w_frames).mpr ⟨w_running, w_runnable, w_alone, w_named, w_hears, w_ripe, w_room, w_tables⟩
theorem atStart : AtStart classFile x code maxLocals ret World_1 tables_1 room_1 Calls_1 rest_1 Pre_1 launch0 p0 e0 about1 theMethod args0 below0 :=
  ⟨lists_1, trivial, launch0.admits_env _ _ _, launch0.least_env, fairChoices_fair.cas, fairChoices_fair.clock, w_frames, w_args, w_heap, w_applies, ⟨w_consts, trivial⟩, w_rest, w_case⟩
end start1
theorem witness_1 : WitnessClaimed_1 := ⟨start1.p0, start1.e0, start1.about1, start1.theMethod, start1.args0, start1.below0, start1.atStart⟩
end Jvm.Pilot.@@N@@
