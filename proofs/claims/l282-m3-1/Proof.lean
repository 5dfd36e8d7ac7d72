import JvmDerived
import JvmDerived.Pilot.@@N@@Statement
import JvmDerived.Pilot.@@N@@Code
set_option linter.unusedVariables false
set_option linter.unusedSimpArgs false
/- laws to paste: Road.backV (cut by pick.py; bodies as the Statement names them) -/
namespace Jvm.Pilot.@@N@@
namespace StrChars
open Jvm Sem ClassFile Op Lib Jvm.Stand Jvm.Free.XT Jvm.Free.ALB Jvm.Free.JM Jvm.Free
open Jvm.Lib.Cold (StaticIs)
/-- a char array whose places are chars -/
def Ch (a : Addr) (A : Cell) (U : State) : Prop := Arr .char a A U ∧ Typed .char A
theorem Ch.mv {a : Addr} {A : Cell} {U U' : State} (h : Ch a A U) (hal : U.vm.Alike U'.vm) (hh : U'.heap = U.heap) : Ch a A U' := ⟨h.1.mv hal hh, h.2⟩
theorem Ch.keep {a : Addr} {A : Cell} {U U' : State} (h : Ch a A U) (hal : U.vm.Alike U'.vm) (hk : U'.heap[a]? = some A) : Ch a A U' := ⟨h.1.keep hal hk, h.2⟩
/-- what place i of a char[]'s cell holds -/
def cv (A : Cell) (i : Nat) : Int32 := match A.slots[i]? with | some (.int x) => x | _ => 0
theorem Ch.get {a : Addr} {A : Cell} {U : State} (h : Ch a A U) {i : Nat} (hi : i < A.slots.size) : A.slots[i]? = some (.int (cv A i)) := by
  have e := Array.getElem?_eq_getElem hi
  have f := h.2 i _ e
  unfold cv; rw [e]
  generalize A.slots[i] = v at f
  cases v <;> simp [fits] at f ⊢
/-- the byte that i2b leaves of a char -/
def lo8 (x : Int32) : Int32 := x.toInt8.toInt32
theorem fits_lo8 (y : Int32) : fits .byte (.int (lo8 y)) = true := by
  have h1 := y.toInt8.le_toInt
  have h2 := y.toInt8.toInt_lt
  simp only [lo8, fits, Bool.and_eq_true, decide_eq_true_eq, Int32.le_iff_toInt_le, Int8.toInt_toInt32, show (-128 : Int32).toInt = -128 from by decide, show (127 : Int32).toInt = 127 from by decide]
  omega
/-- A' is A but that each place j of lo .. hi - 1 holds f j -/
def Laid (A A' : Cell) (lo hi : Nat) (f : Nat → Value) : Prop := A'.cls = A.cls ∧ A'.vm = A.vm ∧ A'.slots.size = A.slots.size ∧ ∀ i, A'.slots[i]? = if lo ≤ i ∧ i < hi then some (f i) else A.slots[i]?
theorem Laid.zero (A : Cell) (lo : Nat) (f : Nat → Value) : Laid A A lo (lo + 0) f := ⟨rfl, rfl, rfl, fun i => by rw [if_neg (by omega)]⟩
theorem Laid.step {A Ak : Cell} {lo k : Nat} {f : Nat → Value} {v : Value} (h : Laid A Ak lo k f) (hlo : lo ≤ k) (hk : k < Ak.slots.size) (hv : v = f k) : Laid A (Ak.setSlot k v) lo (k + 1) f := by
  refine ⟨h.1, h.2.1, by simpa [Cell.setSlot] using h.2.2.1, fun i => ?_⟩
  by_cases e : k = i
  · subst e; rw [Cell.slots_setSlot_self v hk, if_pos (by omega), hv]
  · rw [Cell.slots_setSlot_ne v e, h.2.2.2 i]
    by_cases q : lo ≤ i ∧ i < k
    · rw [if_pos q, if_pos (by omega)]
    · rw [if_neg q, if_neg (by omega)]
def U16 : String := "java/lang/StringUTF16"
namespace Cmp5
def yN : MethodName := ⟨"java/lang/StringUTF16", "compress", "([CI[BII)I"⟩
abbrev yB : ByteArray := jdk_52_method_21_code
theorem d0 : decode yB 0 = .ok (.iconst 0, 1) := by decide +kernel
theorem d1 : decode yB 1 = .ok (.istore 5, 2) := by decide +kernel
theorem d3 : decode yB 3 = .ok (.iload 5, 2) := by decide +kernel
theorem d5 : decode yB 5 = .ok (.iload 4, 2) := by decide +kernel
theorem d7 : decode yB 7 = .ok (.if_icmp (.ge) 37, 3) := by decide +kernel
theorem d10 : decode yB 10 = .ok (.aload_n 0, 1) := by decide +kernel
theorem d11 : decode yB 11 = .ok (.iload_n 1, 1) := by decide +kernel
theorem d12 : decode yB 12 = .ok (.caload, 1) := by decide +kernel
theorem d13 : decode yB 13 = .ok (.istore 6, 2) := by decide +kernel
theorem d15 : decode yB 15 = .ok (.iload 6, 2) := by decide +kernel
theorem d17 : decode yB 17 = .ok (.sipush 255, 3) := by decide +kernel
theorem d20 : decode yB 20 = .ok (.if_icmp (.le) 6, 3) := by decide +kernel
theorem d26 : decode yB 26 = .ok (.aload_n 2, 1) := by decide +kernel
theorem d27 : decode yB 27 = .ok (.iload_n 3, 1) := by decide +kernel
theorem d28 : decode yB 28 = .ok (.iload 6, 2) := by decide +kernel
theorem d30 : decode yB 30 = .ok (.i2b, 1) := by decide +kernel
theorem d31 : decode yB 31 = .ok (.bastore, 1) := by decide +kernel
theorem d32 : decode yB 32 = .ok (.iinc 1 1, 3) := by decide +kernel
theorem d35 : decode yB 35 = .ok (.iinc 3 1, 3) := by decide +kernel
theorem d38 : decode yB 38 = .ok (.iinc 5 1, 3) := by decide +kernel
theorem d41 : decode yB 41 = .ok (.goto (-38), 3) := by decide +kernel
theorem d44 : decode yB 44 = .ok (.iload 4, 2) := by decide +kernel
theorem d46 : decode yB 46 = .ok (.ireturn, 1) := by decide +kernel
def site : List Cond := []
def tab : Cond := tabOf yN yB 7 (some .int) site
def P (b : Addr) (A : Cell) (d : Addr) (B : Cell) (o q len : Nat) (args : Array Value) (s : State) : Prop := args = #[.ref b, .int (Int32.ofNat o), .ref d, .int (Int32.ofNat q), .int (Int32.ofNat len)] ∧ Ch b A s ∧ Arr .byte d B s ∧ b ≠ d ∧ o + len ≤ A.slots.size ∧ q + len ≤ B.slots.size ∧ ∀ i, i < len → ¬ 255 < cv A (o + i)
def E (b : Addr) (A : Cell) (d : Addr) (B : Cell) (o q len : Nat) (r : Option Value) (s u : State) : Prop := r = some (.int (Int32.ofNat len)) ∧ ∃ B', Put d B' s u ∧ Laid B B' q (q + len) (fun j => Value.int (lo8 (cv A (o + (j - q)))))
/-- no char of the range above 255: len; the places written hold each char's low byte -/
theorem law (l : Launch) (b : Addr) (A : Cell) (d : Addr) (B : Cell) (o q len : Nat) : Law l yN 5 5 0 0 yB 7 (some .int) site (P b A d B o q len) (E b A d B o q len) (copyLocs d q len) 0 0 := by
  refine Law.of_walk (plainFor_of_name (by decide +kernel)) (by decide +kernel) (by decide +kernel) (by decide) (fun _ _ h => by rw [h.1]; rfl) (fun _ U U' hal hh h => ⟨h.1, h.2.1.mv hal hh, h.2.2.1.mv hal hh, h.2.2.2⟩) (fun r U U' V V' h1 hal h2 h => ⟨h.1, h.2.elim fun B' q => ⟨B', q.1.mv h1 h2, q.2⟩⟩) ?_
  intro p e s m args below meth c s₁ X0 hexec hbytes hml hret hlk hnm hown hh0 W hP
  obtain ⟨rfl, hA, hB, hne, l1, l2, hp⟩ := hP
  have c1 : Steps p.tables e below (s₁.setTop (entryFrame m #[.ref b, .int (Int32.ofNat o), .ref d, .int (Int32.ofNat q), .int (Int32.ofNat len)] 7)) (s₁.setTop (mkF m 0 #[.val (.ref b), .val (.int (Int32.ofNat o)), .val (.ref d), .val (.int (Int32.ofNat q)), .val (.int (Int32.ofNat len)), .unset, .unset] [])) := entry rfl
  have hA0 := hA.1.mv X0.warmed.alike hh0
  have hB0 := hB.mv X0.warmed.alike hh0
  have a31 := hA.1.2.2.2
  have c2 : Steps p.tables e below (s₁.setTop (entryFrame m #[.ref b, .int (Int32.ofNat o), .ref d, .int (Int32.ofNat q), .int (Int32.ofNat len)] 7)) (s₁.setTop (mkF m 3 #[.val (.ref b), .val (.int (Int32.ofNat o)), .val (.ref d), .val (.int (Int32.ofNat q)), .val (.int (Int32.ofNat len)), .val (.int 0), .unset] [])) := c1.trans (by
    refine iconstV X0.here hexec rfl 0 (hb hbytes d0) (by decide) ?_
    refine XS.istore X0.here hexec rfl (hb hbytes d1) rfl rfl ?_
    exact Steps.refl _)
  have loop : ∀ (r i : Nat), i + r = len → ∀ (z : Slot), (z = .unset ∨ ∃ w, z = .val w ∧ w.category = 1) → ∀ (Tl : State) (Bk : Cell), Stand p l e { frames := 0, locals := 0, cells := 0, slots := 0 } s m #[.ref b, .int (Int32.ofNat o), .ref d, .int (Int32.ofNat q), .int (Int32.ofNat len)] below meth c Tl ([] ++ copyLocs d q i) 0 0 → Put d Bk s₁ Tl → Laid B Bk q (q + i) (fun j => Value.int (lo8 (cv A (o + (j - q))))) →
      Steps p.tables e below (s₁.setTop (entryFrame m #[.ref b, .int (Int32.ofNat o), .ref d, .int (Int32.ofNat q), .int (Int32.ofNat len)] 7)) (Tl.setTop (mkF m 3 #[.val (.ref b), .val (.int (Int32.ofNat (o + i))), .val (.ref d), .val (.int (Int32.ofNat (q + i))), .val (.int (Int32.ofNat len)), .val (.int (Int32.ofNat i)), z] [])) → ∃ (T' : State) (B' : Cell) (z' : Slot), Stand p l e { frames := 0, locals := 0, cells := 0, slots := 0 } s m #[.ref b, .int (Int32.ofNat o), .ref d, .int (Int32.ofNat q), .int (Int32.ofNat len)] below meth c T' ([] ++ copyLocs d q len) 0 0 ∧ Put d B' s₁ T' ∧ Laid B B' q (q + len) (fun j => Value.int (lo8 (cv A (o + (j - q))))) ∧
      Steps p.tables e below (s₁.setTop (entryFrame m #[.ref b, .int (Int32.ofNat o), .ref d, .int (Int32.ofNat q), .int (Int32.ofNat len)] 7)) (T'.setTop (mkF m 3 #[.val (.ref b), .val (.int (Int32.ofNat (o + len))), .val (.ref d), .val (.int (Int32.ofNat (q + len))), .val (.int (Int32.ofNat len)), .val (.int (Int32.ofNat len)), z'] [])) := by
    intro r
    induction r with
    | zero =>
      intro i hi z hz Tl Bk Xl pl fl cl
      have hil : i = len := by omega
      rw [hil] at Xl fl cl
      exact ⟨Tl, Bk, z, Xl, pl, fl, cl⟩
    | succ r ih =>
      intro i hi z hz Tl Bk Xl pl fl cl
      have all := X0.warmed.alike.symm.trans Xl.warmed.alike
      have hAl := hA0.keep all (pl.other hne hA0.1)
      have hBk := hB0.like all pl.1 fl.1 fl.2.1 fl.2.2.1
      have hlt : q + i < Bk.slots.size := by rw [fl.2.2.1]; omega
      have c3 : Steps p.tables e below (s₁.setTop (entryFrame m #[.ref b, .int (Int32.ofNat o), .ref d, .int (Int32.ofNat q), .int (Int32.ofNat len)] 7)) (Tl.setTop (mkF m 12 #[.val (.ref b), .val (.int (Int32.ofNat (o + i))), .val (.ref d), .val (.int (Int32.ofNat (q + i))), .val (.int (Int32.ofNat len)), .val (.int (Int32.ofNat i)), z] [.int (Int32.ofNat (o + i)), .ref b])) := cl.trans (by
        refine XS.iload Xl.here hexec rfl (hb hbytes d3) rfl ?_
        refine XS.iload Xl.here hexec rfl (hb hbytes d5) rfl ?_
        refine XS.icmpNo Xl.here hexec rfl (hb hbytes d7) rfl (ii_ge_f (lt32 (by omega) (by omega))) ?_
        refine XS.aloadN Xl.here hexec rfl (hb hbytes d10) rfl rfl ?_
        refine XS.iloadN Xl.here hexec rfl (hb hbytes d11) rfl ?_
        exact Steps.refl _)
      have c4 : Steps p.tables e below (s₁.setTop (entryFrame m #[.ref b, .int (Int32.ofNat o), .ref d, .int (Int32.ofNat q), .int (Int32.ofNat len)] 7)) (Tl.setTop (mkF m 13 #[.val (.ref b), .val (.int (Int32.ofNat (o + i))), .val (.ref d), .val (.int (Int32.ofNat (q + i))), .val (.int (Int32.ofNat len)), .val (.int (Int32.ofNat i)), z] [.int (cv A (o + i))])) := c3.trans (by
        refine Xl.aget hexec hAl rfl (hA.get (i := o + i) (by omega)) rfl rfl (hb hbytes d12) ?_
        exact Steps.refl _)
      have c5 : Steps p.tables e below (s₁.setTop (entryFrame m #[.ref b, .int (Int32.ofNat o), .ref d, .int (Int32.ofNat q), .int (Int32.ofNat len)] 7)) (Tl.setTop (mkF m 15 #[.val (.ref b), .val (.int (Int32.ofNat (o + i))), .val (.ref d), .val (.int (Int32.ofNat (q + i))), .val (.int (Int32.ofNat len)), .val (.int (Int32.ofNat i)), .val (.int (cv A (o + i)))] [])) := c4.trans (by
        refine XS.istoreS Xl.here hexec rfl (hb hbytes d13) rfl rfl hz ?_
        exact Steps.refl _)
      have c6 : Steps p.tables e below (s₁.setTop (entryFrame m #[.ref b, .int (Int32.ofNat o), .ref d, .int (Int32.ofNat q), .int (Int32.ofNat len)] 7)) (Tl.setTop (mkF m 31 #[.val (.ref b), .val (.int (Int32.ofNat (o + i))), .val (.ref d), .val (.int (Int32.ofNat (q + i))), .val (.int (Int32.ofNat len)), .val (.int (Int32.ofNat i)), .val (.int (cv A (o + i)))] [.int (lo8 (cv A (o + i))), .int (Int32.ofNat (q + i)), .ref d])) := c5.trans (by
        refine XS.iload Xl.here hexec rfl (hb hbytes d15) rfl ?_
        refine sipushV Xl.here hexec rfl 255 (hb hbytes d17) (by decide) ?_
        refine XS.icmpYes Xl.here hexec rfl (pc0 := 20) rfl (hb hbytes d20) rfl (ii_le_t (hp i (by omega))) (by decide) rfl ?_
        refine XS.aloadN Xl.here hexec rfl (hb hbytes d26) rfl rfl ?_
        refine XS.iloadN Xl.here hexec rfl (hb hbytes d27) rfl ?_
        refine XS.iload Xl.here hexec rfl (hb hbytes d28) rfl ?_
        refine i2b Xl.here hexec rfl (hb hbytes d30) rfl ?_
        exact Steps.refl _)
      obtain ⟨T7, X7, p7, st7⟩ := Xl.aput hexec hBk rfl hlt rfl (fits_lo8 (cv A (o + i))) (g := (mkF m 31 #[.val (.ref b), .val (.int (Int32.ofNat (o + i))), .val (.ref d), .val (.int (Int32.ofNat (q + i))), .val (.int (Int32.ofNat len)), .val (.int (Int32.ofNat i)), .val (.int (cv A (o + i)))] [.int (lo8 (cv A (o + i))), .int (Int32.ofNat (q + i)), .ref d])) rfl (rest := []) rfl (hb hbytes d31)
      have c8 : Steps p.tables e below (s₁.setTop (entryFrame m #[.ref b, .int (Int32.ofNat o), .ref d, .int (Int32.ofNat q), .int (Int32.ofNat len)] 7)) (T7.setTop (mkF m 32 #[.val (.ref b), .val (.int (Int32.ofNat (o + i))), .val (.ref d), .val (.int (Int32.ofNat (q + i))), .val (.int (Int32.ofNat len)), .val (.int (Int32.ofNat i)), .val (.int (cv A (o + i)))] [])) := c6.trans (st7 _ (Steps.refl _))
      have c9 : Steps p.tables e below (s₁.setTop (entryFrame m #[.ref b, .int (Int32.ofNat o), .ref d, .int (Int32.ofNat q), .int (Int32.ofNat len)] 7)) (T7.setTop (mkF m 3 #[.val (.ref b), .val (.int (Int32.ofNat (o + i) + 1)), .val (.ref d), .val (.int (Int32.ofNat (q + i) + 1)), .val (.int (Int32.ofNat len)), .val (.int (Int32.ofNat i + 1)), .val (.int (cv A (o + i)))] [])) := c8.trans (by
        refine iincV X7.here hexec rfl 1 (hb hbytes d32) (by decide) rfl rfl ?_
        refine iincV X7.here hexec rfl 1 (hb hbytes d35) (by decide) rfl rfl ?_
        refine iincV X7.here hexec rfl 1 (hb hbytes d38) (by decide) rfl rfl ?_
        refine XS.goto X7.here hexec rfl (pc0 := 41) rfl (hb hbytes d41) (by decide) rfl ?_
        exact Steps.refl _)
      have c10 : Steps p.tables e below (s₁.setTop (entryFrame m #[.ref b, .int (Int32.ofNat o), .ref d, .int (Int32.ofNat q), .int (Int32.ofNat len)] 7)) (T7.setTop (mkF m 3 #[.val (.ref b), .val (.int (Int32.ofNat (o + (i + 1)))), .val (.ref d), .val (.int (Int32.ofNat (q + (i + 1)))), .val (.int (Int32.ofNat len)), .val (.int (Int32.ofNat (i + 1))), .val (.int (cv A (o + i)))] [])) := by
        have := c9
        rw [succ32, succ32, succ32] at this
        exact this
      exact ih (i + 1) (by omega) _ (Or.inr ⟨_, rfl, rfl⟩) T7 _ (by rw [copyLocs_step, ← List.append_assoc]; exact X7) (pl.trans p7) (fl.step (by omega) hlt (by simp)) c10
  obtain ⟨T9, B9, z9, X9, p9, f9, g9⟩ := loop len 0 (by omega) .unset (Or.inl rfl) s₁ B (by simpa [copyLocs] using X0) ⟨hB0.1, fun _ _ => rfl, rfl⟩ (Laid.zero _ _ _) c2
  have c11 : Steps p.tables e below (s₁.setTop (entryFrame m #[.ref b, .int (Int32.ofNat o), .ref d, .int (Int32.ofNat q), .int (Int32.ofNat len)] 7)) (T9.setTop (mkF m 46 #[.val (.ref b), .val (.int (Int32.ofNat (o + len))), .val (.ref d), .val (.int (Int32.ofNat (q + len))), .val (.int (Int32.ofNat len)), .val (.int (Int32.ofNat len)), z9] [.int (Int32.ofNat len)])) := g9.trans (by
    refine XS.iload X9.here hexec rfl (hb hbytes d3) rfl ?_
    refine XS.iload X9.here hexec rfl (hb hbytes d5) rfl ?_
    refine XS.icmpYes X9.here hexec rfl (pc0 := 7) rfl (hb hbytes d7) rfl (ii_ge_t (nlt32 (by omega) (Nat.le_refl _))) (by decide) rfl ?_
    refine XS.iload X9.here hexec rfl (hb hbytes d44) rfl ?_
    exact Steps.refl _)
  exact ⟨T9, some (.int (Int32.ofNat len)), _, _, _, X9, by simp, rfl, rfl, (fun h => by cases h), ⟨rfl, B9, p9.from hh0, f9⟩, fun fs hl => c11.trans (X9.ireturnOut hexec hret rfl (Or.inl rfl) (hb hbytes d46) hl)⟩
end Cmp5
namespace Cmp3
def yN : MethodName := ⟨"java/lang/StringUTF16", "compress", "([CII)[B"⟩
abbrev yB : ByteArray := jdk_52_method_16_code
theorem d0 : decode yB 0 = .ok (.iload_n 2, 1) := by decide +kernel
theorem d1 : decode yB 1 = .ok (.newarray .byte, 2) := by decide +kernel
theorem d3 : decode yB 3 = .ok (.astore_n 3, 1) := by decide +kernel
theorem d4 : decode yB 4 = .ok (.aload_n 0, 1) := by decide +kernel
theorem d5 : decode yB 5 = .ok (.iload_n 1, 1) := by decide +kernel
theorem d6 : decode yB 6 = .ok (.aload_n 3, 1) := by decide +kernel
theorem d7 : decode yB 7 = .ok (.iconst 0, 1) := by decide +kernel
theorem d8 : decode yB 8 = .ok (.iload_n 2, 1) := by decide +kernel
theorem d9 : decode yB 9 = .ok (.invokestatic 115, 3) := by decide +kernel
theorem d12 : decode yB 12 = .ok (.istore 4, 2) := by decide +kernel
theorem d14 : decode yB 14 = .ok (.iload 4, 2) := by decide +kernel
theorem d16 : decode yB 16 = .ok (.iload_n 2, 1) := by decide +kernel
theorem d17 : decode yB 17 = .ok (.if_icmp (.eq) 40, 3) := by decide +kernel
theorem d57 : decode yB 57 = .ok (.aload_n 3, 1) := by decide +kernel
theorem d58 : decode yB 58 = .ok (.areturn, 1) := by decide +kernel
def site : List Cond := [.arrayClass .byte, Cmp5.tab] ++ staticW U16 115 Cmp5.yN
def tab : Cond := tabOf yN yB 6 (some (.array .byte)) site
def P (b : Addr) (A : Cell) (o len : Nat) (args : Array Value) (s : State) : Prop := args = #[.ref b, .int (Int32.ofNat o), .int (Int32.ofNat len)] ∧ Ch b A s ∧ o + len ≤ A.slots.size ∧ len ≤ 536870912 ∧ ∀ i, i < len → ¬ 255 < cv A (o + i)
def E (b : Addr) (A : Cell) (o len : Nat) (r : Option Value) (s u : State) : Prop := NewArr .byte "[B" len (fun j => .int (lo8 (cv A (o + j)))) r s u ∧ u.heap.size = s.heap.size + 1
/-- no char of the range above 255: a new byte[] of their low bytes -/
theorem law (l : Launch) (b : Addr) (A : Cell) (o len : Nat) : Law l yN 3 3 1 18 yB 6 (some (.array .byte)) site (P b A o len) (E b A o len) [] 1 len := by
  refine Law.of_walk (plainFor_of_name (by decide +kernel)) (by decide +kernel) (by decide +kernel) (by decide) (fun _ _ h => by rw [h.1]; rfl) (fun _ U U' hal hh h => ⟨h.1, h.2.1.mv hal hh, h.2.2⟩) (fun r U U' V V' h1 hal h2 h => ⟨NewArr.mv r U U' V V' h1 hal h2 h.1, by rw [h1, h2]; exact h.2⟩) ?_
  intro p e s m args below meth c s₁ X0 hexec hbytes hml hret hlk hnm hown hh0 W hP
  obtain ⟨rfl, hA, l1, l2, hp⟩ := hP
  have a31 := hA.1.2.2.2
  have c1 : Steps p.tables e below (s₁.setTop (entryFrame m #[.ref b, .int (Int32.ofNat o), .int (Int32.ofNat len)] 6)) (s₁.setTop (mkF m 0 #[.val (.ref b), .val (.int (Int32.ofNat o)), .val (.int (Int32.ofNat len)), .unset, .unset, .unset] [])) := entry rfl
  have c2 : Steps p.tables e below (s₁.setTop (entryFrame m #[.ref b, .int (Int32.ofNat o), .int (Int32.ofNat len)] 6)) (s₁.setTop (mkF m 1 #[.val (.ref b), .val (.int (Int32.ofNat o)), .val (.int (Int32.ofNat len)), .unset, .unset, .unset] [.int (Int32.ofNat len)])) := c1.trans (by
    refine XS.iloadN X0.here hexec rfl (hb hbytes d0) rfl ?_
    exact Steps.refl _)
  obtain ⟨T3, B3, X3, ba3, bs3, bv3, bh3, bf3, st3⟩ := X0.anew hexec (atype := .byte) (wk W (.arrayClass .byte)) rfl (by show len * 1 ≤ _; omega) (by omega) (g := (mkF m 1 #[.val (.ref b), .val (.int (Int32.ofNat o)), .val (.int (Int32.ofNat len)), .unset, .unset, .unset] [.int (Int32.ofNat len)])) rfl (hb hbytes d1) (rest := []) rfl (Nat.le_refl _) (by show 0 + len ≤ len; omega)
  rw [hh0] at ba3 st3
  have kp3 : XT.Kept s T3 := (XT.Kept.of_eq hh0).push bh3
  have hA3 := hA.keep X3.warmed.alike (kp3 _ _ hA.1.1)
  have hne : b ≠ s.heap.size := hA.1.ne
  have c4 : Steps p.tables e below (s₁.setTop (entryFrame m #[.ref b, .int (Int32.ofNat o), .int (Int32.ofNat len)] 6)) (T3.setTop (mkF m 3 #[.val (.ref b), .val (.int (Int32.ofNat o)), .val (.int (Int32.ofNat len)), .unset, .unset, .unset] [.ref s.heap.size])) := c2.trans (st3 _ (Steps.refl _))
  have c5 : Steps p.tables e below (s₁.setTop (entryFrame m #[.ref b, .int (Int32.ofNat o), .int (Int32.ofNat len)] 6)) (T3.setTop (mkF m 9 #[.val (.ref b), .val (.int (Int32.ofNat o)), .val (.int (Int32.ofNat len)), .val (.ref s.heap.size), .unset, .unset] [.int (Int32.ofNat len), .int 0, .ref s.heap.size, .int (Int32.ofNat o), .ref b])) := c4.trans (by
    refine XS.astoreN X3.here hexec rfl (hb hbytes d3) rfl rfl rfl ?_
    refine XS.aloadN X3.here hexec rfl (hb hbytes d4) rfl rfl ?_
    refine XS.iloadN X3.here hexec rfl (hb hbytes d5) rfl ?_
    refine XS.aloadN X3.here hexec rfl (hb hbytes d6) rfl rfl ?_
    refine iconstV X3.here hexec rfl 0 (hb hbytes d7) (by decide) ?_
    refine XS.iloadN X3.here hexec rfl (hb hbytes d8) rfl ?_
    exact Steps.refl _)
  obtain ⟨v6, T6, X6, E6, g6⟩ := X3.callS hexec (Cmp5.law l b A s.heap.size B3 o 0 len) hown (wks W (staticW U16 115 Cmp5.yN)) (wk W Cmp5.tab) (W := 0) (Nat.le_of_ble_eq_true rfl) (Nat.le_of_ble_eq_true rfl) (Nat.le_refl _) (by show 0 + len + 0 ≤ len; omega) (g := (mkF m 9 #[.val (.ref b), .val (.int (Int32.ofNat o)), .val (.int (Int32.ofNat len)), .val (.ref s.heap.size), .unset, .unset] [.int (Int32.ofNat len), .int (Int32.ofNat 0), .ref s.heap.size, .int (Int32.ofNat o), .ref b])) rfl (by rw [hml]; rfl) c5 (argsL := [.ref b, .int (Int32.ofNat o), .ref s.heap.size, .int (Int32.ofNat 0), .int (Int32.ofNat len)]) (rest := []) rfl rfl (by show 2 * 0 + 0 ≤ _; decide) (hb hbytes d9) (⟨rfl, hA3, ba3, hne, l1, by rw [bs3]; simp, hp⟩)
  obtain ⟨rfl, B6, p6, f6⟩ := E6
  have c7 : Steps p.tables e below (s₁.setTop (entryFrame m #[.ref b, .int (Int32.ofNat o), .int (Int32.ofNat len)] 6)) (T6.setTop (mkF m 12 #[.val (.ref b), .val (.int (Int32.ofNat o)), .val (.int (Int32.ofNat len)), .val (.ref s.heap.size), .unset, .unset] [.int (Int32.ofNat len)])) := g6
  have c8 : Steps p.tables e below (s₁.setTop (entryFrame m #[.ref b, .int (Int32.ofNat o), .int (Int32.ofNat len)] 6)) (T6.setTop (mkF m 58 #[.val (.ref b), .val (.int (Int32.ofNat o)), .val (.int (Int32.ofNat len)), .val (.ref s.heap.size), .val (.int (Int32.ofNat len)), .unset] [.ref s.heap.size])) := c7.trans (by
    refine XS.istore X6.here hexec rfl (hb hbytes d12) rfl rfl ?_
    refine XS.iload X6.here hexec rfl (hb hbytes d14) rfl ?_
    refine XS.iloadN X6.here hexec rfl (hb hbytes d16) rfl ?_
    refine XS.icmpYes X6.here hexec rfl (pc0 := 17) rfl (hb hbytes d17) rfl (ii_eq_t rfl) (by decide) rfl ?_
    refine XS.aloadN X6.here hexec rfl (hb hbytes d57) rfl rfl ?_
    exact Steps.refl _)
  have X8 := X6.wide (L' := []) (cells' := 1) (slots' := len) (fun x hx hlt => by
    simp only [List.nil_append, copyLocs, List.mem_map, List.mem_range] at hx
    obtain ⟨i, -, rfl⟩ := hx
    exact absurd hlt (Nat.lt_irrefl _)) (Nat.le_refl _) (by omega)
  exact ⟨T6, some (.ref s.heap.size), _, _, _, X8, rfl, rfl, rfl, (fun h => by cases h), ⟨⟨rfl, B6, ba3.like (X3.warmed.alike.symm.trans X6.warmed.alike) p6.1 f6.1 f6.2.1 f6.2.2.1, f6.2.1.trans bv3, by rw [X6.warmed.alike.findClass, f6.1]; exact bf3, by rw [f6.2.2.1, bs3]; simp, fun j hj => by rw [f6.2.2.2 j, if_pos (by omega)]; rfl, kp3.put p6 (Nat.le_refl _)⟩, by rw [p6.2.2, bh3, hh0]; simp⟩, fun fs hl => c8.trans (X8.areturnOut hexec rfl hret rfl (hb hbytes d58) hl)⟩
end Cmp3
namespace CodL
def yN : MethodName := ⟨"java/lang/StringUTF16", "coderFromArrayLen", "([BI)B"⟩
abbrev yB : ByteArray := jdk_52_method_15_code
theorem d0 : decode yB 0 = .ok (.iload_n 1, 1) := by decide +kernel
theorem d1 : decode yB 1 = .ok (.aload_n 0, 1) := by decide +kernel
theorem d2 : decode yB 2 = .ok (.arraylength, 1) := by decide +kernel
theorem d3 : decode yB 3 = .ok (.isub, 1) := by decide +kernel
theorem d4 : decode yB 4 = .ok (.bipush 31, 2) := by decide +kernel
theorem d6 : decode yB 6 = .ok (.iushr, 1) := by decide +kernel
theorem d7 : decode yB 7 = .ok (.i2b, 1) := by decide +kernel
theorem d8 : decode yB 8 = .ok (.ireturn, 1) := by decide +kernel
def site : List Cond := []
def tab : Cond := tabOf yN yB 2 (some .byte) site
def P (d : Addr) (B : Cell) (args : Array Value) (s : State) : Prop := args = #[.ref d, .int (Int32.ofNat B.slots.size)] ∧ Arr .byte d B s
def E (r : Option Value) (s u : State) : Prop := XT.PureE (some (.int 0)) r s u
/-- an array as long as the number of chars: LATIN1 -/
theorem law (l : Launch) (d : Addr) (B : Cell) : Law l yN 2 2 0 0 yB 2 (some .byte) site (P d B) E [] 0 0 := by
  refine Law.of_walk (plainFor_of_name (by decide +kernel)) (by decide +kernel) (by decide +kernel) (by decide) (fun _ _ h => by rw [h.1]; rfl) (fun _ U U' hal hh h => ⟨h.1, h.2.mv hal hh⟩) (fun r U U' V V' h1 hal h2 h => XT.PureE.mv r U U' V V' h1 hal h2 h) ?_
  intro p e s m args below meth c s₁ X0 hexec hbytes hml hret hlk hnm hown hh0 W hP
  obtain ⟨rfl, hB⟩ := hP
  have hB0 := hB.mv X0.warmed.alike hh0
  have c1 : Steps p.tables e below (s₁.setTop (entryFrame m #[.ref d, .int (Int32.ofNat B.slots.size)] 2)) (s₁.setTop (mkF m 0 #[.val (.ref d), .val (.int (Int32.ofNat B.slots.size))] [])) := entry rfl
  have c2 : Steps p.tables e below (s₁.setTop (entryFrame m #[.ref d, .int (Int32.ofNat B.slots.size)] 2)) (s₁.setTop (mkF m 2 #[.val (.ref d), .val (.int (Int32.ofNat B.slots.size))] [.ref d, .int (Int32.ofNat B.slots.size)])) := c1.trans (by
    refine XS.iloadN X0.here hexec rfl (hb hbytes d0) rfl ?_
    refine XS.aloadN X0.here hexec rfl (hb hbytes d1) rfl rfl ?_
    exact Steps.refl _)
  have c3 : Steps p.tables e below (s₁.setTop (entryFrame m #[.ref d, .int (Int32.ofNat B.slots.size)] 2)) (s₁.setTop (mkF m 8 #[.val (.ref d), .val (.int (Int32.ofNat B.slots.size))] [.int (lo8 (ushr (Int32.ofNat B.slots.size - Int32.ofNat B.slots.size) 31))])) := c2.trans (by
    refine X0.alen hexec hB0 rfl rfl (hb hbytes d2) ?_
    refine XS.isub X0.here hexec rfl (hb hbytes d3) rfl ?_
    refine bipushV X0.here hexec rfl 31 (hb hbytes d4) (by decide) ?_
    refine iushr X0.here hexec rfl (hb hbytes d6) rfl ?_
    refine i2b X0.here hexec rfl (hb hbytes d7) rfl ?_
    exact Steps.refl _)
  have e0 : lo8 (ushr (Int32.ofNat B.slots.size - Int32.ofNat B.slots.size) 31) = 0 := by rw [Int32.sub_self]; decide
  rw [e0] at c3
  exact ⟨s₁, some (.int 0), _, _, _, X0, rfl, rfl, rfl, (fun h => by cases h), ⟨rfl, hh0⟩, fun fs hl => c3.trans (X0.ireturnOut hexec hret rfl (Or.inr (Or.inr (Or.inl rfl))) (hb hbytes d8) hl)⟩
end CodL
/-- the String at a is Latin-1 over a new byte[] (the heap's one new cell): the low bytes of the len chars of A from o on; every cell but a is kept -/
def Got (a : Addr) (D : Cell) (fV fC : Field) (A : Cell) (o len : Nat) (r : Option Value) (s u : State) : Prop := r = none ∧ ∃ D' V : Cell, Blank "java/lang/String" a D' u ∧ Same D D' [fV.slot, fC.slot] ∧ D'.slots[fV.slot]? = some (.ref s.heap.size) ∧ D'.slots[fC.slot]? = some (.int 0) ∧ Arr .byte s.heap.size V u ∧ V.vm = .none ∧ u.vm.findClass "[B" = some V.cls ∧ V.slots.size = len ∧ (∀ j, j < len → V.slots[j]? = some (.int (lo8 (cv A (o + j))))) ∧ (∀ (y : Addr) (c : Cell), y ≠ a → s.heap[y]? = some c → u.heap[y]? = some c) ∧ u.heap.size = s.heap.size + 1
theorem Got.mv {a : Addr} {D A : Cell} {fV fC : Field} {o len : Nat} : ∀ r (U U' V V' : State), U'.heap = U.heap → V.vm.Alike V'.vm → V'.heap = V.heap → Got a D fV fC A o len r U V → Got a D fV fC A o len r U' V' :=
  fun r U U' V V' h1 hal h2 ⟨e0, D', X, a1, a2, a3, a4, a5, a6, a7, a8, a9, a10, a11⟩ => ⟨e0, D', X, a1.mv hal h2, a2, by rw [h1]; exact a3, a4, by rw [h1]; exact a5.mv hal h2, a6, by rw [hal.findClass]; exact a7, a8, a9, by rw [h1, h2]; exact a10, by rw [h1, h2]; exact a11⟩
namespace New4
def yN : MethodName := ⟨"java/lang/String", "<init>", "([CIILjava/lang/Void;)V"⟩
abbrev yB : ByteArray := jdk_42_method_149_code
theorem d0 : decode yB 0 = .ok (.aload_n 0, 1) := by decide +kernel
theorem d1 : decode yB 1 = .ok (.invokespecial 1, 3) := by decide +kernel
theorem d4 : decode yB 4 = .ok (.iload_n 3, 1) := by decide +kernel
theorem d5 : decode yB 5 = .ok (.ifCond (.ne) 22, 3) := by decide +kernel
theorem d27 : decode yB 27 = .ok (.getstatic 38, 3) := by decide +kernel
theorem d30 : decode yB 30 = .ok (.ifCond (.eq) 28, 3) := by decide +kernel
theorem d33 : decode yB 33 = .ok (.aload_n 1, 1) := by decide +kernel
theorem d34 : decode yB 34 = .ok (.iload_n 2, 1) := by decide +kernel
theorem d35 : decode yB 35 = .ok (.iload_n 3, 1) := by decide +kernel
theorem d36 : decode yB 36 = .ok (.invokestatic 177, 3) := by decide +kernel
theorem d39 : decode yB 39 = .ok (.astore 5, 2) := by decide +kernel
theorem d41 : decode yB 41 = .ok (.aload_n 0, 1) := by decide +kernel
theorem d42 : decode yB 42 = .ok (.aload 5, 2) := by decide +kernel
theorem d44 : decode yB 44 = .ok (.iload_n 3, 1) := by decide +kernel
theorem d45 : decode yB 45 = .ok (.invokestatic 47, 3) := by decide +kernel
theorem d48 : decode yB 48 = .ok (.putfield 15, 3) := by decide +kernel
theorem d51 : decode yB 51 = .ok (.aload_n 0, 1) := by decide +kernel
theorem d52 : decode yB 52 = .ok (.aload 5, 2) := by decide +kernel
theorem d54 : decode yB 54 = .ok (.putfield 9, 3) := by decide +kernel
theorem d57 : decode yB 57 = .ok (.return_, 1) := by decide +kernel
def site : List Cond := [.fieldLink "java/lang/String" 38 "java/lang/String" "COMPACT_STRINGS" "Z", Cmp3.tab, CodL.tab, .laysFinal "java/lang/String" "java/lang/String" "value" "[B", .fieldLink "java/lang/String" 9 "java/lang/String" "value" "[B", .laysFinal "java/lang/String" "java/lang/String" "coder" "B", .fieldLink "java/lang/String" 15 "java/lang/String" "coder" "B"] ++ objW "java/lang/String" 1 ++ staticW "java/lang/String" 177 Cmp3.yN ++ staticW "java/lang/String" 47 CodL.yN
def tab : Cond := tabOf yN yB 6 none site
def P (a : Addr) (D : Cell) (fV fC : Field) (b : Addr) (A : Cell) (z : Int32) (o len : Nat) (args : Array Value) (s : State) : Prop := args = #[.ref a, .ref b, .int (Int32.ofNat o), .int (Int32.ofNat len), .null] ∧ Blank "java/lang/String" a D s ∧ Found "java/lang/String" "value" "[B" fV s ∧ Found "java/lang/String" "coder" "B" fC s ∧ Ch b A s ∧ StaticIs s "java/lang/String" "COMPACT_STRINGS" "Z" (.int z) ∧ ¬ z = 0 ∧ 0 < len ∧ o + len ≤ A.slots.size ∧ len ≤ 536870912 ∧ ∀ i, i < len → ¬ 255 < cv A (o + i)
def E (a : Addr) (D : Cell) (fV fC : Field) (A : Cell) (o len : Nat) (r : Option Value) (s u : State) : Prop := Got a D fV fC A o len r s u
/-- len > 0, no char of the range above 255: a Latin-1 String of their low bytes -/
theorem law (l : Launch) (a : Addr) (D : Cell) (fV fC : Field) (b : Addr) (A : Cell) (z : Int32) (o len : Nat) : Law l yN 5 4 2 35 yB 6 none site (P a D fV fC b A z o len) (E a D fV fC A o len) [⟨a, fC.slot⟩, ⟨a, fV.slot⟩] 1 len := by
  refine Law.of_walk (plainFor_of_name (by decide +kernel)) (by decide +kernel) (by decide +kernel) (by decide) (fun _ _ h => by rw [h.1]; rfl) (fun _ U U' hal hh h => ⟨h.1, h.2.1.mv hal hh, h.2.2.1.al hal, h.2.2.2.1.al hal, h.2.2.2.2.1.mv hal hh, h.2.2.2.2.2.1.there hal hh, h.2.2.2.2.2.2⟩) (fun r U U' V V' h1 hal h2 h => Got.mv r U U' V V' h1 hal h2 h) ?_
  intro p e s m args below meth c s₁ X0 hexec hbytes hml hret hlk hnm hown hh0 W hP
  obtain ⟨rfl, hB, f1, f2, hA, s1, hz, l0, l1, l2, hp⟩ := hP
  have a31 := hA.1.2.2.2
  have c1 : Steps p.tables e below (s₁.setTop (entryFrame m #[.ref a, .ref b, .int (Int32.ofNat o), .int (Int32.ofNat len), .null] 6)) (s₁.setTop (mkF m 0 #[.val (.ref a), .val (.ref b), .val (.int (Int32.ofNat o)), .val (.int (Int32.ofNat len)), .val .null, .unset] [])) := entry rfl
  have c2 : Steps p.tables e below (s₁.setTop (entryFrame m #[.ref a, .ref b, .int (Int32.ofNat o), .int (Int32.ofNat len), .null] 6)) (s₁.setTop (mkF m 1 #[.val (.ref a), .val (.ref b), .val (.int (Int32.ofNat o)), .val (.int (Int32.ofNat len)), .val .null, .unset] [.ref a])) := c1.trans (by
    refine XS.aloadN X0.here hexec rfl (hb hbytes d0) rfl rfl ?_
    exact Steps.refl _)
  obtain ⟨T3, X3, q3, st3⟩ := X0.oinit hexec hown (wks W (objW "java/lang/String" 1)) (g := (mkF m 1 #[.val (.ref a), .val (.ref b), .val (.int (Int32.ofNat o)), .val (.int (Int32.ofNat len)), .val .null, .unset] [.ref a])) rfl (by rw [hml]; rfl) (rest := []) rfl (hb hbytes d1) (W := 0) (by show 2 * 0 + 0 ≤ _; decide) (Nat.le_of_ble_eq_true rfl) (Nat.le_of_ble_eq_true rfl)
  have hh3 := q3.trans hh0
  have c4 : Steps p.tables e below (s₁.setTop (entryFrame m #[.ref a, .ref b, .int (Int32.ofNat o), .int (Int32.ofNat len), .null] 6)) (T3.setTop (mkF m 27 #[.val (.ref a), .val (.ref b), .val (.int (Int32.ofNat o)), .val (.int (Int32.ofNat len)), .val .null, .unset] [])) := (c2.trans (st3 _ (Steps.refl _))).trans (by
    refine XS.iloadN X3.here hexec rfl (hb hbytes d4) rfl ?_
    refine XS.ifYes X3.here hexec rfl (pc0 := 5) rfl (hb hbytes d5) rfl (i0_ne_t (nz32 (by omega) l0)) (by decide) rfl ?_
    exact Steps.refl _)
  obtain ⟨T5, X5, q5, st5⟩ := X3.sget hexec hown (wk W (.fieldLink "java/lang/String" 38 "java/lang/String" "COMPACT_STRINGS" "Z")) s1 (fun _ _ h => by rw [hh3]; exact h) (g := (mkF m 27 #[.val (.ref a), .val (.ref b), .val (.int (Int32.ofNat o)), .val (.int (Int32.ofNat len)), .val .null, .unset] [])) rfl (hb hbytes d27)
  have hh5 := q5.trans hh3
  have c6 : Steps p.tables e below (s₁.setTop (entryFrame m #[.ref a, .ref b, .int (Int32.ofNat o), .int (Int32.ofNat len), .null] 6)) (T5.setTop (mkF m 30 #[.val (.ref a), .val (.ref b), .val (.int (Int32.ofNat o)), .val (.int (Int32.ofNat len)), .val .null, .unset] [.int z])) := c4.trans (st5 _ (Steps.refl _))
  have c7 : Steps p.tables e below (s₁.setTop (entryFrame m #[.ref a, .ref b, .int (Int32.ofNat o), .int (Int32.ofNat len), .null] 6)) (T5.setTop (mkF m 36 #[.val (.ref a), .val (.ref b), .val (.int (Int32.ofNat o)), .val (.int (Int32.ofNat len)), .val .null, .unset] [.int (Int32.ofNat len), .int (Int32.ofNat o), .ref b])) := c6.trans (by
    refine XS.ifNo X5.here hexec rfl (hb hbytes d30) rfl (i0_eq_f hz) ?_
    refine XS.aloadN X5.here hexec rfl (hb hbytes d33) rfl rfl ?_
    refine XS.iloadN X5.here hexec rfl (hb hbytes d34) rfl ?_
    refine XS.iloadN X5.here hexec rfl (hb hbytes d35) rfl ?_
    exact Steps.refl _)
  obtain ⟨v8, T8, X8, E8, g8⟩ := X5.callS hexec (Cmp3.law l b A o len) hown (wks W (staticW "java/lang/String" 177 Cmp3.yN)) (wk W Cmp3.tab) (W := 0) (Nat.le_of_ble_eq_true rfl) (Nat.le_of_ble_eq_true rfl) (Nat.le_refl _) (by show 0 + len ≤ len; omega) (g := (mkF m 36 #[.val (.ref a), .val (.ref b), .val (.int (Int32.ofNat o)), .val (.int (Int32.ofNat len)), .val .null, .unset] [.int (Int32.ofNat len), .int (Int32.ofNat o), .ref b])) rfl (by rw [hml]; rfl) c7 (argsL := [.ref b, .int (Int32.ofNat o), .int (Int32.ofNat len)]) (rest := []) rfl rfl (by show 2 * 0 + 0 ≤ _; decide) (hb hbytes d36) (⟨rfl, hA.mv X5.warmed.alike hh5, l1, l2, hp⟩)
  obtain ⟨e8, z8⟩ := E8
  obtain ⟨rfl, N, n1, n2, n3, n4, n5, n6⟩ := NewArr.mv _ T5 s _ _ hh5.symm (Vm.Alike.refl _) rfl e8
  rw [hh5] at z8
  have hB1 := hB.keep X8.warmed.alike (n6 _ _ hB.1)
  have hne : s.heap.size ≠ a := (Nat.ne_of_lt (Array.getElem?_eq_some_iff.mp hB.1).1).symm
  have c9 : Steps p.tables e below (s₁.setTop (entryFrame m #[.ref a, .ref b, .int (Int32.ofNat o), .int (Int32.ofNat len), .null] 6)) (T8.setTop (mkF m 39 #[.val (.ref a), .val (.ref b), .val (.int (Int32.ofNat o)), .val (.int (Int32.ofNat len)), .val .null, .unset] [.ref s.heap.size])) := g8
  have c10 : Steps p.tables e below (s₁.setTop (entryFrame m #[.ref a, .ref b, .int (Int32.ofNat o), .int (Int32.ofNat len), .null] 6)) (T8.setTop (mkF m 45 #[.val (.ref a), .val (.ref b), .val (.int (Int32.ofNat o)), .val (.int (Int32.ofNat len)), .val .null, .val (.ref s.heap.size)] [.int (Int32.ofNat N.slots.size), .ref s.heap.size, .ref a])) := by
    have hc : Steps p.tables e below (s₁.setTop (entryFrame m #[.ref a, .ref b, .int (Int32.ofNat o), .int (Int32.ofNat len), .null] 6)) (T8.setTop (mkF m 45 #[.val (.ref a), .val (.ref b), .val (.int (Int32.ofNat o)), .val (.int (Int32.ofNat len)), .val .null, .val (.ref s.heap.size)] [.int (Int32.ofNat len), .ref s.heap.size, .ref a])) := c9.trans (by
      refine XS.astore X8.here hexec rfl (hb hbytes d39) rfl rfl rfl ?_
      refine XS.aloadN X8.here hexec rfl (hb hbytes d41) rfl rfl ?_
      refine XS.aload X8.here hexec rfl (hb hbytes d42) rfl rfl ?_
      refine XS.iloadN X8.here hexec rfl (hb hbytes d44) rfl ?_
      exact Steps.refl _)
    rw [n4]; exact hc
  obtain ⟨v11, T11, X11, E11, g11⟩ := X8.callS hexec (CodL.law l s.heap.size N) hown (wks W (staticW "java/lang/String" 47 CodL.yN)) (wk W CodL.tab) (W := 1) (Nat.le_of_ble_eq_true rfl) (Nat.le_of_ble_eq_true rfl) (Nat.le_refl _) (by show 0 + len + 0 ≤ len; omega) (g := (mkF m 45 #[.val (.ref a), .val (.ref b), .val (.int (Int32.ofNat o)), .val (.int (Int32.ofNat len)), .val .null, .val (.ref s.heap.size)] [.int (Int32.ofNat N.slots.size), .ref s.heap.size, .ref a])) rfl (by rw [hml]; rfl) c10 (argsL := [.ref s.heap.size, .int (Int32.ofNat N.slots.size)]) (rest := [.ref a]) rfl rfl (by show 2 * 0 + (1 + 0) ≤ _; decide) (hb hbytes d45) (⟨rfl, n1⟩)
  obtain ⟨rfl, q11⟩ := E11
  have hB11 := hB1.mv (X8.warmed.alike.symm.trans X11.warmed.alike) q11
  have c12 : Steps p.tables e below (s₁.setTop (entryFrame m #[.ref a, .ref b, .int (Int32.ofNat o), .int (Int32.ofNat len), .null] 6)) (T11.setTop (mkF m 48 #[.val (.ref a), .val (.ref b), .val (.int (Int32.ofNat o)), .val (.int (Int32.ofNat len)), .val .null, .val (.ref s.heap.size)] [.int 0, .ref a])) := g11
  obtain ⟨T13, X13, p13, bl13, sl13, st13⟩ := X11.finit hexec hown (wk W (.fieldLink "java/lang/String" 15 "java/lang/String" "coder" "B")) (Or.inr ⟨_, (wk W (.laysFinal "java/lang/String" "java/lang/String" "coder" "B"))⟩) (Or.inl ⟨rfl, hnm⟩) f2 (Or.inl rfl) hB11 (t := .byte) (by decide +kernel) rfl (g := (mkF m 48 #[.val (.ref a), .val (.ref b), .val (.int (Int32.ofNat o)), .val (.int (Int32.ofNat len)), .val .null, .val (.ref s.heap.size)] [.int 0, .ref a])) rfl (rest := []) rfl (hb hbytes d48)
  have c14 : Steps p.tables e below (s₁.setTop (entryFrame m #[.ref a, .ref b, .int (Int32.ofNat o), .int (Int32.ofNat len), .null] 6)) (T13.setTop (mkF m 54 #[.val (.ref a), .val (.ref b), .val (.int (Int32.ofNat o)), .val (.int (Int32.ofNat len)), .val .null, .val (.ref s.heap.size)] [.ref s.heap.size, .ref a])) := (c12.trans (st13 _ (Steps.refl _))).trans (by
    refine XS.aloadN X13.here hexec rfl (hb hbytes d51) rfl rfl ?_
    refine XS.aload X13.here hexec rfl (hb hbytes d52) rfl rfl ?_
    exact Steps.refl _)
  obtain ⟨T15, X15, p15, bl15, sl15, st15⟩ := X13.finit hexec hown (wk W (.fieldLink "java/lang/String" 9 "java/lang/String" "value" "[B")) (Or.inr ⟨_, (wk W (.laysFinal "java/lang/String" "java/lang/String" "value" "[B"))⟩) (Or.inl ⟨rfl, hnm⟩) f1 (Or.inl rfl) bl13 (t := (.array .byte)) (by decide +kernel) rfl (g := (mkF m 54 #[.val (.ref a), .val (.ref b), .val (.int (Int32.ofNat o)), .val (.int (Int32.ofNat len)), .val .null, .val (.ref s.heap.size)] [.ref s.heap.size, .ref a])) rfl (rest := []) rfl (hb hbytes d54)
  have c16 : Steps p.tables e below (s₁.setTop (entryFrame m #[.ref a, .ref b, .int (Int32.ofNat o), .int (Int32.ofNat len), .null] 6)) (T15.setTop (mkF m 57 #[.val (.ref a), .val (.ref b), .val (.int (Int32.ofNat o)), .val (.int (Int32.ofNat len)), .val .null, .val (.ref s.heap.size)] [])) := c14.trans (st15 _ (Steps.refl _))
  have ap := apart (Or.inr ⟨_, (wk W (.laysFinal "java/lang/String" "java/lang/String" "value" "[B"))⟩) (Or.inr ⟨_, (wk W (.laysFinal "java/lang/String" "java/lang/String" "coder" "B"))⟩) f1 f2 (t₁ := .array .byte) (t₂ := .byte) (by decide +kernel) (by decide +kernel) (by decide)
  have al := X8.warmed.alike.symm.trans X15.warmed.alike
  have n7 : T11.heap[s.heap.size]? = some N := by rw [q11]; exact n1.1
  exact ⟨T15, none, _, _, _, X15, by simp, rfl, by omega, (fun _ => rfl), ⟨rfl, _, N, bl15, ((Same.refl D _).set _ (by simp)).set _ (by simp), sl15, (Cell.slots_setSlot_ne _ ap).trans sl13, n1.keep al (p15.other hne (p13.other hne n7)), n2, by rw [al.findClass]; exact n3, n4, n5, fun y c h1 h2 => p15.other h1 (p13.other h1 (by rw [q11]; exact n6 y c h2)), by rw [p15.2.2, p13.2.2, q11]; exact z8⟩, fun fs hl => c16.trans (X15.returnOut hexec hret (hb hbytes d57) hl)⟩
end New4
namespace New1
def yN : MethodName := ⟨"java/lang/String", "<init>", "([C)V"⟩
abbrev yB : ByteArray := jdk_42_method_3_code
theorem d0 : decode yB 0 = .ok (.aload_n 0, 1) := by decide +kernel
theorem d1 : decode yB 1 = .ok (.aload_n 1, 1) := by decide +kernel
theorem d2 : decode yB 2 = .ok (.iconst 0, 1) := by decide +kernel
theorem d3 : decode yB 3 = .ok (.aload_n 1, 1) := by decide +kernel
theorem d4 : decode yB 4 = .ok (.arraylength, 1) := by decide +kernel
theorem d5 : decode yB 5 = .ok (.aconst_null, 1) := by decide +kernel
theorem d6 : decode yB 6 = .ok (.invokespecial 27, 3) := by decide +kernel
theorem d9 : decode yB 9 = .ok (.return_, 1) := by decide +kernel
def site : List Cond := [New4.tab] ++ initW "java/lang/String" 27 New4.yN
def tab : Cond := tabOf yN yB 2 none site
def P (a : Addr) (D : Cell) (fV fC : Field) (b : Addr) (A : Cell) (z : Int32) (args : Array Value) (s : State) : Prop := args = #[.ref a, .ref b] ∧ Blank "java/lang/String" a D s ∧ Found "java/lang/String" "value" "[B" fV s ∧ Found "java/lang/String" "coder" "B" fC s ∧ Ch b A s ∧ StaticIs s "java/lang/String" "COMPACT_STRINGS" "Z" (.int z) ∧ ¬ z = 0 ∧ 0 < A.slots.size ∧ A.slots.size ≤ 536870912 ∧ ∀ i, i < A.slots.size → ¬ 255 < cv A i
def E (a : Addr) (D : Cell) (fV fC : Field) (A : Cell) (r : Option Value) (s u : State) : Prop := Got a D fV fC A 0 A.slots.size r s u
/-- new String(chars), not empty, no char above 255: a Latin-1 String of their low bytes -/
theorem law (l : Launch) (a : Addr) (D : Cell) (fV fC : Field) (b : Addr) (A : Cell) (z : Int32) : Law l yN 2 1 3 52 yB 2 none site (P a D fV fC b A z) (E a D fV fC A) [⟨a, fC.slot⟩, ⟨a, fV.slot⟩] 1 A.slots.size := by
  refine Law.of_walk (plainFor_of_name (by decide +kernel)) (by decide +kernel) (by decide +kernel) (by decide) (fun _ _ h => by rw [h.1]; rfl) (fun _ U U' hal hh h => ⟨h.1, h.2.1.mv hal hh, h.2.2.1.al hal, h.2.2.2.1.al hal, h.2.2.2.2.1.mv hal hh, h.2.2.2.2.2.1.there hal hh, h.2.2.2.2.2.2⟩) (fun r U U' V V' h1 hal h2 h => Got.mv r U U' V V' h1 hal h2 h) ?_
  intro p e s m args below meth c s₁ X0 hexec hbytes hml hret hlk hnm hown hh0 W hP
  obtain ⟨rfl, hB, f1, f2, hA, s1, hz, l0, l2, hp⟩ := hP
  have c1 : Steps p.tables e below (s₁.setTop (entryFrame m #[.ref a, .ref b] 2)) (s₁.setTop (mkF m 0 #[.val (.ref a), .val (.ref b)] [])) := entry rfl
  have c2 : Steps p.tables e below (s₁.setTop (entryFrame m #[.ref a, .ref b] 2)) (s₁.setTop (mkF m 6 #[.val (.ref a), .val (.ref b)] [.null, .int (Int32.ofNat A.slots.size), .int 0, .ref b, .ref a])) := c1.trans (by
    refine XS.aloadN X0.here hexec rfl (hb hbytes d0) rfl rfl ?_
    refine XS.aloadN X0.here hexec rfl (hb hbytes d1) rfl rfl ?_
    refine iconstV X0.here hexec rfl 0 (hb hbytes d2) (by decide) ?_
    refine XS.aloadN X0.here hexec rfl (hb hbytes d3) rfl rfl ?_
    refine X0.alen hexec (hA.1.mv X0.warmed.alike hh0) rfl rfl (hb hbytes d4) ?_
    refine XS.aconstNull X0.here hexec rfl (hb hbytes d5) ?_
    exact Steps.refl _)
  obtain ⟨v3, T3, X3, E3, g3⟩ := X0.callN hexec (New4.law l a D fV fC b A z 0 A.slots.size) rfl hown (wks W (initW "java/lang/String" 27 New4.yN)) (W New4.tab (by simp only [site, List.mem_cons, List.mem_append, true_or, or_true])) (W := 0) (Nat.le_of_ble_eq_true rfl) (Nat.le_of_ble_eq_true rfl) (Nat.le_refl _) (by show 0 + A.slots.size ≤ A.slots.size; omega) (g := (mkF m 6 #[.val (.ref a), .val (.ref b)] [.null, .int (Int32.ofNat A.slots.size), .int (Int32.ofNat 0), .ref b, .ref a])) rfl (by rw [hml]; rfl) c2 (argsL := [.ref b, .int (Int32.ofNat 0), .int (Int32.ofNat A.slots.size), .null]) (rest := []) rfl rfl (by show 2 * 0 + 0 ≤ _; decide) (hb hbytes d6) (⟨rfl, hB.mv X0.warmed.alike hh0, f1.al X0.warmed.alike, f2.al X0.warmed.alike, hA.mv X0.warmed.alike hh0, s1.there X0.warmed.alike hh0, hz, l0, by omega, l2, fun i hi => by rw [Nat.zero_add]; exact hp i hi⟩)
  have e0 := Got.mv _ s₁ s _ _ hh0.symm (Vm.Alike.refl _) rfl E3
  obtain rfl := e0.1
  have c4 : Steps p.tables e below (s₁.setTop (entryFrame m #[.ref a, .ref b] 2)) (T3.setTop (mkF m 9 #[.val (.ref a), .val (.ref b)] [])) := g3
  exact ⟨T3, none, _, _, _, X3, by simp, rfl, by omega, (fun _ => rfl), e0, fun fs hl => c4.trans (X3.returnOut hexec hret (hb hbytes d9) hl)⟩
theorem pays {l : Launch} {R : Room} {p : Program} {e : Env} {below : List Frame} {s : State} {sargs : Array Value} {len W : Nat} (a : Addr) (D : Cell) (fV fC : Field) (b : Addr) (A : Cell) (z : Int32) (htab : tab.before sargs s = true) (hfr : 4 ≤ R.frames) (hlo : W + 65 ≤ R.locals) :
    Back l R p e below s sargs yN len W (fun A₁ a₁ => A₁.cells + 1 ≤ R.cells ∧ A₁.slots + A.slots.size ≤ R.slots ∧ P a D fV fC b A z a₁ A₁.U) (fun A₁ _ v₁ B₁ => E a D fV fC A v₁ A₁.U B₁.U ∧ B₁.locs = A₁.locs ++ [⟨a, fC.slot⟩, ⟨a, fV.slot⟩] ∧ B₁.cells = A₁.cells + 1 ∧ B₁.slots = A₁.slots + A.slots.size) :=
  (law l a D fV fC b A z).pays htab hfr (by omega)
end New1
end StrChars
namespace StrChars.Road
open Jvm Sem ClassFile Op Lib Jvm.Stand Jvm.Free Jvm.Free.XT
open Jvm.Lib.Cold (StaticIs)
abbrev ST : String := "java/lang/String"
/-- every table word that New1's law asks, flat -/
abbrev words : List Jvm.Cond := [.code New1.yN New1.yB 2 none, .initialized ST, .methodLink ST 27 New4.yN, .instanceMethod New4.yN,
  .code New4.yN New4.yB 6 none, .fieldLink ST 38 ST "COMPACT_STRINGS" "Z", .laysFinal ST ST "value" "[B", .fieldLink ST 9 ST "value" "[B", .laysFinal ST ST "coder" "B", .fieldLink ST 15 ST "coder" "B",
  .methodLink ST 1 Lib.objectInit, .instanceMethod Lib.objectInit, .code Lib.objectInit ⟨#[0xb1]⟩ 1 none, .methodLink ST 177 Cmp3.yN, .static Cmp3.yN, .methodLink ST 47 CodL.yN, .static CodL.yN,
  .code Cmp3.yN Cmp3.yB 6 (some (.array .byte)), .initialized U16, .arrayClass .byte, .methodLink U16 115 Cmp5.yN, .static Cmp5.yN, .code Cmp5.yN Cmp5.yB 7 (some .int), .code CodL.yN CodL.yB 2 (some .byte)]
theorem tab_of {a : Array Value} {s : State} (h : ∀ w ∈ words, w.before a s = true) : New1.tab.before a s = true := by
  have h5 : Cmp5.tab.before a s = true := unparts (wk h (.code Cmp5.yN Cmp5.yB 7 (some .int))) (wks h (.initialized Cmp5.yN.cls :: Cmp5.site))
  have hc : CodL.tab.before a s = true := unparts (wk h (.code CodL.yN CodL.yB 2 (some .byte))) (wks h (.initialized CodL.yN.cls :: CodL.site))
  have q5 : ∀ w ∈ Cmp5.tab :: words, w.before a s = true := fun w hw => (List.mem_cons.mp hw).elim (fun e => e ▸ h5) (h w)
  have h3 : Cmp3.tab.before a s = true := unparts (wk q5 (.code Cmp3.yN Cmp3.yB 6 (some (.array .byte)))) (wks q5 (.initialized Cmp3.yN.cls :: Cmp3.site))
  have q3 : ∀ w ∈ Cmp3.tab :: CodL.tab :: words, w.before a s = true := fun w hw => (List.mem_cons.mp hw).elim (fun e => e ▸ h3) fun hw => (List.mem_cons.mp hw).elim (fun e => e ▸ hc) (h w)
  have h4 : New4.tab.before a s = true := unparts (wk q3 (.code New4.yN New4.yB 6 none)) (wks q3 (.initialized New4.yN.cls :: New4.site))
  have q4 : ∀ w ∈ New4.tab :: words, w.before a s = true := fun w hw => (List.mem_cons.mp hw).elim (fun e => e ▸ h4) (h w)
  exact unparts (wk q4 (.code New1.yN New1.yB 2 none)) (wks q4 (.initialized New1.yN.cls :: New1.site))
/-- the words ride from the start Z to the walk's own state -/
theorem moved {Z s : State} {a0 args : Array Value} (hZ : Z.Warmed39 s.vm) (hw : ∀ d ∈ words, d.before a0 Z = true) : ∀ d ∈ words, d.before args s = true := fun d hd => by
  have q := hw d hd
  have t : ∀ d ∈ words, d = .arrayClass .byte ∨ (d.onTables && d.keepsFace) = true := by decide +kernel
  rcases t d hd with rfl | t
  · exact RoadKit.mvA hZ q
  · exact RoadKit.mv hZ q t
/-- WHAT COMES BACK, over the tables of the start Z: h the heap at the call, h' behind it -/
def Q (Z : State) (x : Addr) (A : Cell) (h : Heap) (v : Option Value) (h' : Heap) (L : List Loc) : Prop := v = none ∧ (∀ y ∈ L, y.base = x) ∧ RoadKit.Keep h h' [x] ∧ h'.size = h.size + 1 ∧ RoadKit.Exa Z h' x ST ∧ RoadKit.Fld Z h' x ST "value" "[B" (.ref h.size) ∧ RoadKit.Fld Z h' x ST "coder" "B" (.int 0) ∧
  (∃ V : Cell, RoadKit.Arr Z h' h.size V .byte ∧ V.vm = .none ∧ Z.vm.findClass "[B" = some V.cls ∧ V.slots.size = A.slots.size ∧ ∀ j, j < A.slots.size → V.slots[j]? = some (.int (lo8 (cv A j)))) ∧
  ∀ (O n d : String) (w : Value), RoadKit.Fld Z h x O n d w → RoadKit.slotOf Z O n d ≠ RoadKit.slotOf Z ST "value" "[B" → RoadKit.slotOf Z O n d ≠ RoadKit.slotOf Z ST "coder" "B" → RoadKit.Fld Z h' x O n d w
/-- **new String(chars) AT A CALL, IN THE ROAD'S FORM**: for specialBack behind newO: x the fresh String, b the char[] with the cell A -/
theorem back {p : Program} {l : Launch} {e : Env} {R : Room} {s : State} {args : Array Value} {below : List Frame} {len W : Nat} {Z : State} {a0 : Array Value} {h : Heap} (hZ : Z.Warmed39 s.vm) (hw : ∀ d ∈ words, d.before a0 Z = true) {kI : Nat} (wi : (Jvm.Cond.instantiable ST kI).before a0 Z = true)
    {x b : Addr} {A : Cell} {z : Int32} {v0 c0 : Value} (E : RoadKit.Exa Z h x ST) (V : RoadKit.Fld Z h x ST "value" "[B" v0) (C : RoadKit.Fld Z h x ST "coder" "B" c0) (K : RoadKit.Arr Z h b A .char) (hty : Typed .char A) (S : RoadKit.Sta Z h ST "COMPACT_STRINGS" "Z" (.int z)) (hz : ¬ z = 0)
    (l0 : 0 < A.slots.size) (l2 : A.slots.size ≤ 536870912) (hp : ∀ i, i < A.slots.size → ¬ 255 < cv A i) (hfr : 4 ≤ R.frames) (hlo : W + 65 ≤ R.locals) :
    Back l R p e below s args New1.yN len W (fun P a => a = #[.ref x, .ref b] ∧ P.U.heap = h ∧ P.cells + 1 ≤ R.cells ∧ P.slots + A.slots.size ≤ R.slots)
      (fun P _ v B => ∃ L, Q Z x A h v B.U.heap L ∧ B.locs = P.locs ++ L ∧ B.cells = P.cells + 1 ∧ B.slots = P.slots + A.slots.size) := by
  intro m meth c P g ig mk a X hg hsize hdg hW hn hp'
  obtain ⟨rfl, rfl, r1, r2⟩ := hp'
  have al : Z.vm.Alike P.U.vm := hZ.alike.trans X.warmed.alike
  obtain ⟨D, cfV, kV, iV, fV, hD, gV, stV, knV, obV, asV, slV⟩ := id V
  obtain ⟨D', cfC, kC, iC, fC, hD', gC, stC, -, -, asC, slC⟩ := id C
  cases hD.symm.trans hD'
  obtain ⟨D2, kD, e1, e2, e3, e4, e5⟩ := id E
  cases hD.symm.trans e1
  obtain ⟨c2, k2, i1, i2, i3, -⟩ := Cond.instantiable_spec wi
  cases e2.symm.trans i1
  cases e3.symm.trans i2
  obtain ⟨kU, u1, u2⟩ := al.2.2 _ _ e3
  have hB : Blank ST x D P.U := ⟨hD, ⟨knV, fun q hq => by rw [hq] at obV; cases obV⟩, by rw [al.findClass]; exact e2, kU, u1, by rw [u2]; exact i3, by rw [u2]; exact e5 i3⟩
  have F1 : Found ST "value" "[B" fV P.U := ⟨SBG.found_only al ⟨cfV, kV, iV, gV⟩, stV⟩
  have F2 : Found ST "coder" "B" fC P.U := ⟨SBG.found_only al ⟨cfC, kC, iC, gC⟩, stC⟩
  have hA : Ch b A P.U := ⟨⟨K.1, State.isArrayOf_alike al K.2.1, K.2.2, by omega⟩, hty⟩
  have hS : StaticIs P.U ST "COMPACT_STRINGS" "Z" (.int z) := by
    obtain ⟨cfS, iS, kS, fS, st, cS, t1, t2, t3, t4, t5, t6, t7⟩ := S
    exact StaticIs.there (s := { Z with heap := P.U.heap }) ⟨cfS, iS, kS, fS, st, cS, t1, t2, t3, t4, t5, (fun q => by rw [q] at t6; cases t6), t7⟩ al rfl
  obtain ⟨v, B, X', ⟨⟨hv, E', V', q1, q2, q3, q4, q5, q6, q7, q8, q9, q10, q11⟩, hl, hc, hs⟩, st⟩ := New1.pays x D fV fC b A z (tab_of (moved hZ hw)) hfr hlo m meth c P g ig mk _ X hg hsize hdg hW hn ⟨r1, r2, rfl, hB, F1, F2, hA, hS, hz, l0, l2, hp⟩
  have al' : Z.vm.Alike B.U.vm := hZ.alike.trans X'.warmed.alike
  have hsz : E'.slots.size = D.slots.size := by
    obtain ⟨-, -, -, kB, w1, w2, w3⟩ := q1
    obtain ⟨kB', y1, y2⟩ := al'.2.2 _ _ e3
    rw [q2.2.1] at w1
    cases w1.symm.trans y1
    rw [w3, e5 i3, y2]
  refine ⟨v, B, X', ⟨_, ⟨hv, ?_, ⟨by omega, fun y cy hy hn' => q10 y cy (by simpa using hn') hy, fun y cy hy => ?_⟩, q11, ⟨E', _, q1.1, by rw [q2.2.1]; exact e2, by rw [q2.2.1]; exact e3, by rw [q2.1]; exact obV, fun _ => by rw [hsz]; exact e5 i3⟩,
    ⟨E', cfV, kV, iV, fV, q1.1, gV, stV, by rw [q2.1]; exact knV, by rw [q2.1]; exact obV, by rw [q2.2.1]; exact asV, q3⟩, ⟨E', cfC, kC, iC, fC, q1.1, gC, stC, by rw [q2.1]; exact knV, by rw [q2.1]; exact obV, by rw [q2.2.1]; exact asC, q4⟩,
    ⟨V', ⟨q5.1, State.isArrayOf_alike al'.symm q5.2.1, q5.2.2.1⟩, q6, by rw [← al'.findClass]; exact q7, q8, fun j hj => by have := q9 j hj; rwa [Nat.zero_add] at this⟩, fun O n d w F n1 n2 => ?_⟩, hl, hc, hs⟩, st⟩
  · intro y hy
    simp only [List.mem_cons, List.not_mem_nil, or_false] at hy
    rcases hy with rfl | rfl <;> rfl
  · by_cases q : y = x
    · subst q
      cases hD.symm.trans hy
      exact ⟨E', q1.1, q2.2.1, q2.1, hsz⟩
    · exact ⟨cy, q10 y cy q hy, rfl, rfl, rfl⟩
  · obtain ⟨D3, cf, k, i, f, g1, g2, g3, g4, g5, g6, g7⟩ := F
    cases hD.symm.trans g1
    simp only [RoadKit.slotOf, g2, gV, gC, Option.map_some, Option.getD_some] at n1 n2
    exact ⟨E', cf, k, i, f, q1.1, g2, g3, by rw [q2.1]; exact g4, by rw [q2.1]; exact g5, by rw [q2.2.1]; exact g6, by rw [q2.2.2 f.slot (by simp [n1, n2])]; exact g7⟩
end StrChars.Road
namespace StrChars.Road
open Jvm Sem ClassFile Op Lib Jvm.Stand Jvm.Free Jvm.Free.XT
/-- WHAT COMES BACK, the byte[] as a list of values -/
def QA (Z : State) (x : Addr) (zn : Int32) (cs : List Int32) (h : Heap) (v : Option Value) (h' : Heap) (L : List Loc) : Prop := v = none ∧ (∀ y ∈ L, y.base = x) ∧ RoadKit.Keep h h' [x] ∧ h'.size = h.size + 1 ∧ RoadKit.Exa Z h' x ST ∧ RoadKit.Fld Z h' x ST "value" "[B" (.ref h.size) ∧ RoadKit.Fld Z h' x ST "coder" "B" (.int 0) ∧
  (∃ kb, Z.vm.findClass "[B" = some kb ∧ RoadKit.Arv Z h' h.size kb .byte zn (cs.map fun c => .int (lo8 c)) (.int 0)) ∧
  ∀ (O n d : String) (w : Value), RoadKit.Fld Z h x O n d w → RoadKit.slotOf Z O n d ≠ RoadKit.slotOf Z ST "value" "[B" → RoadKit.slotOf Z O n d ≠ RoadKit.slotOf Z ST "coder" "B" → RoadKit.Fld Z h' x O n d w
/-- **new String(chars) AT A CALL, THE ARRAYS AS LISTS**: the char[] at b holds cs, not empty, no char above 255 -/
theorem backArv {p : Program} {l : Launch} {e : Env} {R : Room} {s : State} {args : Array Value} {below : List Frame} {len W : Nat} {Z : State} {a0 : Array Value} {h : Heap} (hZ : Z.Warmed39 s.vm) (hw : ∀ d ∈ words, d.before a0 Z = true) {kI : Nat} (wi : (Jvm.Cond.instantiable ST kI).before a0 Z = true)
    {x b : Addr} {k : ClassId} {zn z : Int32} {cs : List Int32} {dv v0 c0 : Value} (E : RoadKit.Exa Z h x ST) (V : RoadKit.Fld Z h x ST "value" "[B" v0) (C : RoadKit.Fld Z h x ST "coder" "B" c0) (K : RoadKit.Arv Z h b k .char zn (cs.map Value.int) dv) (S : RoadKit.Sta Z h ST "COMPACT_STRINGS" "Z" (.int z)) (hz : ¬ z = 0)
    (hlen : zn.toNatClampNeg = cs.length) (h0 : 0 < cs.length) (hbig : cs.length ≤ 536870912) (hall : ∀ c ∈ cs, ¬ 255 < c) (hfr : 4 ≤ R.frames) (hlo : W + 65 ≤ R.locals) :
    Back l R p e below s args New1.yN len W (fun P a => a = #[.ref x, .ref b] ∧ P.U.heap = h ∧ P.cells + 1 ≤ R.cells ∧ P.slots + cs.length ≤ R.slots)
      (fun P _ v B => ∃ L, QA Z x zn cs h v B.U.heap L ∧ B.locs = P.locs ++ L ∧ B.cells = P.cells + 1 ∧ B.slots = P.slots + cs.length) := by
  obtain ⟨A, K1, K2, K3, K4, K5, K6⟩ := K
  have e : A.slots.size = cs.length := K3.trans hlen
  have hat : ∀ (i : Nat) (hi : i < cs.length), A.slots[i]? = some (.int cs[i]) := fun i hi => by rw [K5 i (by omega)]; simp [List.getD_eq_getElem?_getD, hi]
  have hcv : ∀ (i : Nat) (hi : i < cs.length), cv A i = cs[i] := fun i hi => by unfold cv; rw [hat i hi]
  have hty : Typed .char A := fun i v hv => by
    have hi : i < A.slots.size := (Array.getElem?_eq_some_iff.mp hv).1
    have q := K5 i hi
    rw [hv] at q
    rw [Option.some.inj q]
    exact K6 i hi
  refine Back.mono (back hZ hw wi E V C K1 hty S hz (by omega) (by omega) (fun i hi => by rw [hcv i (by omega)]; exact hall _ (List.getElem_mem _)) hfr hlo) (fun P a hp => ⟨hp.1, hp.2.1, hp.2.2.1, by rw [e]; exact hp.2.2.2⟩) (fun P a v B hp hq => ?_)
  obtain ⟨L, ⟨q1, q2, q3, q4, q5, q6, q7, ⟨V', v1, v2, v3, v4, v5⟩, q9⟩, hl, hc, hs⟩ := hq
  refine ⟨L, ⟨q1, q2, q3, q4, q5, q6, q7, ⟨V'.cls, v3, V', v1, rfl, by rw [v4, e, hlen], K4, fun i hi => ?_, fun i hi => ?_⟩, q9⟩, hl, hc, by rw [hs, e]⟩
  · have hi' : i < cs.length := by omega
    rw [v5 i (by omega), hcv i hi']; simp [List.getD_eq_getElem?_getD, hi']
  · have hi' : i < cs.length := by omega
    simp only [List.getD_eq_getElem?_getD, List.getElem?_map, List.getElem?_eq_getElem hi', Option.map_some, Option.getD_some]
    exact fits_lo8 _
end StrChars.Road
namespace StrChars.Road
open Jvm Sem ClassFile Op Lib Jvm.Stand Jvm.Free Jvm.Free.XT
/-- WHAT COMES BACK, in the writer's own shape -/
def QV (Z : State) (x : Addr) (N : Int32) (bs : List Int32) (h : Heap) (n0 : Nat) (v : Option Value) (h' : Heap) (L : List Loc) : Prop := v = none ∧ RoadKit.Fr n0 L ∧ RoadKit.Keep h h' [x] ∧ RoadKit.Exa Z h' x ST ∧ RoadKit.Fld Z h' x ST "coder" "B" (.int 0) ∧
  ∃ (t : Addr) (kb : ClassId), n0 ≤ t ∧ h.size ≤ t ∧ ¬ t = x ∧ RoadKit.Fld Z h' x ST "value" "[B" (.ref t) ∧ RoadKit.Arv Z h' t kb .byte N (bs.map Value.int) (.int 0)
/-- **new String(chars) AT A CALL, FOR THE WRITER**: a char[] of n known ints, each 0 to 255 -/
theorem backV {p : Program} {l : Launch} {e : Env} {R : Room} {s : State} {args : Array Value} {below : List Frame} {len W : Nat} {Z : State} {a0 : Array Value} {h : Heap} (hZ : Z.Warmed39 s.vm) (hw : ∀ d ∈ words, d.before a0 Z = true) {kI : Nat} (wi : (Jvm.Cond.instantiable ST kI).before a0 Z = true)
    {x b : Addr} {kC : ClassId} {cs bs : List Int32} {d v0 c0 : Value} {z N : Int32} {n n0 : Nat} (hx0 : n0 ≤ x) (hh0 : n0 ≤ h.size) (E : RoadKit.Exa Z h x ST) (V : RoadKit.Fld Z h x ST "value" "[B" v0) (C : RoadKit.Fld Z h x ST "coder" "B" c0) (K : RoadKit.Arv Z h b kC .char N (cs.map Value.int) d) (S : RoadKit.Sta Z h ST "COMPACT_STRINGS" "Z" (.int z)) (hz : ¬ z = 0)
    (hn : cs.length = n) (hN : N = Int32.ofNat n) (l0 : 0 < n) (l2 : n ≤ 4000) (hp : ∀ c ∈ cs, ¬ c < 0 ∧ ¬ (255 : Int32) < c) (hb : bs = cs.map (fun c => c.toInt8.toInt32)) (hfr : 4 ≤ R.frames) (hlo : W + 65 ≤ R.locals) :
    Back l R p e below s args (⟨"java/lang/String", "<init>", "([C)V"⟩ : MethodName) len W (fun P a => a = #[.ref x, .ref b] ∧ P.U.heap = h ∧ P.cells + 1 ≤ R.cells ∧ P.slots + n ≤ R.slots)
      (fun P _ v B => ∃ L, QV Z x N bs h n0 v B.U.heap L ∧ B.locs = P.locs ++ L ∧ B.cells = P.cells + 1 ∧ B.slots = P.slots + n) := by
  subst hn hN hb
  refine Back.mono (backArv hZ hw wi E V C K S hz (n32 (by omega)) l0 (by omega) (fun c hc => (hp c hc).2) hfr hlo) (fun P a hp => hp) (fun P a v B hp hq => ?_)
  obtain ⟨L, ⟨q1, q2, q3, q4, q5, q6, q7, ⟨kb, v1, v2⟩, q9⟩, hl, hc, hs⟩ := hq
  exact ⟨L, ⟨q1, fun y hy => by rw [q2 y hy]; exact hx0, q3, q5, q7, h.size, kb, hh0, Nat.le_refl _, Nat.ne_of_gt E.lt, q6, by rw [List.map_map]; exact v2⟩, hl, hc, hs⟩
end StrChars.Road
end Jvm.Pilot.@@N@@
namespace Jvm.Pilot.@@N@@
open Jvm Jvm.ClassFile Sem Op Lib Jvm.Free Jvm.Stand Jvm.LawKit Jvm.RoadKit Bundle Jvm.Pilot.@@N@@.Jvm.D
theorem own_w {a0 : Array Value} {Z : State} (hw : ∀ d ∈ tables_1, d.before a0 Z = true) (i : Nat) {d : Jvm.Cond} (h : tables_1[i]? = some d) : d.before a0 Z = true := hw d (List.mem_of_getElem? h)
section Own
variable {p : Program} {l : Launch} {e : Env} {R : Room} {s : State} {m : MethodId} {args : Array Value} {below : List Frame} {meth : Method} {c : Code} {T T' : State} {locs : List Loc} {cells slots : Nat} {g g' : JFrame} {K : Outcome → State → Prop} {Q : Option Value → Heap → List Loc → Prop} {kc ks : Nat}
/-- from this state, with this frame on top, the run comes to an end at which K holds -/
def own_E (p : Program) (e : Env) (below : List Frame) (K : Outcome → State → Prop) (T : State) (g : JFrame) : Prop :=
  ∃ s₂ o, Steps p.tables e below (T.setTop g) s₂ ∧ s₂.status = .running ∧ Ended s₂ below o ∧ K o s₂
def own_K (Q : Option Value → Heap → List Loc → Prop) (s : State) (kc ks : Nat) : Outcome → State → Prop :=
  fun o U' => ∃ v L, o = .returned v ∧ Q v U'.heap L ∧ FrameEnd s o U' L kc ks
theorem own_st (st : ∀ t, Steps p.tables e below (T'.setTop g') t → Steps p.tables e below (T.setTop g) t) (k : own_E p e below K T' g') : own_E p e below K T g := by
  obtain ⟨s2, o, h1, h2⟩ := k
  exact ⟨s2, o, st _ h1, h2⟩
theorem own_tr (st : Steps p.tables e below (T.setTop g) (T'.setTop g')) (k : own_E p e below K T' g') : own_E p e below K T g :=
  own_st (fun _ h => st.trans h) k
theorem own_pre (q : g = g') (k : own_E p e below K T g') : own_E p e below K T g := q ▸ k
theorem own_end (X : Stand p l e R s m args below meth c T locs cells slots) (hlk : meth.locks = false) {v : Option Value} (hv : meth.sig.returnType = none → v = none)
    (hr : ∀ fs : List Frame, (∀ (f : JFrame) (acts : List Action), f.method = m → f.locked = none → f.entered = [] → (doReturn e (T.setTop f) acts v).1 = T.setFrames fs) → Steps p.tables e below (T.setTop g) (T.setFrames fs))
    (hc : cells ≤ kc) (hs : slots ≤ ks) (hQ : Q v T.heap locs) : own_E p e below (own_K Q s kc ks) T g := by
  obtain ⟨fs, h1, hrun, hended, hW, hsame⟩ := X.leave (v := v) hv hlk
  exact ⟨_, _, hr fs h1, hrun, hended, _, _, rfl, hQ, ⟨_, rfl⟩, hW, hsame.mono hc hs⟩
theorem own_retV (X : Stand p l e R s m args below meth c T locs cells slots) (hx : p.tables.exec = Jvm.exec) (hlk : meth.locks = false) {pc : Nat} {Ls : Array Slot} (hret : meth.sig.returnType = none)
    (hd : decode c.code pc = .ok (.return_, 1)) (hc : cells ≤ kc) (hs : slots ≤ ks) (hQ : Q none T.heap locs) : own_E p e below (own_K Q s kc ks) T (mkF m pc Ls []) :=
  own_end X hlk (fun _ => rfl) (fun fs h => X.returnOut hx hret hd h) hc hs hQ
theorem own_retG (X : Stand p l e R s m args below meth c T locs cells slots) (hx : p.tables.exec = Jvm.exec) (hlk : meth.locks = false) {pc : Nat} {Ls : Array Slot} {w : Value} {t : FieldType} {i : Instr} {rest : List Value} (hret : meth.sig.returnType = some t) (hn : narrow t w = w)
    (hi : (i = .ireturn ∧ (t = .int ∨ t = .boolean ∨ t = .byte ∨ t = .char ∨ t = .short) ∧ ∃ z, w = .int z) ∨ (i = .lreturn ∧ t = .long ∧ ∃ z, w = .long z) ∨ (i = .dreturn ∧ t = .double ∧ ∃ z, w = .double z) ∨ (i = .freturn ∧ t = .float ∧ ∃ z, w = .float z) ∨ (i = .areturn ∧ t.isReference = true ∧ w.isRef = true))
    (hd : decode c.code pc = .ok (i, 1)) (hc : cells ≤ kc) (hs : slots ≤ ks) (hQ : Q (some w) T.heap locs) : own_E p e below (own_K Q s kc ks) T (mkF m pc Ls (w :: rest)) :=
  own_end X hlk (fun h => by rw [hret] at h; cases h) (fun fs h => retOut X hx hret hn hi hd h) hc hs hQ
theorem own_retI (X : Stand p l e R s m args below meth c T locs cells slots) (hx : p.tables.exec = Jvm.exec) (hlk : meth.locks = false) {pc : Nat} {Ls : Array Slot} {z : Int32} {rest : List Value} (hret : meth.sig.returnType = some .int)
    (hd : decode c.code pc = .ok (.ireturn, 1)) (hc : cells ≤ kc) (hs : slots ≤ ks) (hQ : Q (some (.int z)) T.heap locs) : own_E p e below (own_K Q s kc ks) T (mkF m pc Ls (.int z :: rest)) :=
  own_retG X hx hlk hret rfl (Or.inl ⟨rfl, Or.inl rfl, z, rfl⟩) hd hc hs hQ
theorem own_retS (X : Stand p l e R s m args below meth c T locs cells slots) (hx : p.tables.exec = Jvm.exec) (hlk : meth.locks = false) {pc : Nat} {Ls : Array Slot} {z : Int32} {t : FieldType} {rest : List Value} (hret : meth.sig.returnType = some t) (hn : narrow t (.int z) = .int z)
    (ht : t = .int ∨ t = .boolean ∨ t = .byte ∨ t = .char ∨ t = .short) (hd : decode c.code pc = .ok (.ireturn, 1)) (hc : cells ≤ kc) (hs : slots ≤ ks) (hQ : Q (some (.int z)) T.heap locs) : own_E p e below (own_K Q s kc ks) T (mkF m pc Ls (.int z :: rest)) :=
  own_retG X hx hlk hret hn (Or.inl ⟨rfl, ht, z, rfl⟩) hd hc hs hQ
theorem own_retN (X : Stand p l e R s m args below meth c T locs cells slots) (hx : p.tables.exec = Jvm.exec) (hlk : meth.locks = false) {pc : Nat} {Ls : Array Slot} {z : Int32} {t : FieldType} {rest : List Value} (hret : meth.sig.returnType = some t)
    (ht : t = .boolean ∨ t = .byte ∨ t = .char ∨ t = .short) (hd : decode c.code pc = .ok (.ireturn, 1)) (hc : cells ≤ kc) (hs : slots ≤ ks) (hQ : Q (some (.int (nar t z))) T.heap locs) : own_E p e below (own_K Q s kc ks) T (mkF m pc Ls (.int z :: rest)) :=
  own_end X hlk (fun h => by rw [hret] at h; cases h) (fun fs h => retN X hx hret ht hd h) hc hs hQ
theorem own_retJ (X : Stand p l e R s m args below meth c T locs cells slots) (hx : p.tables.exec = Jvm.exec) (hlk : meth.locks = false) {pc : Nat} {Ls : Array Slot} {z : Int64} {rest : List Value} (hret : meth.sig.returnType = some .long)
    (hd : decode c.code pc = .ok (.lreturn, 1)) (hc : cells ≤ kc) (hs : slots ≤ ks) (hQ : Q (some (.long z)) T.heap locs) : own_E p e below (own_K Q s kc ks) T (mkF m pc Ls (.long z :: rest)) :=
  own_retG X hx hlk hret rfl (Or.inr (Or.inl ⟨rfl, rfl, z, rfl⟩)) hd hc hs hQ
theorem own_retA (X : Stand p l e R s m args below meth c T locs cells slots) (hx : p.tables.exec = Jvm.exec) (hlk : meth.locks = false) {pc : Nat} {Ls : Array Slot} {w : Value} {t : FieldType} {rest : List Value} (hret : meth.sig.returnType = some t) (ht : t.isReference = true) (hw : w.isRef = true)
    (hd : decode c.code pc = .ok (.areturn, 1)) (hc : cells ≤ kc) (hs : slots ≤ ks) (hQ : Q (some w) T.heap locs) : own_E p e below (own_K Q s kc ks) T (mkF m pc Ls (w :: rest)) :=
  own_retG X hx hlk hret (by cases w <;> cases t <;> first | rfl | (simp [Value.isRef] at hw) | (simp [FieldType.isReference] at ht)) (Or.inr (Or.inr (Or.inr (Or.inr ⟨rfl, ht, hw⟩)))) hd hc hs hQ
end Own
theorem own_StaK {Z : State} {h h' : Heap} {C n d : String} {v : Value} (F : Sta Z h C n d v) (K : Keep h h' []) : Sta Z h' C n d v := Sta.ext ⟨K.1, fun a c q => K.2.1 a c q nin0⟩ F
section OwnArr
variable {p : Program} {l : Launch} {e : Env} {R : Room} {s : State} {m : MethodId} {args : Array Value} {below : List Frame} {meth : Method} {c : Code} {T : State} {locs : List Loc} {cells slots : Nat} {Z : State} {h : Heap} {a : Addr} {k : ClassId} {z : Int32} {vs : List Value} {dv : Value}
theorem own_alen (X : Stand p l e R s m args below meth c T locs cells slots) (hx : p.tables.exec = Jvm.exec) (hZ : Z.Warmed39 s.vm) (eT : T.heap = h) {ty : FieldType} (F : Arv Z h a k ty z vs dv) {g : JFrame} (hg : g.method = m) {rest : List Value} (hs : g.stack = .ref a :: rest) (hd : decode c.code g.pc = .ok (.arraylength, 1)) :
    ∀ target, Steps p.tables e below (T.setTop { g with pc := g.pc + 1, stack := .int z :: rest }) target → Steps p.tables e below (T.setTop g) target := by
  obtain ⟨cl, A, q, S, N, H, G⟩ := F
  intro target hr
  refine X.arraylength hx (by rw [eT]; exact A.1) (State.isArrayOf_alike hZ.alike A.2.1) hg hs hd _ ?_
  rw [len_of S N]; exact hr
theorem own_ald (X : Stand p l e R s m args below meth c T locs cells slots) (hx : p.tables.exec = Jvm.exec) (hZ : Z.Warmed39 s.vm) (eT : T.heap = h) (F : Arv Z h a k .int z vs dv) {j : Int32} (hj : ¬ j < 0 ∧ j < z) {v : Value} (hv : vs.getD j.toNatClampNeg dv = v) {g : JFrame} (hg : g.method = m) {rest : List Value} (hs : g.stack = .int j :: .ref a :: rest) (hd : decode c.code g.pc = .ok (.iaload, 1)) :
    ∀ target, Steps p.tables e below (T.setTop { g with pc := g.pc + 1, stack := v :: rest }) target → Steps p.tables e below (T.setTop g) target := by
  obtain ⟨cl, A, q, S, N, H, G⟩ := F
  have hin := inb_of S hj
  exact X.iaload hx (by rw [eT]; exact A.1) (State.isArrayOf_alike hZ.alike A.2.1) A.2.2 hin (H.at hin hv) hg hs hd
theorem own_ast (X : Stand p l e R s m args below meth c T locs cells slots) (hx : p.tables.exec = Jvm.exec) (hZ : Z.Warmed39 s.vm) (eT : T.heap = h) (F : Arv Z h a k .int z vs dv) {j : Int32} (hj : ¬ j < 0 ∧ j < z) {x : Int32} {i : Nat} (hi : j.toNatClampNeg = i) (hl : i < vs.length) {g : JFrame} (hg : g.method = m) {rest : List Value} (hs : g.stack = .int x :: .int j :: .ref a :: rest) (hd : decode c.code g.pc = .ok (.iastore, 1)) :
    ∃ T' h', Stand p l e R s m args below meth c T' (locs ++ [⟨a, j.toNatClampNeg⟩]) cells slots ∧ T'.heap = h' ∧ Wr h h' a j.toNatClampNeg (.int x) ∧ Arv Z h' a k .int z (vs.set i (.int x)) dv ∧ ∀ target, Steps p.tables e below (T'.setTop { g with pc := g.pc + 1, stack := rest }) target → Steps p.tables e below (T.setTop g) target := by
  obtain ⟨cl, A, q, S, N, H, G⟩ := F
  have hin := inb_of S hj
  obtain ⟨T', h', X', e', W, st⟩ := stI X hx hZ eT A hin hg hs hd
  exact ⟨T', h', X', e', W, Arv.set A q S N H G rfl W i hi hl, st⟩
theorem own_cst (X : Stand p l e R s m args below meth c T locs cells slots) (hx : p.tables.exec = Jvm.exec) (hZ : Z.Warmed39 s.vm) (eT : T.heap = h) (F : Arv Z h a k .char z vs dv) {j : Int32} (hj : ¬ j < 0 ∧ j < z) {x : Int32} {i : Nat} (hi : j.toNatClampNeg = i) (hl : i < vs.length) {g : JFrame} (hg : g.method = m) {rest : List Value} (hs : g.stack = .int x :: .int j :: .ref a :: rest) (hd : decode c.code g.pc = .ok (.castore, 1)) :
    ∃ T' h', Stand p l e R s m args below meth c T' (locs ++ [⟨a, j.toNatClampNeg⟩]) cells slots ∧ T'.heap = h' ∧ Wr h h' a j.toNatClampNeg (.int (nar .char x)) ∧ Arv Z h' a k .char z (vs.set i (.int (nar .char x))) dv ∧ ∀ target, Steps p.tables e below (T'.setTop { g with pc := g.pc + 1, stack := rest }) target → Steps p.tables e below (T.setTop g) target := by
  obtain ⟨cl, A, q, S, N, H, G⟩ := F
  have hin := inb_of S hj
  obtain ⟨T', h', X', e', W, st⟩ := stC X hx hZ eT A hin hg hs hd
  exact ⟨T', h', X', e', W, Arv.set A q S N H G (fits_nar_char _) W i hi hl, st⟩
end OwnArr
theorem own_words {a0 : Array Value} {Z : State} (hw : ∀ d ∈ tables_1, d.before a0 Z = true) : ∀ d ∈ StrChars.Road.words, d.before a0 Z = true := fun d hd => hw d ((by decide +kernel : ∀ d ∈ StrChars.Road.words, d ∈ tables_1) d hd)
section OwnWide
variable {p : Program} {l : Launch} {e : Env} {R : Room} {s : State} {vm₁ : Vm} {m : MethodId} {args : Array Value} {below : List Frame} {meth : Method} {c : Code} {T : State} {locs : List Loc} {cells slots : Nat} {g : JFrame} {Q : Option Value → Heap → List Loc → Prop} {kc ks n : Nat}
theorem own_Zw {Z : State} (hZ : Z.Warmed39 s.vm) (hS : s.Since vm₁ n) : Z.Warmed39 (s.setVm vm₁).vm := State.Warmed39.trans hZ hS.1
theorem own_ow {own : String} {k : ClassId} (ho : s.vm.findClass own = some k) (hS : s.Since vm₁ n) : (s.setVm vm₁).vm.findClass own = some k := by
  rw [show (s.setVm vm₁).vm = vm₁ from rfl, hS.1.alike.findClass]; exact ho
def own_KW (Q : Option Value → Heap → List Loc → Prop) (s : State) (kc ks : Nat) : Outcome → State → Prop :=
  fun o U' => ∃ v L, o = .returned v ∧ Q v U'.heap L ∧ ReturnedEndW s o U' L kc ks
theorem own_since (s : State) : s.Since s.vm 0 := (State.WarmedH.refl s).since 0
theorem own_wS {a0 : Array Value} {Z : State} (hw : ∀ d ∈ tables_1, d.before a0 Z = true) : ∀ a ∈ Bundle.stringAtoms, a.before a0 Z = true := by
  intro a ha
  simp only [Bundle.stringAtoms, List.mem_cons, List.not_mem_nil, or_false] at ha
  rcases ha with rfl | rfl | rfl | rfl | rfl | rfl | rfl
  · exact own_w hw 3 rfl
  · exact own_w hw 2 rfl
  · exact own_w hw 15 rfl
  · exact own_w hw 16 rfl
  · exact own_w hw 17 rfl
  · exact own_w hw 18 rfl
  · exact own_w hw 19 rfl
theorem own_endW (X : Stand p l e R (s.setVm vm₁) m args below meth c T locs cells slots) (hS : s.Since vm₁ n) (hn : n ≤ T.heap.size) (hlk : meth.locks = false) {v : Option Value} (hv : meth.sig.returnType = none → v = none)
    (hr : ∀ fs : List Frame, (∀ (f : JFrame) (acts : List Action), f.method = m → f.locked = none → f.entered = [] → (doReturn e (T.setTop f) acts v).1 = T.setFrames fs) → Steps p.tables e below (T.setTop g) (T.setFrames fs))
    (hc : cells ≤ kc) (hs : slots ≤ ks) (hQ : Q v T.heap locs) : own_E p e below (own_KW Q s kc ks) T g := by
  obtain ⟨fs, h1, hrun, hended, q1, q2, q3, q4⟩ := X.leaveW hS hn (v := v) hv hlk
  exact ⟨_, _, hr fs h1, hrun, hended, _, _, rfl, hQ, q1, q2, q3, q4.mono hc hs⟩
theorem own_retVW (X : Stand p l e R (s.setVm vm₁) m args below meth c T locs cells slots) (hS : s.Since vm₁ n) (hn : n ≤ T.heap.size) (hx : p.tables.exec = Jvm.exec) (hlk : meth.locks = false) {pc : Nat} {Ls : Array Slot} (hret : meth.sig.returnType = none)
    (hd : decode c.code pc = .ok (.return_, 1)) (hc : cells ≤ kc) (hs : slots ≤ ks) (hQ : Q none T.heap locs) : own_E p e below (own_KW Q s kc ks) T (mkF m pc Ls []) :=
  own_endW X hS hn hlk (fun _ => rfl) (fun fs h => X.returnOut hx hret hd h) hc hs hQ
theorem own_retSW (X : Stand p l e R (s.setVm vm₁) m args below meth c T locs cells slots) (hS : s.Since vm₁ n) (hn : n ≤ T.heap.size) (hx : p.tables.exec = Jvm.exec) (hlk : meth.locks = false) {pc : Nat} {Ls : Array Slot} {z : Int32} {t : FieldType} {rest : List Value} (hret : meth.sig.returnType = some t) (hn' : narrow t (.int z) = .int z)
    (ht : t = .int ∨ t = .boolean ∨ t = .byte ∨ t = .char ∨ t = .short) (hd : decode c.code pc = .ok (.ireturn, 1)) (hc : cells ≤ kc) (hs : slots ≤ ks) (hQ : Q (some (.int z)) T.heap locs) : own_E p e below (own_KW Q s kc ks) T (mkF m pc Ls (.int z :: rest)) :=
  own_endW X hS hn hlk (fun h => by rw [hret] at h; cases h) (fun fs h => retOut X hx hret hn' (Or.inl ⟨rfl, ht, z, rfl⟩) hd h) hc hs hQ
theorem own_retAW (X : Stand p l e R (s.setVm vm₁) m args below meth c T locs cells slots) (hS : s.Since vm₁ n) (hn : n ≤ T.heap.size) (hx : p.tables.exec = Jvm.exec) (hlk : meth.locks = false) {pc : Nat} {Ls : Array Slot} {w : Value} {t : FieldType} {rest : List Value} (hret : meth.sig.returnType = some t) (ht : t.isReference = true) (hw : w.isRef = true)
    (hd : decode c.code pc = .ok (.areturn, 1)) (hc : cells ≤ kc) (hs : slots ≤ ks) (hQ : Q (some w) T.heap locs) : own_E p e below (own_KW Q s kc ks) T (mkF m pc Ls (w :: rest)) :=
  own_endW X hS hn hlk (fun h => by rw [hret] at h; cases h) (fun fs h => retOut X hx hret (by cases w <;> cases t <;> first | rfl | (simp [Value.isRef] at hw) | (simp [FieldType.isReference] at ht)) (Or.inr (Or.inr (Or.inr (Or.inr ⟨rfl, ht, hw⟩)))) hd h) hc hs hQ
end OwnWide

theorem own_IB {Z s : State} {vm₁ : Vm} {Ts : List String} (h : s.WarmedH vm₁) (I : IB Z s.vm Ts) : IB Z vm₁ Ts := by
  obtain ⟨more, h1, h2⟩ := I
  exact ⟨more, by rw [h.interned_eq, h1], h2⟩
theorem own_ExtK {z h h' : Heap} (E : Ext z h) (K : Keep h h' []) : Ext z h' := ⟨Nat.le_trans E.1 K.1, fun a c q => K.2.1 a c (E.2 a c q) nin0⟩
theorem own_backI {p : Program} {l : Launch} {e : Env} {R : Room} {s : State} {args : Array Value} {below : List Frame} {Z : State} {a0 : Array Value} {h : Heap} {y : MethodName} {bytes : ByteArray} {maxL : Nat} {ret : Option FieldType} {rm : Room} {len W : Nat} {as' : Array Value} {Ts : List String} {Q : Option Value → Heap → List Loc → Prop}
    (hM : MetFree l y (head1 [Cond.code y bytes maxL ret] rm) (fun a U => a = as' ∧ Z.Warmed39 U.vm ∧ IB Z U.vm Ts ∧ U.heap = h) (fun _ _ _ _ _ => True) (fun _ U o U' => ∃ v L, o = .returned v ∧ Q v U'.heap L ∧ ReturnedEndW U o U' L rm.cells rm.slots))
    (hZ : Z.Warmed39 s.vm) (hI : IB Z s.vm Ts) (wc : (Cond.code y bytes maxL ret).before a0 Z = true) (wz : (Cond.initialized y.cls).before a0 Z = true) (hf : rm.frames + 1 ≤ R.frames) (hl : W + (maxL + 11) + rm.locals ≤ R.locals) :
    BackS l R p e below s args y len W (fun A a => a = as' ∧ A.U.heap = h ∧ A.cells + rm.cells ≤ R.cells ∧ A.slots + rm.slots ≤ R.slots)
      (fun A _ v B => ∃ L, Q v B.U.heap L ∧ B.locs = A.locs ++ L ∧ B.cells = A.cells + rm.cells ∧ B.slots = A.slots + rm.slots) :=
  BackS.of_freeW (bytes := bytes) (maxL := maxL) (ret := ret) (E := fun _ _ o t L k n => k = rm.cells ∧ n = rm.slots ∧ ∃ v, o = .returned v ∧ Q v t.heap L) hM hf hl
    (fun _ _ _ A a Y hp => have hU : Z.Warmed39 A.U.vm := wtrans hZ Y.warmed
      ⟨by show (Cond.and _ .tt).before a A.U = true; rw [Cond.before_and, mv hU wc]; rfl, mv hU wc, mv hU wz, hp.2.2.1, hp.2.2.2⟩)
    (fun _ _ _ _ _ _ _ Y hp => ⟨hp.1, wtrans hZ Y.warmed, own_IB Y.warmed hI, hp.2.1⟩) (fun _ _ _ _ _ _ _ _ _ => trivial)
    (fun _ _ _ _ ⟨v, L, h1, h2, h3⟩ => ⟨L, _, _, h3, rfl, rfl, v, h1, h2⟩)
    (fun _ _ _ _ _ _ _ _ _ L _ _ _ _ _ _ ⟨e1, e2, _, e3, e4⟩ => by cases e3; subst e1 e2; exact ⟨L, e4, rfl, rfl, rfl⟩)

theorem own_d_jdk_42_method_149_0 : decode jdk_42_method_149_code 0 = .ok (.aload_n 0, 1) := by decide +kernel
theorem own_d_jdk_42_method_149_1 : decode jdk_42_method_149_code 1 = .ok (.invokespecial 1, 3) := by decide +kernel
theorem own_d_jdk_42_method_149_4 : decode jdk_42_method_149_code 4 = .ok (.iload_n 3, 1) := by decide +kernel
theorem own_d_jdk_42_method_149_5 : decode jdk_42_method_149_code 5 = .ok (.ifCond .ne 22, 3) := by decide +kernel
theorem own_d_jdk_42_method_149_8 : decode jdk_42_method_149_code 8 = .ok (.aload_n 0, 1) := by decide +kernel
theorem own_d_jdk_42_method_149_9 : decode jdk_42_method_149_code 9 = .ok (.ldc 7, 2) := by decide +kernel
theorem own_d_jdk_42_method_149_11 : decode jdk_42_method_149_code 11 = .ok (.getfield 9, 3) := by decide +kernel
theorem own_d_jdk_42_method_149_14 : decode jdk_42_method_149_code 14 = .ok (.putfield 9, 3) := by decide +kernel
theorem own_d_jdk_42_method_149_17 : decode jdk_42_method_149_code 17 = .ok (.aload_n 0, 1) := by decide +kernel
theorem own_d_jdk_42_method_149_18 : decode jdk_42_method_149_code 18 = .ok (.ldc 7, 2) := by decide +kernel
theorem own_d_jdk_42_method_149_20 : decode jdk_42_method_149_code 20 = .ok (.getfield 15, 3) := by decide +kernel
theorem own_d_jdk_42_method_149_23 : decode jdk_42_method_149_code 23 = .ok (.putfield 15, 3) := by decide +kernel
theorem own_d_jdk_42_method_149_26 : decode jdk_42_method_149_code 26 = .ok (.return_, 1) := by decide +kernel
def own_new4_Q (Z : State) (a1 : Addr) (a2 : Addr) (h0 : Heap) (n0 : Nat) (v : Option Value) (h : Heap) (L : List Loc) : Prop := v = none ∧ Fr n0 L ∧ Keep h0 h [a1] ∧ Exa Z h a1 "java/lang/String"
abbrev own_y0 : MethodName := ⟨"java/lang/String", "<init>", "([CIILjava/lang/Void;)V"⟩
theorem own_pn_String : plainName "java/lang/String" = true := by first | (simp [plainName, overriddenIn]; done) | decide +kernel
theorem own_new4_ef (m : MethodId) (a1 : Addr) (a2 : Addr) : entryFrame m #[(.ref a1), (.ref a2), (.int (0 : Int32)), (.int (0 : Int32)), .null] 6 = mkF m 0 #[.val (.ref a1), .val (.ref a2), .val (.int (0 : Int32)), .val (.int (0 : Int32)), .val .null, .unset] [] := by first | (simp [entryFrame, mkF, argsToLocals, Value.category]; done) | rfl
set_option maxRecDepth 65536 in
set_option maxHeartbeats 40000000 in
theorem own_new4 (l : Launch) (Z : State) (a0 : Array Value) (hw : ∀ d ∈ tables_1, d.before a0 Z = true) (ws : List Jvm.Cond) (a1 : Addr) (a2 : Addr) (h0 : Heap) (n0 : Nat) (Z0 : n0 ≤ h0.size) (hO : Ext Z.heap h0) (hheld : Jvm.Lit.constHeld Z "java/lang/String" 7) (hcw : Jvm.Lit.compactW.before a0 Z = true) (E_a1 : Exa Z h0 a1 "java/lang/String") (F_value_a1 : Fld Z h0 a1 "java/lang/String" "value" "[B" .null) (F_coder_a1 : Fld Z h0 a1 "java/lang/String" "coder" "B" (.int (0 : Int32))) (g_a1 : n0 ≤ a1) :
    MetFree l own_y0 (head1 (Jvm.Cond.code own_y0 jdk_42_method_149_code 6 none :: ws) ({ frames := 1, cells := 2, slots := 4, locals := 12 } : Room)) (fun a U => a = #[(.ref a1), (.ref a2), (.int (0 : Int32)), (.int (0 : Int32)), .null] ∧ Z.Warmed39 U.vm ∧ IB Z U.vm [] ∧ U.heap = h0) (fun _ _ _ _ _ => True) (fun _ U o U' => ∃ v L, o = .returned v ∧ own_new4_Q Z a1 a2 h0 n0 v U'.heap L ∧ ReturnedEndW U o U' L ({ frames := 1, cells := 2, slots := 4, locals := 12 } : Room).cells ({ frames := 1, cells := 2, slots := 4, locals := 12 } : Room).slots) := by
  refine MetFree.of_bodySF (plainFor_of_name own_pn_String) hisR ?_
  intro p e s m args below meth c s₁ Bd hml0 hP hK
  obtain ⟨rfl, hZ, hI, hh⟩ := hP
  have hx := Bd.exec
  have hby := Bd.bytes
  have hml : c.maxLocals = 6 := hml0
  have hown : s.vm.findClass "java/lang/String" = some m.cls := findClass_of_methodNamed Bd.named
  have hnm := (name_of_methodNamed Bd.named Bd.method).1
  have X0 : Stand p l e ({ frames := 1, cells := 2, slots := 4, locals := 12 } : Room) s m #[(.ref a1), (.ref a2), (.int (0 : Int32)), (.int (0 : Int32)), .null] below meth c s₁ [] 0 0 := Stand.of_body Bd
  have e0 : s₁.heap = h0 := by rw [← hh, Bd.state]; rfl
  show own_E p e below (own_KW (own_new4_Q Z a1 a2 h0 n0) s ({ frames := 1, cells := 2, slots := 4, locals := 12 } : Room).cells ({ frames := 1, cells := 2, slots := 4, locals := 12 } : Room).slots) s₁ (entryFrame m #[(.ref a1), (.ref a2), (.int (0 : Int32)), (.int (0 : Int32)), .null] 6)
  refine own_pre (own_new4_ef m a1 a2) ?_
  show own_E p e below _ s₁ (mkF m 0 #[rv a1, rv a2, iv 0, iv 0, .val (.null), .unset] [])
  refine own_st (fun t k => XS.aloadN X0.here hx rfl (hb hby own_d_jdk_42_method_149_0) rfl rfl k) ?_
  show own_E p e below _ s₁ (mkF m 1 #[rv a1, rv a2, iv 0, iv 0, .val (.null), .unset] [.ref a1])
  obtain ⟨T1, X1, e1, st1⟩ := initO X0 hx hZ hown (own_w hw 11 rfl) (own_w hw 12 rfl) (own_w hw 13 rfl) e0 (g := (mkF m 1 #[rv a1, rv a2, iv 0, iv 0, .val (.null), .unset] [.ref a1])) rfl (by rw [hml]; rfl) rfl (hb hby own_d_jdk_42_method_149_1) (by decide) (W := 0) (by show 2 * 0 + _ ≤ _; exact Nat.le_of_eq rfl) (by decide)
  refine own_st st1 ?_
  show own_E p e below _ T1 (mkF m 4 #[rv a1, rv a2, iv 0, iv 0, .val (.null), .unset] [])
  refine own_st (fun t k => XS.iloadN X1.here hx rfl (hb hby own_d_jdk_42_method_149_4) rfl k) ?_
  show own_E p e below _ T1 (mkF m 5 #[rv a1, rv a2, iv 0, iv 0, .val (.null), .unset] [.int 0])
  refine own_st (fun t k => XS.ifNo X1.here hx rfl (hb hby own_d_jdk_42_method_149_5) rfl (by decide) k) ?_
  show own_E p e below _ T1 (mkF m 8 #[rv a1, rv a2, iv 0, iv 0, .val (.null), .unset] [])
  refine own_st (fun t k => XS.aloadN X1.here hx rfl (hb hby own_d_jdk_42_method_149_8) rfl rfl k) ?_
  show own_E p e below _ T1 (mkF m 9 #[rv a1, rv a2, iv 0, iv 0, .val (.null), .unset] [.ref a1])
  obtain ⟨la2, T2, h2, k2, lb2, kk2, X2, e2, E2, hS2, hk2, hZ2, ho2, El2, Cl2, Vl2, Al2, -, -, hI2, Ll2, st2⟩ := ldcSVL (s := s) (vm0 := s.vm) X1 hx hZ hown (own_w hw 14 rfl) (own_wS hw) e1 (own_since s) (Nat.zero_le _) (Fr.nil _) (fun b cl q => by rw [hh]; exact hO.2 b cl q) hI (by simp) hheld hcw (vs := []) (z := 0) ⟨by simp, rfl⟩ (by decide) rfl (g := (mkF m 9 #[rv a1, rv a2, iv 0, iv 0, .val (.null), .unset] [.ref a1])) rfl (hb hby own_d_jdk_42_method_149_9) (n := 0) (by decide) (by decide) (by decide) (by decide)
  have Z3 := Nat.le_trans Z0 E2.1
  have K4 : Keep h0 _ [a1] := (Keep.refl h0 [a1]).ext E2
  have B5 := (F_value_a1.ext E2)
  have ne2 : a1 ≠ la2 := Fld.ne B5 Vl2 nofun
  refine own_st st2 ?_
  show own_E p e below _ T2 (mkF m 11 #[rv a1, rv a2, iv 0, iv 0, .val (.null), .unset] [.ref la2, .ref a1])
  obtain ⟨T6, X6, e6, st6⟩ := getF X2 hx hZ2 ho2 (host := "") (Or.inl (own_w hw 20 rfl)) Via.refl e2 Vl2 (g := (mkF m 11 #[rv a1, rv a2, iv 0, iv 0, .val (.null), .unset] [.ref la2, .ref a1])) rfl rfl (hb hby own_d_jdk_42_method_149_11)
  refine own_st st6 ?_
  show own_E p e below _ T6 (mkF m 14 #[rv a1, rv a2, iv 0, iv 0, .val (.null), .unset] [.ref lb2, .ref a1])
  have B8 := (E_a1.ext E2)
  obtain ⟨T7, h7, X7, e7, W7, st7⟩ := putF X6 hx hZ2 ho2 (host := "") (Or.inl (own_w hw 20 rfl)) Via.refl e6 B5 B8 (Or.inr ⟨(own_w hw 16 rfl), rfl, hnm⟩) (own_w hw 2 rfl) (ty := (.array .byte)) (by decide) rfl rfl (g := (mkF m 14 #[rv a1, rv a2, iv 0, iv 0, .val (.null), .unset] [.ref lb2, .ref a1])) rfl rfl (hb hby own_d_jdk_42_method_149_14)
  have N7 := Fr.snoc X7 (Fr.nil n0) g_a1
  have Fw7 := B5.same W7
  have Z9 := Nat.le_trans Z3 (Keep.of_wr W7).1
  have hk10 := Nat.le_trans hk2 (Keep.of_wr W7).1
  have K11 : Keep h0 _ [a1] := K4.wr W7 (Or.inl (List.mem_of_getElem? (i := 0) rfl))
  refine own_st st7 ?_
  show own_E p e below _ T7 (mkF m 17 #[rv a1, rv a2, iv 0, iv 0, .val (.null), .unset] [])
  refine own_st (fun t k => XS.aloadN X7.here hx rfl (hb hby own_d_jdk_42_method_149_17) rfl rfl k) ?_
  show own_E p e below _ T7 (mkF m 18 #[rv a1, rv a2, iv 0, iv 0, .val (.null), .unset] [.ref a1])
  refine own_st (ldcAgain (s := s) X7 hx hZ2 ho2 (own_w hw 14 rfl) Ll2 (g := (mkF m 18 #[rv a1, rv a2, iv 0, iv 0, .val (.null), .unset] [.ref a1])) rfl (hb hby own_d_jdk_42_method_149_18)) ?_
  show own_E p e below _ T7 (mkF m 20 #[rv a1, rv a2, iv 0, iv 0, .val (.null), .unset] [.ref la2, .ref a1])
  have B13 := (Cl2.other W7 (Or.inl (Ne.symm ne2)))
  obtain ⟨T12, X12, e12, st12⟩ := getF X7 hx hZ2 ho2 (host := "") (Or.inl (own_w hw 21 rfl)) Via.refl e7 B13 (g := (mkF m 20 #[rv a1, rv a2, iv 0, iv 0, .val (.null), .unset] [.ref la2, .ref a1])) rfl rfl (hb hby own_d_jdk_42_method_149_20)
  refine own_st st12 ?_
  show own_E p e below _ T12 (mkF m 23 #[rv a1, rv a2, iv 0, iv 0, .val (.null), .unset] [.int 0, .ref a1])
  have B15 := ((F_coder_a1.ext E2).other W7 (Or.inr (slot_ne (Or.inr (own_w hw 17 rfl)) (Or.inr (own_w hw 16 rfl)) (by decide) (t := .byte) (t' := (.array .byte)) (by decide) (by decide))))
  have B16 := (B8.wr W7)
  obtain ⟨T14, h14, X14, e14, W14, st14⟩ := putF X12 hx hZ2 ho2 (host := "") (Or.inl (own_w hw 21 rfl)) Via.refl e12 B15 B16 (Or.inr ⟨(own_w hw 17 rfl), rfl, hnm⟩) (own_w hw 2 rfl) (ty := .byte) (by decide) rfl rfl (g := (mkF m 23 #[rv a1, rv a2, iv 0, iv 0, .val (.null), .unset] [.int 0, .ref a1])) rfl rfl (hb hby own_d_jdk_42_method_149_23)
  have N14 := Fr.snoc X14 N7 g_a1
  have Fw14 := B15.same W14
  have Z17 := Nat.le_trans Z9 (Keep.of_wr W14).1
  have hk18 := Nat.le_trans hk10 (Keep.of_wr W14).1
  have K19 : Keep h0 _ [a1] := K11.wr W14 (Or.inl (List.mem_of_getElem? (i := 0) rfl))
  refine own_st st14 ?_
  show own_E p e below _ T14 (mkF m 26 #[rv a1, rv a2, iv 0, iv 0, .val (.null), .unset] [])
  refine own_retVW X14 hS2 (by rw [e14]; exact hk18) hx Bd.notSynchronized Bd.returns (hb hby own_d_jdk_42_method_149_26) (by decide) (by decide) ?_
  have B20 := (B16.wr W14)
  show own_new4_Q Z a1 a2 h0 n0 _ T14.heap _
  rw [e14]
  exact ⟨rfl, N14, K19, B20⟩
theorem own_d_jdk_42_method_3_0 : decode jdk_42_method_3_code 0 = .ok (.aload_n 0, 1) := by decide +kernel
theorem own_d_jdk_42_method_3_1 : decode jdk_42_method_3_code 1 = .ok (.aload_n 1, 1) := by decide +kernel
theorem own_d_jdk_42_method_3_2 : decode jdk_42_method_3_code 2 = .ok (.iconst 0, 1) := by decide +kernel
theorem own_d_jdk_42_method_3_3 : decode jdk_42_method_3_code 3 = .ok (.aload_n 1, 1) := by decide +kernel
theorem own_d_jdk_42_method_3_4 : decode jdk_42_method_3_code 4 = .ok (.arraylength, 1) := by decide +kernel
theorem own_d_jdk_42_method_3_5 : decode jdk_42_method_3_code 5 = .ok (.aconst_null, 1) := by decide +kernel
theorem own_d_jdk_42_method_3_6 : decode jdk_42_method_3_code 6 = .ok (.invokespecial 27, 3) := by decide +kernel
theorem own_pd_8 : parseMethodDescriptor "([CIILjava/lang/Void;)V" = some ⟨[(.array .char), .int, .int, (.object "java/lang/Void")], none⟩ := by decide +kernel
theorem own_d_jdk_42_method_3_9 : decode jdk_42_method_3_code 9 = .ok (.return_, 1) := by decide +kernel
def own_new1_Q (Z : State) (a1 : Addr) (a2 : Addr) (kc1 : ClassId) (h0 : Heap) (n0 : Nat) (v : Option Value) (h : Heap) (L : List Loc) : Prop := v = none ∧ Fr n0 L ∧ Keep h0 h [a1] ∧ Exa Z h a1 "java/lang/String"
abbrev own_y1 : MethodName := ⟨"java/lang/String", "<init>", "([C)V"⟩
theorem own_new1_ef (m : MethodId) (a1 : Addr) (a2 : Addr) (kc1 : ClassId) : entryFrame m #[(.ref a1), (.ref a2)] 2 = mkF m 0 #[.val (.ref a1), .val (.ref a2)] [] := by first | (simp [entryFrame, mkF, argsToLocals, Value.category]; done) | rfl
set_option maxRecDepth 65536 in
set_option maxHeartbeats 40000000 in
theorem own_new1 (l : Launch) (Z : State) (a0 : Array Value) (hw : ∀ d ∈ tables_1, d.before a0 Z = true) (ws : List Jvm.Cond) (a1 : Addr) (a2 : Addr) (kc1 : ClassId) (h0 : Heap) (n0 : Nat) (Z0 : n0 ≤ h0.size) (hO : Ext Z.heap h0) (hheld : Jvm.Lit.constHeld Z "java/lang/String" 7) (hcw : Jvm.Lit.compactW.before a0 Z = true) (E_a1 : Exa Z h0 a1 "java/lang/String") (F_value_a1 : Fld Z h0 a1 "java/lang/String" "value" "[B" .null) (F_coder_a1 : Fld Z h0 a1 "java/lang/String" "coder" "B" (.int (0 : Int32))) (V_a2 : Arv Z h0 a2 kc1 .char (0 : Int32) [] (.int (0 : Int32))) (g_a1 : n0 ≤ a1) :
    MetFree l own_y1 (head1 (Jvm.Cond.code own_y1 jdk_42_method_3_code 2 none :: ws) ({ frames := 2, cells := 2, slots := 4, locals := 29 } : Room)) (fun a U => a = #[(.ref a1), (.ref a2)] ∧ Z.Warmed39 U.vm ∧ IB Z U.vm [] ∧ U.heap = h0) (fun _ _ _ _ _ => True) (fun _ U o U' => ∃ v L, o = .returned v ∧ own_new1_Q Z a1 a2 kc1 h0 n0 v U'.heap L ∧ ReturnedEndW U o U' L ({ frames := 2, cells := 2, slots := 4, locals := 29 } : Room).cells ({ frames := 2, cells := 2, slots := 4, locals := 29 } : Room).slots) := by
  refine MetFree.of_bodySF (plainFor_of_name own_pn_String) hisR ?_
  intro p e s m args below meth c s₁ Bd hml0 hP hK
  obtain ⟨rfl, hZ, hI, hh⟩ := hP
  have hx := Bd.exec
  have hby := Bd.bytes
  have hml : c.maxLocals = 2 := hml0
  have hown : s.vm.findClass "java/lang/String" = some m.cls := findClass_of_methodNamed Bd.named
  have hnm := (name_of_methodNamed Bd.named Bd.method).1
  have X0 : Stand p l e ({ frames := 2, cells := 2, slots := 4, locals := 29 } : Room) s m #[(.ref a1), (.ref a2)] below meth c s₁ [] 0 0 := Stand.of_body Bd
  have e0 : s₁.heap = h0 := by rw [← hh, Bd.state]; rfl
  show own_E p e below (own_KW (own_new1_Q Z a1 a2 kc1 h0 n0) s ({ frames := 2, cells := 2, slots := 4, locals := 29 } : Room).cells ({ frames := 2, cells := 2, slots := 4, locals := 29 } : Room).slots) s₁ (entryFrame m #[(.ref a1), (.ref a2)] 2)
  refine own_pre (own_new1_ef m a1 a2 kc1) ?_
  show own_E p e below _ s₁ (mkF m 0 #[rv a1, rv a2] [])
  refine own_st (fun t k => XS.aloadN X0.here hx rfl (hb hby own_d_jdk_42_method_3_0) rfl rfl k) ?_
  show own_E p e below _ s₁ (mkF m 1 #[rv a1, rv a2] [.ref a1])
  refine own_st (fun t k => XS.aloadN X0.here hx rfl (hb hby own_d_jdk_42_method_3_1) rfl rfl k) ?_
  show own_E p e below _ s₁ (mkF m 2 #[rv a1, rv a2] [.ref a2, .ref a1])
  refine own_st (fun t k => XS.iconst X0.here hx rfl (hb hby own_d_jdk_42_method_3_2) k) ?_
  show own_E p e below _ s₁ (mkF m 3 #[rv a1, rv a2] [.int 0, .ref a2, .ref a1])
  refine own_st (fun t k => XS.aloadN X0.here hx rfl (hb hby own_d_jdk_42_method_3_3) rfl rfl k) ?_
  show own_E p e below _ s₁ (mkF m 4 #[rv a1, rv a2] [.ref a2, .int 0, .ref a2, .ref a1])
  refine own_st (own_alen X0 hx hZ e0 V_a2 (g := (mkF m 4 #[rv a1, rv a2] [.ref a2, .int 0, .ref a2, .ref a1])) rfl rfl (hb hby own_d_jdk_42_method_3_4)) ?_
  show own_E p e below _ s₁ (mkF m 5 #[rv a1, rv a2] [.int 0, .int 0, .ref a2, .ref a1])
  refine own_st (fun t k => XS.aconstNull X0.here hx rfl (hb hby own_d_jdk_42_method_3_5) k) ?_
  show own_E p e below _ s₁ (mkF m 6 #[rv a1, rv a2] [.null, .int 0, .int 0, .ref a2, .ref a1])
  obtain ⟨_, _, ⟨T1, L1, k1, n1⟩, -, X1, hS1, hgr1, ⟨Lc1, hQ1, l1, y1, z1⟩, st1⟩ := X0.specialBackS hx (y := own_y0) rfl hown (mvT hZ (own_w hw 7 rfl)) (mvT hZ (own_w hw 8 rfl)) (mvT hZ (own_w hw 10 rfl)) (by decide) (own_backI (W := 0) (own_new4 l Z a0 hw [] a1 a2 h0 n0 Z0 hO hheld hcw E_a1 F_value_a1 F_coder_a1 g_a1) hZ hI (own_w hw 10 rfl) (own_w hw 3 rfl) (by decide) (by decide)) (g := (mkF m 6 #[rv a1, rv a2] [.null, .int 0, .int 0, .ref a2, .ref a1])) rfl (by rw [hml]; rfl) (Steps.refl _) (a := a1) (argsL := [(.ref a2), (.int (0 : Int32)), (.int (0 : Int32)), .null]) (rest := []) (lenOf own_pd_8 rfl) rfl (by show 2 * 0 + _ ≤ _; exact Nat.le_of_eq rfl) (hb hby own_d_jdk_42_method_3_6) (fun _ _ => ⟨rfl, e0, (by decide : 0 + 2 ≤ _), (by decide : 0 + 4 ≤ _)⟩)
  dsimp only [Pt.U, Pt.locs, Pt.cells, Pt.slots] at X1 l1 y1 z1 st1 hQ1 hS1 hgr1
  subst l1 y1 z1
  have hZ1 := own_Zw hZ hS1
  have ho1 := own_ow hown hS1
  have hk1 := Nat.le_refl T1.heap.size
  obtain ⟨rfl, Nq1, Kq1, P1_0⟩ := hQ1
  have N1 := Fr.app (Fr.nil n0) Nq1
  have e1 : T1.heap = T1.heap := rfl
  have Z2 := Nat.le_trans Z0 Kq1.1
  have K3 : Keep h0 _ [a1] := (Keep.refl h0 [a1]).trans Kq1 (allS (P := fun x => x ∈ [a1] ∨ h0.size ≤ x) (Or.inl (List.mem_of_getElem? (i := 0) rfl)) all0)
  refine own_tr st1 ?_
  show own_E p e below _ T1 (mkF m 9 #[rv a1, rv a2] [])
  refine own_retVW X1 hS1 (by rw [e1]; exact hk1) hx Bd.notSynchronized Bd.returns (hb hby own_d_jdk_42_method_3_9) (by decide) (by decide) ?_
  show own_new1_Q Z a1 a2 kc1 h0 n0 _ T1.heap _
  rw [e1]
  exact ⟨rfl, N1, K3, P1_0⟩
theorem own_d_jdk_30_method_1_0 : decode jdk_30_method_1_code 0 = .ok (.aload_n 0, 1) := by decide +kernel
theorem own_d_jdk_30_method_1_1 : decode jdk_30_method_1_code 1 = .ok (.invokespecial 1, 3) := by decide +kernel
theorem own_d_jdk_30_method_1_4 : decode jdk_30_method_1_code 4 = .ok (.return_, 1) := by decide +kernel
def own_rec_Q (a1 : Addr) (h0 : Heap) (v : Option Value) (h : Heap) (L : List Loc) : Prop := ((v = none)) ∧ h = h0 ∧ L = []
abbrev own_y2 : MethodName := ⟨"java/lang/Record", "<init>", "()V"⟩
theorem own_pn_Record : plainName "java/lang/Record" = true := by first | (simp [plainName, overriddenIn]; done) | decide +kernel
theorem own_rec_ef (m : MethodId) (a1 : Addr) : entryFrame m #[(.ref a1)] 1 = mkF m 0 #[.val (.ref a1)] [] := by first | (simp [entryFrame, mkF, argsToLocals, Value.category]; done) | rfl
set_option maxRecDepth 65536 in
set_option maxHeartbeats 40000000 in
theorem own_rec (l : Launch) (Z : State) (a0 : Array Value) (hw : ∀ d ∈ tables_1, d.before a0 Z = true) (ws : List Jvm.Cond) (a1 : Addr) (h0 : Heap) (n0 : Nat) (Z0 : n0 ≤ h0.size)  :
    MetFree l own_y2 (head1 (Jvm.Cond.code own_y2 jdk_30_method_1_code 1 none :: ws) ({ frames := 1, cells := 0, slots := 0, locals := 12 } : Room)) (fun a U => a = #[(.ref a1)] ∧ Z.Warmed39 U.vm ∧ U.heap = h0) (fun _ _ _ _ _ => True) (fun _ U o U' => ∃ v L, o = .returned v ∧ own_rec_Q a1 h0 v U'.heap L ∧ FrameEnd U o U' L ({ frames := 1, cells := 0, slots := 0, locals := 12 } : Room).cells ({ frames := 1, cells := 0, slots := 0, locals := 12 } : Room).slots) := by
  refine MetFree.of_bodySF (plainFor_of_name own_pn_Record) hisR ?_
  intro p e s m args below meth c s₁ Bd hml0 hP hK
  obtain ⟨rfl, hZ, hh⟩ := hP
  have hx := Bd.exec
  have hby := Bd.bytes
  have hml : c.maxLocals = 1 := hml0
  have hown : s.vm.findClass "java/lang/Record" = some m.cls := findClass_of_methodNamed Bd.named
  have hnm := (name_of_methodNamed Bd.named Bd.method).1
  have X0 : Stand p l e ({ frames := 1, cells := 0, slots := 0, locals := 12 } : Room) s m #[(.ref a1)] below meth c s₁ [] 0 0 := Stand.of_body Bd
  have e0 : s₁.heap = h0 := by rw [← hh, Bd.state]; rfl
  show own_E p e below (own_K (own_rec_Q a1 h0) s ({ frames := 1, cells := 0, slots := 0, locals := 12 } : Room).cells ({ frames := 1, cells := 0, slots := 0, locals := 12 } : Room).slots) s₁ (entryFrame m #[(.ref a1)] 1)
  refine own_pre (own_rec_ef m a1) ?_
  show own_E p e below _ s₁ (mkF m 0 #[rv a1] [])
  refine own_st (fun t k => XS.aloadN X0.here hx rfl (hb hby own_d_jdk_30_method_1_0) rfl rfl k) ?_
  show own_E p e below _ s₁ (mkF m 1 #[rv a1] [.ref a1])
  obtain ⟨T1, X1, e1, st1⟩ := initO X0 hx hZ hown (own_w hw 34 rfl) (own_w hw 12 rfl) (own_w hw 13 rfl) e0 (g := (mkF m 1 #[rv a1] [.ref a1])) rfl (by rw [hml]; rfl) rfl (hb hby own_d_jdk_30_method_1_1) (by decide) (W := 0) (by show 2 * 0 + _ ≤ _; exact Nat.le_of_eq rfl) (by decide)
  refine own_st st1 ?_
  show own_E p e below _ T1 (mkF m 4 #[rv a1] [])
  refine own_retV X1 hx Bd.notSynchronized Bd.returns (hb hby own_d_jdk_30_method_1_4) (by decide) (by decide) ?_
  exact ⟨rfl, e1, rfl⟩
theorem own_d_prog_19_method_1_0 : decode prog_19_method_1_code 0 = .ok (.aload_n 0, 1) := by decide +kernel
theorem own_d_prog_19_method_1_1 : decode prog_19_method_1_code 1 = .ok (.invokespecial 1, 3) := by decide +kernel
theorem own_pd_1 : parseMethodDescriptor "()V" = some ⟨[], none⟩ := by decide +kernel
theorem own_d_prog_19_method_1_4 : decode prog_19_method_1_code 4 = .ok (.aload_n 0, 1) := by decide +kernel
theorem own_d_prog_19_method_1_5 : decode prog_19_method_1_code 5 = .ok (.iload_n 1, 1) := by decide +kernel
theorem own_d_prog_19_method_1_6 : decode prog_19_method_1_code 6 = .ok (.putfield 7, 3) := by decide +kernel
theorem own_d_prog_19_method_1_9 : decode prog_19_method_1_code 9 = .ok (.aload_n 0, 1) := by decide +kernel
theorem own_d_prog_19_method_1_10 : decode prog_19_method_1_code 10 = .ok (.aload_n 2, 1) := by decide +kernel
theorem own_d_prog_19_method_1_11 : decode prog_19_method_1_code 11 = .ok (.putfield 13, 3) := by decide +kernel
theorem own_d_prog_19_method_1_14 : decode prog_19_method_1_code 14 = .ok (.aload_n 0, 1) := by decide +kernel
theorem own_d_prog_19_method_1_15 : decode prog_19_method_1_code 15 = .ok (.aload_n 3, 1) := by decide +kernel
theorem own_d_prog_19_method_1_16 : decode prog_19_method_1_code 16 = .ok (.putfield 17, 3) := by decide +kernel
theorem own_d_prog_19_method_1_19 : decode prog_19_method_1_code 19 = .ok (.aload_n 0, 1) := by decide +kernel
theorem own_d_prog_19_method_1_20 : decode prog_19_method_1_code 20 = .ok (.iload 4, 2) := by decide +kernel
theorem own_d_prog_19_method_1_22 : decode prog_19_method_1_code 22 = .ok (.putfield 20, 3) := by decide +kernel
theorem own_d_prog_19_method_1_25 : decode prog_19_method_1_code 25 = .ok (.return_, 1) := by decide +kernel
def own_init000_Q (Z : State) (a1 : Addr) (p1 : Int32) (h0 : Heap) (n0 : Nat) (v : Option Value) (h : Heap) (L : List Loc) : Prop := v = none ∧ Fr n0 L ∧ Keep h0 h [a1] ∧ Exa Z h a1 "com/example/acquirer/acquirer/PageRequest" ∧ Fld Z h a1 "com/example/acquirer/acquirer/PageRequest" "startingAfter" "Ljava/lang/String;" .null ∧ Fld Z h a1 "com/example/acquirer/acquirer/PageRequest" "endingBefore" "Ljava/lang/String;" .null
abbrev own_y3 : MethodName := ⟨"com/example/acquirer/acquirer/PageRequest", "<init>", "(ILjava/lang/String;Ljava/lang/String;Z)V"⟩
theorem own_pn_PageRequest : plainName "com/example/acquirer/acquirer/PageRequest" = true := by first | (simp [plainName, overriddenIn]; done) | decide +kernel
theorem own_init000_ef (m : MethodId) (a1 : Addr) (p1 : Int32) : entryFrame m #[(.ref a1), (.int p1), .null, .null, (.int (0 : Int32))] 5 = mkF m 0 #[.val (.ref a1), .val (.int p1), .val .null, .val .null, .val (.int (0 : Int32))] [] := by first | (simp [entryFrame, mkF, argsToLocals, Value.category]; done) | rfl
set_option maxRecDepth 65536 in
set_option maxHeartbeats 40000000 in
theorem own_init000 (l : Launch) (Z : State) (a0 : Array Value) (hw : ∀ d ∈ tables_1, d.before a0 Z = true) (ws : List Jvm.Cond) (a1 : Addr) (p1 : Int32) (h0 : Heap) (n0 : Nat) (Z0 : n0 ≤ h0.size) (E_a1 : Exa Z h0 a1 "com/example/acquirer/acquirer/PageRequest") (F_limit_a1 : Fld Z h0 a1 "com/example/acquirer/acquirer/PageRequest" "limit" "I" (.int (0 : Int32))) (F_startingAfter_a1 : Fld Z h0 a1 "com/example/acquirer/acquirer/PageRequest" "startingAfter" "Ljava/lang/String;" .null) (F_endingBefore_a1 : Fld Z h0 a1 "com/example/acquirer/acquirer/PageRequest" "endingBefore" "Ljava/lang/String;" .null) (F_descending_a1 : Fld Z h0 a1 "com/example/acquirer/acquirer/PageRequest" "descending" "Z" (.int (0 : Int32))) (g_a1 : n0 ≤ a1) :
    MetFree l own_y3 (head1 (Jvm.Cond.code own_y3 prog_19_method_1_code 5 none :: ws) ({ frames := 2, cells := 0, slots := 0, locals := 24 } : Room)) (fun a U => a = #[(.ref a1), (.int p1), .null, .null, (.int (0 : Int32))] ∧ Z.Warmed39 U.vm ∧ U.heap = h0) (fun _ _ _ _ _ => True) (fun _ U o U' => ∃ v L, o = .returned v ∧ own_init000_Q Z a1 p1 h0 n0 v U'.heap L ∧ FrameEnd U o U' L ({ frames := 2, cells := 0, slots := 0, locals := 24 } : Room).cells ({ frames := 2, cells := 0, slots := 0, locals := 24 } : Room).slots) := by
  refine MetFree.of_bodySF (plainFor_of_name own_pn_PageRequest) hisR ?_
  intro p e s m args below meth c s₁ Bd hml0 hP hK
  obtain ⟨rfl, hZ, hh⟩ := hP
  have hx := Bd.exec
  have hby := Bd.bytes
  have hml : c.maxLocals = 5 := hml0
  have hown : s.vm.findClass "com/example/acquirer/acquirer/PageRequest" = some m.cls := findClass_of_methodNamed Bd.named
  have hnm := (name_of_methodNamed Bd.named Bd.method).1
  have X0 : Stand p l e ({ frames := 2, cells := 0, slots := 0, locals := 24 } : Room) s m #[(.ref a1), (.int p1), .null, .null, (.int (0 : Int32))] below meth c s₁ [] 0 0 := Stand.of_body Bd
  have e0 : s₁.heap = h0 := by rw [← hh, Bd.state]; rfl
  show own_E p e below (own_K (own_init000_Q Z a1 p1 h0 n0) s ({ frames := 2, cells := 0, slots := 0, locals := 24 } : Room).cells ({ frames := 2, cells := 0, slots := 0, locals := 24 } : Room).slots) s₁ (entryFrame m #[(.ref a1), (.int p1), .null, .null, (.int (0 : Int32))] 5)
  refine own_pre (own_init000_ef m a1 p1) ?_
  show own_E p e below _ s₁ (mkF m 0 #[rv a1, iv p1, .val (.null), .val (.null), iv 0] [])
  refine own_st (fun t k => XS.aloadN X0.here hx rfl (hb hby own_d_prog_19_method_1_0) rfl rfl k) ?_
  show own_E p e below _ s₁ (mkF m 1 #[rv a1, iv p1, .val (.null), .val (.null), iv 0] [.ref a1])
  obtain ⟨_, _, ⟨T1, L1, k1, n1⟩, -, X1, ⟨Lc1, hQ1, l1, y1, z1⟩, st1⟩ := X0.specialBack hx (y := own_y2) rfl hown (mvT hZ (own_w hw 29 rfl)) (mvT hZ (own_w hw 30 rfl)) (mvT hZ (own_w hw 33 rfl)) (by decide) (backOf (W := 0) (own_rec l Z a0 hw [] a1 h0 n0 Z0 ) hZ (own_w hw 33 rfl) (own_w hw 32 rfl) (by decide) (by decide)) (g := (mkF m 1 #[rv a1, iv p1, .val (.null), .val (.null), iv 0] [.ref a1])) rfl (by rw [hml]; rfl) (Steps.refl _) (a := a1) (argsL := []) (rest := []) (lenOf own_pd_1 rfl) rfl (by show 2 * 0 + _ ≤ _; exact Nat.le_of_eq rfl) (hb hby own_d_prog_19_method_1_1) (fun _ _ => ⟨rfl, e0, (by decide : 0 + 0 ≤ _), (by decide : 0 + 0 ≤ _)⟩)
  dsimp only [Pt.U, Pt.locs, Pt.cells, Pt.slots] at X1 l1 y1 z1 st1 hQ1
  subst l1 y1 z1
  obtain ⟨hR1, e1, rfl⟩ := hQ1
  have N1 := Fr.app (Fr.nil n0) (Fr.nil n0)
  obtain rfl := hR1
  refine own_tr st1 ?_
  show own_E p e below _ T1 (mkF m 4 #[rv a1, iv p1, .val (.null), .val (.null), iv 0] [])
  refine own_st (fun t k => XS.aloadN X1.here hx rfl (hb hby own_d_prog_19_method_1_4) rfl rfl k) ?_
  show own_E p e below _ T1 (mkF m 5 #[rv a1, iv p1, .val (.null), .val (.null), iv 0] [.ref a1])
  refine own_st (fun t k => XS.iloadN X1.here hx rfl (hb hby own_d_prog_19_method_1_5) rfl k) ?_
  show own_E p e below _ T1 (mkF m 6 #[rv a1, iv p1, .val (.null), .val (.null), iv 0] [.int p1, .ref a1])
  obtain ⟨T2, h2, X2, e2, W2, st2⟩ := putF X1 hx hZ hown (host := "") (Or.inl (own_w hw 35 rfl)) Via.refl e1 F_limit_a1 E_a1 (Or.inr ⟨(own_w hw 36 rfl), rfl, hnm⟩) (own_w hw 24 rfl) (ty := .int) (by decide) rfl rfl (g := (mkF m 6 #[rv a1, iv p1, .val (.null), .val (.null), iv 0] [.int p1, .ref a1])) rfl rfl (hb hby own_d_prog_19_method_1_6)
  have N2 := Fr.snoc X2 N1 g_a1
  have Fw2 := F_limit_a1.same W2
  have Z3 := Nat.le_trans Z0 (Keep.of_wr W2).1
  have K4 : Keep h0 _ [a1] := (Keep.refl h0 [a1]).wr W2 (Or.inl (List.mem_of_getElem? (i := 0) rfl))
  refine own_st st2 ?_
  show own_E p e below _ T2 (mkF m 9 #[rv a1, iv p1, .val (.null), .val (.null), iv 0] [])
  refine own_st (fun t k => XS.aloadN X2.here hx rfl (hb hby own_d_prog_19_method_1_9) rfl rfl k) ?_
  show own_E p e below _ T2 (mkF m 10 #[rv a1, iv p1, .val (.null), .val (.null), iv 0] [.ref a1])
  refine own_st (fun t k => XS.aloadN X2.here hx rfl (hb hby own_d_prog_19_method_1_10) rfl rfl k) ?_
  show own_E p e below _ T2 (mkF m 11 #[rv a1, iv p1, .val (.null), .val (.null), iv 0] [.null, .ref a1])
  have B6 := (F_startingAfter_a1.other W2 (Or.inr (slot_ne (Or.inr (own_w hw 38 rfl)) (Or.inr (own_w hw 36 rfl)) (by decide) (t := (.object "java/lang/String")) (t' := .int) (by decide) (by decide))))
  have B7 := (E_a1.wr W2)
  obtain ⟨T5, h5, X5, e5, W5, st5⟩ := putF X2 hx hZ hown (host := "") (Or.inl (own_w hw 37 rfl)) Via.refl e2 B6 B7 (Or.inr ⟨(own_w hw 38 rfl), rfl, hnm⟩) (own_w hw 24 rfl) (ty := (.object "java/lang/String")) (by decide) rfl rfl (g := (mkF m 11 #[rv a1, iv p1, .val (.null), .val (.null), iv 0] [.null, .ref a1])) rfl rfl (hb hby own_d_prog_19_method_1_11)
  have N5 := Fr.snoc X5 N2 g_a1
  have Fw5 := B6.same W5
  have Z8 := Nat.le_trans Z3 (Keep.of_wr W5).1
  have K9 : Keep h0 _ [a1] := K4.wr W5 (Or.inl (List.mem_of_getElem? (i := 0) rfl))
  refine own_st st5 ?_
  show own_E p e below _ T5 (mkF m 14 #[rv a1, iv p1, .val (.null), .val (.null), iv 0] [])
  refine own_st (fun t k => XS.aloadN X5.here hx rfl (hb hby own_d_prog_19_method_1_14) rfl rfl k) ?_
  show own_E p e below _ T5 (mkF m 15 #[rv a1, iv p1, .val (.null), .val (.null), iv 0] [.ref a1])
  refine own_st (fun t k => XS.aloadN X5.here hx rfl (hb hby own_d_prog_19_method_1_15) rfl rfl k) ?_
  show own_E p e below _ T5 (mkF m 16 #[rv a1, iv p1, .val (.null), .val (.null), iv 0] [.null, .ref a1])
  have B11 := ((F_endingBefore_a1.other W2 (Or.inr (slot_ne (Or.inr (own_w hw 40 rfl)) (Or.inr (own_w hw 36 rfl)) (by decide) (t := (.object "java/lang/String")) (t' := .int) (by decide) (by decide)))).other W5 (Or.inr (slot_ne (Or.inr (own_w hw 40 rfl)) (Or.inr (own_w hw 38 rfl)) (by decide) (t := (.object "java/lang/String")) (t' := (.object "java/lang/String")) (by decide) (by decide))))
  have B12 := (B7.wr W5)
  obtain ⟨T10, h10, X10, e10, W10, st10⟩ := putF X5 hx hZ hown (host := "") (Or.inl (own_w hw 39 rfl)) Via.refl e5 B11 B12 (Or.inr ⟨(own_w hw 40 rfl), rfl, hnm⟩) (own_w hw 24 rfl) (ty := (.object "java/lang/String")) (by decide) rfl rfl (g := (mkF m 16 #[rv a1, iv p1, .val (.null), .val (.null), iv 0] [.null, .ref a1])) rfl rfl (hb hby own_d_prog_19_method_1_16)
  have N10 := Fr.snoc X10 N5 g_a1
  have Fw10 := B11.same W10
  have Z13 := Nat.le_trans Z8 (Keep.of_wr W10).1
  have K14 : Keep h0 _ [a1] := K9.wr W10 (Or.inl (List.mem_of_getElem? (i := 0) rfl))
  refine own_st st10 ?_
  show own_E p e below _ T10 (mkF m 19 #[rv a1, iv p1, .val (.null), .val (.null), iv 0] [])
  refine own_st (fun t k => XS.aloadN X10.here hx rfl (hb hby own_d_prog_19_method_1_19) rfl rfl k) ?_
  show own_E p e below _ T10 (mkF m 20 #[rv a1, iv p1, .val (.null), .val (.null), iv 0] [.ref a1])
  refine own_st (fun t k => XS.iload X10.here hx rfl (hb hby own_d_prog_19_method_1_20) rfl k) ?_
  show own_E p e below _ T10 (mkF m 22 #[rv a1, iv p1, .val (.null), .val (.null), iv 0] [.int 0, .ref a1])
  have B16 := (((F_descending_a1.other W2 (Or.inr (slot_ne (Or.inr (own_w hw 42 rfl)) (Or.inr (own_w hw 36 rfl)) (by decide) (t := .boolean) (t' := .int) (by decide) (by decide)))).other W5 (Or.inr (slot_ne (Or.inr (own_w hw 42 rfl)) (Or.inr (own_w hw 38 rfl)) (by decide) (t := .boolean) (t' := (.object "java/lang/String")) (by decide) (by decide)))).other W10 (Or.inr (slot_ne (Or.inr (own_w hw 42 rfl)) (Or.inr (own_w hw 40 rfl)) (by decide) (t := .boolean) (t' := (.object "java/lang/String")) (by decide) (by decide))))
  have B17 := (B12.wr W10)
  obtain ⟨T15, h15, X15, e15, W15, st15⟩ := putF X10 hx hZ hown (host := "") (Or.inl (own_w hw 41 rfl)) Via.refl e10 B16 B17 (Or.inr ⟨(own_w hw 42 rfl), rfl, hnm⟩) (own_w hw 24 rfl) (ty := .boolean) (by decide) rfl rfl (g := (mkF m 22 #[rv a1, iv p1, .val (.null), .val (.null), iv 0] [.int 0, .ref a1])) rfl rfl (hb hby own_d_prog_19_method_1_22)
  have N15 := Fr.snoc X15 N10 g_a1
  have Fw15 := B16.same W15
  have Z18 := Nat.le_trans Z13 (Keep.of_wr W15).1
  have K19 : Keep h0 _ [a1] := K14.wr W15 (Or.inl (List.mem_of_getElem? (i := 0) rfl))
  refine own_st st15 ?_
  show own_E p e below _ T15 (mkF m 25 #[rv a1, iv p1, .val (.null), .val (.null), iv 0] [])
  refine own_retV X15 hx Bd.notSynchronized Bd.returns (hb hby own_d_prog_19_method_1_25) (by decide) (by decide) ?_
  have B20 := (B17.wr W15)
  have B21 := ((Fw5.other W10 (Or.inr (slot_ne (Or.inr (own_w hw 38 rfl)) (Or.inr (own_w hw 40 rfl)) (by decide) (t := (.object "java/lang/String")) (t' := (.object "java/lang/String")) (by decide) (by decide)))).other W15 (Or.inr (slot_ne (Or.inr (own_w hw 38 rfl)) (Or.inr (own_w hw 42 rfl)) (by decide) (t := (.object "java/lang/String")) (t' := .boolean) (by decide) (by decide))))
  have B22 := (Fw10.other W15 (Or.inr (slot_ne (Or.inr (own_w hw 40 rfl)) (Or.inr (own_w hw 42 rfl)) (by decide) (t := (.object "java/lang/String")) (t' := .boolean) (by decide) (by decide))))
  show own_init000_Q Z a1 p1 h0 n0 _ T15.heap _
  rw [e15]
  exact ⟨rfl, N15, K19, B20, B21, B22⟩
def own_init001_Q (Z : State) (a1 : Addr) (p1 : Int32) (h0 : Heap) (n0 : Nat) (v : Option Value) (h : Heap) (L : List Loc) : Prop := v = none ∧ Fr n0 L ∧ Keep h0 h [a1] ∧ Exa Z h a1 "com/example/acquirer/acquirer/PageRequest" ∧ Fld Z h a1 "com/example/acquirer/acquirer/PageRequest" "startingAfter" "Ljava/lang/String;" .null ∧ Fld Z h a1 "com/example/acquirer/acquirer/PageRequest" "endingBefore" "Ljava/lang/String;" .null
theorem own_init001_ef (m : MethodId) (a1 : Addr) (p1 : Int32) : entryFrame m #[(.ref a1), (.int p1), .null, .null, (.int (1 : Int32))] 5 = mkF m 0 #[.val (.ref a1), .val (.int p1), .val .null, .val .null, .val (.int (1 : Int32))] [] := by first | (simp [entryFrame, mkF, argsToLocals, Value.category]; done) | rfl
set_option maxRecDepth 65536 in
set_option maxHeartbeats 40000000 in
theorem own_init001 (l : Launch) (Z : State) (a0 : Array Value) (hw : ∀ d ∈ tables_1, d.before a0 Z = true) (ws : List Jvm.Cond) (a1 : Addr) (p1 : Int32) (h0 : Heap) (n0 : Nat) (Z0 : n0 ≤ h0.size) (E_a1 : Exa Z h0 a1 "com/example/acquirer/acquirer/PageRequest") (F_limit_a1 : Fld Z h0 a1 "com/example/acquirer/acquirer/PageRequest" "limit" "I" (.int (0 : Int32))) (F_startingAfter_a1 : Fld Z h0 a1 "com/example/acquirer/acquirer/PageRequest" "startingAfter" "Ljava/lang/String;" .null) (F_endingBefore_a1 : Fld Z h0 a1 "com/example/acquirer/acquirer/PageRequest" "endingBefore" "Ljava/lang/String;" .null) (F_descending_a1 : Fld Z h0 a1 "com/example/acquirer/acquirer/PageRequest" "descending" "Z" (.int (0 : Int32))) (g_a1 : n0 ≤ a1) :
    MetFree l own_y3 (head1 (Jvm.Cond.code own_y3 prog_19_method_1_code 5 none :: ws) ({ frames := 2, cells := 0, slots := 0, locals := 24 } : Room)) (fun a U => a = #[(.ref a1), (.int p1), .null, .null, (.int (1 : Int32))] ∧ Z.Warmed39 U.vm ∧ U.heap = h0) (fun _ _ _ _ _ => True) (fun _ U o U' => ∃ v L, o = .returned v ∧ own_init001_Q Z a1 p1 h0 n0 v U'.heap L ∧ FrameEnd U o U' L ({ frames := 2, cells := 0, slots := 0, locals := 24 } : Room).cells ({ frames := 2, cells := 0, slots := 0, locals := 24 } : Room).slots) := by
  refine MetFree.of_bodySF (plainFor_of_name own_pn_PageRequest) hisR ?_
  intro p e s m args below meth c s₁ Bd hml0 hP hK
  obtain ⟨rfl, hZ, hh⟩ := hP
  have hx := Bd.exec
  have hby := Bd.bytes
  have hml : c.maxLocals = 5 := hml0
  have hown : s.vm.findClass "com/example/acquirer/acquirer/PageRequest" = some m.cls := findClass_of_methodNamed Bd.named
  have hnm := (name_of_methodNamed Bd.named Bd.method).1
  have X0 : Stand p l e ({ frames := 2, cells := 0, slots := 0, locals := 24 } : Room) s m #[(.ref a1), (.int p1), .null, .null, (.int (1 : Int32))] below meth c s₁ [] 0 0 := Stand.of_body Bd
  have e0 : s₁.heap = h0 := by rw [← hh, Bd.state]; rfl
  show own_E p e below (own_K (own_init001_Q Z a1 p1 h0 n0) s ({ frames := 2, cells := 0, slots := 0, locals := 24 } : Room).cells ({ frames := 2, cells := 0, slots := 0, locals := 24 } : Room).slots) s₁ (entryFrame m #[(.ref a1), (.int p1), .null, .null, (.int (1 : Int32))] 5)
  refine own_pre (own_init001_ef m a1 p1) ?_
  show own_E p e below _ s₁ (mkF m 0 #[rv a1, iv p1, .val (.null), .val (.null), iv 1] [])
  refine own_st (fun t k => XS.aloadN X0.here hx rfl (hb hby own_d_prog_19_method_1_0) rfl rfl k) ?_
  show own_E p e below _ s₁ (mkF m 1 #[rv a1, iv p1, .val (.null), .val (.null), iv 1] [.ref a1])
  obtain ⟨_, _, ⟨T1, L1, k1, n1⟩, -, X1, ⟨Lc1, hQ1, l1, y1, z1⟩, st1⟩ := X0.specialBack hx (y := own_y2) rfl hown (mvT hZ (own_w hw 29 rfl)) (mvT hZ (own_w hw 30 rfl)) (mvT hZ (own_w hw 33 rfl)) (by decide) (backOf (W := 0) (own_rec l Z a0 hw [] a1 h0 n0 Z0 ) hZ (own_w hw 33 rfl) (own_w hw 32 rfl) (by decide) (by decide)) (g := (mkF m 1 #[rv a1, iv p1, .val (.null), .val (.null), iv 1] [.ref a1])) rfl (by rw [hml]; rfl) (Steps.refl _) (a := a1) (argsL := []) (rest := []) (lenOf own_pd_1 rfl) rfl (by show 2 * 0 + _ ≤ _; exact Nat.le_of_eq rfl) (hb hby own_d_prog_19_method_1_1) (fun _ _ => ⟨rfl, e0, (by decide : 0 + 0 ≤ _), (by decide : 0 + 0 ≤ _)⟩)
  dsimp only [Pt.U, Pt.locs, Pt.cells, Pt.slots] at X1 l1 y1 z1 st1 hQ1
  subst l1 y1 z1
  obtain ⟨hR1, e1, rfl⟩ := hQ1
  have N1 := Fr.app (Fr.nil n0) (Fr.nil n0)
  obtain rfl := hR1
  refine own_tr st1 ?_
  show own_E p e below _ T1 (mkF m 4 #[rv a1, iv p1, .val (.null), .val (.null), iv 1] [])
  refine own_st (fun t k => XS.aloadN X1.here hx rfl (hb hby own_d_prog_19_method_1_4) rfl rfl k) ?_
  show own_E p e below _ T1 (mkF m 5 #[rv a1, iv p1, .val (.null), .val (.null), iv 1] [.ref a1])
  refine own_st (fun t k => XS.iloadN X1.here hx rfl (hb hby own_d_prog_19_method_1_5) rfl k) ?_
  show own_E p e below _ T1 (mkF m 6 #[rv a1, iv p1, .val (.null), .val (.null), iv 1] [.int p1, .ref a1])
  obtain ⟨T2, h2, X2, e2, W2, st2⟩ := putF X1 hx hZ hown (host := "") (Or.inl (own_w hw 35 rfl)) Via.refl e1 F_limit_a1 E_a1 (Or.inr ⟨(own_w hw 36 rfl), rfl, hnm⟩) (own_w hw 24 rfl) (ty := .int) (by decide) rfl rfl (g := (mkF m 6 #[rv a1, iv p1, .val (.null), .val (.null), iv 1] [.int p1, .ref a1])) rfl rfl (hb hby own_d_prog_19_method_1_6)
  have N2 := Fr.snoc X2 N1 g_a1
  have Fw2 := F_limit_a1.same W2
  have Z3 := Nat.le_trans Z0 (Keep.of_wr W2).1
  have K4 : Keep h0 _ [a1] := (Keep.refl h0 [a1]).wr W2 (Or.inl (List.mem_of_getElem? (i := 0) rfl))
  refine own_st st2 ?_
  show own_E p e below _ T2 (mkF m 9 #[rv a1, iv p1, .val (.null), .val (.null), iv 1] [])
  refine own_st (fun t k => XS.aloadN X2.here hx rfl (hb hby own_d_prog_19_method_1_9) rfl rfl k) ?_
  show own_E p e below _ T2 (mkF m 10 #[rv a1, iv p1, .val (.null), .val (.null), iv 1] [.ref a1])
  refine own_st (fun t k => XS.aloadN X2.here hx rfl (hb hby own_d_prog_19_method_1_10) rfl rfl k) ?_
  show own_E p e below _ T2 (mkF m 11 #[rv a1, iv p1, .val (.null), .val (.null), iv 1] [.null, .ref a1])
  have B6 := (F_startingAfter_a1.other W2 (Or.inr (slot_ne (Or.inr (own_w hw 38 rfl)) (Or.inr (own_w hw 36 rfl)) (by decide) (t := (.object "java/lang/String")) (t' := .int) (by decide) (by decide))))
  have B7 := (E_a1.wr W2)
  obtain ⟨T5, h5, X5, e5, W5, st5⟩ := putF X2 hx hZ hown (host := "") (Or.inl (own_w hw 37 rfl)) Via.refl e2 B6 B7 (Or.inr ⟨(own_w hw 38 rfl), rfl, hnm⟩) (own_w hw 24 rfl) (ty := (.object "java/lang/String")) (by decide) rfl rfl (g := (mkF m 11 #[rv a1, iv p1, .val (.null), .val (.null), iv 1] [.null, .ref a1])) rfl rfl (hb hby own_d_prog_19_method_1_11)
  have N5 := Fr.snoc X5 N2 g_a1
  have Fw5 := B6.same W5
  have Z8 := Nat.le_trans Z3 (Keep.of_wr W5).1
  have K9 : Keep h0 _ [a1] := K4.wr W5 (Or.inl (List.mem_of_getElem? (i := 0) rfl))
  refine own_st st5 ?_
  show own_E p e below _ T5 (mkF m 14 #[rv a1, iv p1, .val (.null), .val (.null), iv 1] [])
  refine own_st (fun t k => XS.aloadN X5.here hx rfl (hb hby own_d_prog_19_method_1_14) rfl rfl k) ?_
  show own_E p e below _ T5 (mkF m 15 #[rv a1, iv p1, .val (.null), .val (.null), iv 1] [.ref a1])
  refine own_st (fun t k => XS.aloadN X5.here hx rfl (hb hby own_d_prog_19_method_1_15) rfl rfl k) ?_
  show own_E p e below _ T5 (mkF m 16 #[rv a1, iv p1, .val (.null), .val (.null), iv 1] [.null, .ref a1])
  have B11 := ((F_endingBefore_a1.other W2 (Or.inr (slot_ne (Or.inr (own_w hw 40 rfl)) (Or.inr (own_w hw 36 rfl)) (by decide) (t := (.object "java/lang/String")) (t' := .int) (by decide) (by decide)))).other W5 (Or.inr (slot_ne (Or.inr (own_w hw 40 rfl)) (Or.inr (own_w hw 38 rfl)) (by decide) (t := (.object "java/lang/String")) (t' := (.object "java/lang/String")) (by decide) (by decide))))
  have B12 := (B7.wr W5)
  obtain ⟨T10, h10, X10, e10, W10, st10⟩ := putF X5 hx hZ hown (host := "") (Or.inl (own_w hw 39 rfl)) Via.refl e5 B11 B12 (Or.inr ⟨(own_w hw 40 rfl), rfl, hnm⟩) (own_w hw 24 rfl) (ty := (.object "java/lang/String")) (by decide) rfl rfl (g := (mkF m 16 #[rv a1, iv p1, .val (.null), .val (.null), iv 1] [.null, .ref a1])) rfl rfl (hb hby own_d_prog_19_method_1_16)
  have N10 := Fr.snoc X10 N5 g_a1
  have Fw10 := B11.same W10
  have Z13 := Nat.le_trans Z8 (Keep.of_wr W10).1
  have K14 : Keep h0 _ [a1] := K9.wr W10 (Or.inl (List.mem_of_getElem? (i := 0) rfl))
  refine own_st st10 ?_
  show own_E p e below _ T10 (mkF m 19 #[rv a1, iv p1, .val (.null), .val (.null), iv 1] [])
  refine own_st (fun t k => XS.aloadN X10.here hx rfl (hb hby own_d_prog_19_method_1_19) rfl rfl k) ?_
  show own_E p e below _ T10 (mkF m 20 #[rv a1, iv p1, .val (.null), .val (.null), iv 1] [.ref a1])
  refine own_st (fun t k => XS.iload X10.here hx rfl (hb hby own_d_prog_19_method_1_20) rfl k) ?_
  show own_E p e below _ T10 (mkF m 22 #[rv a1, iv p1, .val (.null), .val (.null), iv 1] [.int 1, .ref a1])
  have B16 := (((F_descending_a1.other W2 (Or.inr (slot_ne (Or.inr (own_w hw 42 rfl)) (Or.inr (own_w hw 36 rfl)) (by decide) (t := .boolean) (t' := .int) (by decide) (by decide)))).other W5 (Or.inr (slot_ne (Or.inr (own_w hw 42 rfl)) (Or.inr (own_w hw 38 rfl)) (by decide) (t := .boolean) (t' := (.object "java/lang/String")) (by decide) (by decide)))).other W10 (Or.inr (slot_ne (Or.inr (own_w hw 42 rfl)) (Or.inr (own_w hw 40 rfl)) (by decide) (t := .boolean) (t' := (.object "java/lang/String")) (by decide) (by decide))))
  have B17 := (B12.wr W10)
  obtain ⟨T15, h15, X15, e15, W15, st15⟩ := putF X10 hx hZ hown (host := "") (Or.inl (own_w hw 41 rfl)) Via.refl e10 B16 B17 (Or.inr ⟨(own_w hw 42 rfl), rfl, hnm⟩) (own_w hw 24 rfl) (ty := .boolean) (by decide) rfl rfl (g := (mkF m 22 #[rv a1, iv p1, .val (.null), .val (.null), iv 1] [.int 1, .ref a1])) rfl rfl (hb hby own_d_prog_19_method_1_22)
  have N15 := Fr.snoc X15 N10 g_a1
  have Fw15 := B16.same W15
  have Z18 := Nat.le_trans Z13 (Keep.of_wr W15).1
  have K19 : Keep h0 _ [a1] := K14.wr W15 (Or.inl (List.mem_of_getElem? (i := 0) rfl))
  refine own_st st15 ?_
  show own_E p e below _ T15 (mkF m 25 #[rv a1, iv p1, .val (.null), .val (.null), iv 1] [])
  refine own_retV X15 hx Bd.notSynchronized Bd.returns (hb hby own_d_prog_19_method_1_25) (by decide) (by decide) ?_
  have B20 := (B17.wr W15)
  have B21 := ((Fw5.other W10 (Or.inr (slot_ne (Or.inr (own_w hw 38 rfl)) (Or.inr (own_w hw 40 rfl)) (by decide) (t := (.object "java/lang/String")) (t' := (.object "java/lang/String")) (by decide) (by decide)))).other W15 (Or.inr (slot_ne (Or.inr (own_w hw 38 rfl)) (Or.inr (own_w hw 42 rfl)) (by decide) (t := (.object "java/lang/String")) (t' := .boolean) (by decide) (by decide))))
  have B22 := (Fw10.other W15 (Or.inr (slot_ne (Or.inr (own_w hw 40 rfl)) (Or.inr (own_w hw 42 rfl)) (by decide) (t := (.object "java/lang/String")) (t' := .boolean) (by decide) (by decide))))
  show own_init001_Q Z a1 p1 h0 n0 _ T15.heap _
  rw [e15]
  exact ⟨rfl, N15, K19, B20, B21, B22⟩
theorem own_d_prog_19_method_2_0 : decode prog_19_method_2_code 0 = .ok (.aload_n 0, 1) := by decide +kernel
theorem own_d_prog_19_method_2_1 : decode prog_19_method_2_code 1 = .ok (.getfield 13, 3) := by decide +kernel
theorem own_d_prog_19_method_2_4 : decode prog_19_method_2_code 4 = .ok (.ifnull 10, 3) := by decide +kernel
theorem own_d_prog_19_method_2_14 : decode prog_19_method_2_code 14 = .ok (.aload_n 0, 1) := by decide +kernel
theorem own_d_prog_19_method_2_15 : decode prog_19_method_2_code 15 = .ok (.getfield 17, 3) := by decide +kernel
theorem own_d_prog_19_method_2_18 : decode prog_19_method_2_code 18 = .ok (.areturn, 1) := by decide +kernel
def own_cur00_Q (a1 : Addr) (h0 : Heap) (v : Option Value) (h : Heap) (L : List Loc) : Prop := ((v = some .null)) ∧ h = h0 ∧ L = []
abbrev own_y4 : MethodName := ⟨"com/example/acquirer/acquirer/PageRequest", "cursor", "()Ljava/lang/String;"⟩
theorem own_cur00_ef (m : MethodId) (a1 : Addr) : entryFrame m #[(.ref a1)] 1 = mkF m 0 #[.val (.ref a1)] [] := by first | (simp [entryFrame, mkF, argsToLocals, Value.category]; done) | rfl
set_option maxRecDepth 65536 in
set_option maxHeartbeats 40000000 in
theorem own_cur00 (l : Launch) (Z : State) (a0 : Array Value) (hw : ∀ d ∈ tables_1, d.before a0 Z = true) (ws : List Jvm.Cond) (a1 : Addr) (h0 : Heap) (n0 : Nat) (Z0 : n0 ≤ h0.size) (F_startingAfter_a1 : Fld Z h0 a1 "com/example/acquirer/acquirer/PageRequest" "startingAfter" "Ljava/lang/String;" .null) (F_endingBefore_a1 : Fld Z h0 a1 "com/example/acquirer/acquirer/PageRequest" "endingBefore" "Ljava/lang/String;" .null) :
    MetFree l own_y4 (head1 (Jvm.Cond.code own_y4 prog_19_method_2_code 1 (some (.object "java/lang/String")) :: ws) ({ frames := 0, cells := 0, slots := 0, locals := 0 } : Room)) (fun a U => a = #[(.ref a1)] ∧ Z.Warmed39 U.vm ∧ U.heap = h0) (fun _ _ _ _ _ => True) (fun _ U o U' => ∃ v L, o = .returned v ∧ own_cur00_Q a1 h0 v U'.heap L ∧ FrameEnd U o U' L ({ frames := 0, cells := 0, slots := 0, locals := 0 } : Room).cells ({ frames := 0, cells := 0, slots := 0, locals := 0 } : Room).slots) := by
  refine MetFree.of_bodySF (plainFor_of_name own_pn_PageRequest) hisR ?_
  intro p e s m args below meth c s₁ Bd hml0 hP hK
  obtain ⟨rfl, hZ, hh⟩ := hP
  have hx := Bd.exec
  have hby := Bd.bytes
  have hml : c.maxLocals = 1 := hml0
  have hown : s.vm.findClass "com/example/acquirer/acquirer/PageRequest" = some m.cls := findClass_of_methodNamed Bd.named
  have hnm := (name_of_methodNamed Bd.named Bd.method).1
  have X0 : Stand p l e ({ frames := 0, cells := 0, slots := 0, locals := 0 } : Room) s m #[(.ref a1)] below meth c s₁ [] 0 0 := Stand.of_body Bd
  have e0 : s₁.heap = h0 := by rw [← hh, Bd.state]; rfl
  show own_E p e below (own_K (own_cur00_Q a1 h0) s ({ frames := 0, cells := 0, slots := 0, locals := 0 } : Room).cells ({ frames := 0, cells := 0, slots := 0, locals := 0 } : Room).slots) s₁ (entryFrame m #[(.ref a1)] 1)
  refine own_pre (own_cur00_ef m a1) ?_
  show own_E p e below _ s₁ (mkF m 0 #[rv a1] [])
  refine own_st (fun t k => XS.aloadN X0.here hx rfl (hb hby own_d_prog_19_method_2_0) rfl rfl k) ?_
  show own_E p e below _ s₁ (mkF m 1 #[rv a1] [.ref a1])
  obtain ⟨T1, X1, e1, st1⟩ := getF X0 hx hZ hown (host := "") (Or.inl (own_w hw 37 rfl)) Via.refl e0 F_startingAfter_a1 (g := (mkF m 1 #[rv a1] [.ref a1])) rfl rfl (hb hby own_d_prog_19_method_2_1)
  refine own_st st1 ?_
  show own_E p e below _ T1 (mkF m 4 #[rv a1] [.null])
  refine own_st (fun t k => XS.ifnullYes X1.here hx rfl (pc0 := 4) (pc' := 14) rfl (hb hby own_d_prog_19_method_2_4) rfl (by decide) (by decide) k) ?_
  show own_E p e below _ T1 (mkF m 14 #[rv a1] [])
  refine own_st (fun t k => XS.aloadN X1.here hx rfl (hb hby own_d_prog_19_method_2_14) rfl rfl k) ?_
  show own_E p e below _ T1 (mkF m 15 #[rv a1] [.ref a1])
  obtain ⟨T2, X2, e2, st2⟩ := getF X1 hx hZ hown (host := "") (Or.inl (own_w hw 39 rfl)) Via.refl e1 F_endingBefore_a1 (g := (mkF m 15 #[rv a1] [.ref a1])) rfl rfl (hb hby own_d_prog_19_method_2_15)
  refine own_st st2 ?_
  show own_E p e below _ T2 (mkF m 18 #[rv a1] [.null])
  refine own_retA X2 hx Bd.notSynchronized Bd.returns rfl rfl (hb hby own_d_prog_19_method_2_18) (by decide) (by decide) ?_
  exact ⟨rfl, e2, rfl⟩
theorem own_d_prog_19_method_3_0 : decode prog_19_method_3_code 0 = .ok (.aload_n 0, 1) := by decide +kernel
theorem own_d_prog_19_method_3_1 : decode prog_19_method_3_code 1 = .ok (.getfield 17, 3) := by decide +kernel
theorem own_d_prog_19_method_3_4 : decode prog_19_method_3_code 4 = .ok (.ifnull 7, 3) := by decide +kernel
theorem own_d_prog_19_method_3_11 : decode prog_19_method_3_code 11 = .ok (.iconst 0, 1) := by decide +kernel
theorem own_d_prog_19_method_3_12 : decode prog_19_method_3_code 12 = .ok (.ireturn, 1) := by decide +kernel
def own_bk00_Q (a1 : Addr) (h0 : Heap) (v : Option Value) (h : Heap) (L : List Loc) : Prop := ((v = some (.int (0 : Int32)))) ∧ h = h0 ∧ L = []
abbrev own_y5 : MethodName := ⟨"com/example/acquirer/acquirer/PageRequest", "backwards", "()Z"⟩
theorem own_bk00_ef (m : MethodId) (a1 : Addr) : entryFrame m #[(.ref a1)] 1 = mkF m 0 #[.val (.ref a1)] [] := by first | (simp [entryFrame, mkF, argsToLocals, Value.category]; done) | rfl
set_option maxRecDepth 65536 in
set_option maxHeartbeats 40000000 in
theorem own_bk00 (l : Launch) (Z : State) (a0 : Array Value) (hw : ∀ d ∈ tables_1, d.before a0 Z = true) (ws : List Jvm.Cond) (a1 : Addr) (h0 : Heap) (n0 : Nat) (Z0 : n0 ≤ h0.size) (F_startingAfter_a1 : Fld Z h0 a1 "com/example/acquirer/acquirer/PageRequest" "startingAfter" "Ljava/lang/String;" .null) (F_endingBefore_a1 : Fld Z h0 a1 "com/example/acquirer/acquirer/PageRequest" "endingBefore" "Ljava/lang/String;" .null) :
    MetFree l own_y5 (head1 (Jvm.Cond.code own_y5 prog_19_method_3_code 1 (some .boolean) :: ws) ({ frames := 0, cells := 0, slots := 0, locals := 0 } : Room)) (fun a U => a = #[(.ref a1)] ∧ Z.Warmed39 U.vm ∧ U.heap = h0) (fun _ _ _ _ _ => True) (fun _ U o U' => ∃ v L, o = .returned v ∧ own_bk00_Q a1 h0 v U'.heap L ∧ FrameEnd U o U' L ({ frames := 0, cells := 0, slots := 0, locals := 0 } : Room).cells ({ frames := 0, cells := 0, slots := 0, locals := 0 } : Room).slots) := by
  refine MetFree.of_bodySF (plainFor_of_name own_pn_PageRequest) hisR ?_
  intro p e s m args below meth c s₁ Bd hml0 hP hK
  obtain ⟨rfl, hZ, hh⟩ := hP
  have hx := Bd.exec
  have hby := Bd.bytes
  have hml : c.maxLocals = 1 := hml0
  have hown : s.vm.findClass "com/example/acquirer/acquirer/PageRequest" = some m.cls := findClass_of_methodNamed Bd.named
  have hnm := (name_of_methodNamed Bd.named Bd.method).1
  have X0 : Stand p l e ({ frames := 0, cells := 0, slots := 0, locals := 0 } : Room) s m #[(.ref a1)] below meth c s₁ [] 0 0 := Stand.of_body Bd
  have e0 : s₁.heap = h0 := by rw [← hh, Bd.state]; rfl
  show own_E p e below (own_K (own_bk00_Q a1 h0) s ({ frames := 0, cells := 0, slots := 0, locals := 0 } : Room).cells ({ frames := 0, cells := 0, slots := 0, locals := 0 } : Room).slots) s₁ (entryFrame m #[(.ref a1)] 1)
  refine own_pre (own_bk00_ef m a1) ?_
  show own_E p e below _ s₁ (mkF m 0 #[rv a1] [])
  refine own_st (fun t k => XS.aloadN X0.here hx rfl (hb hby own_d_prog_19_method_3_0) rfl rfl k) ?_
  show own_E p e below _ s₁ (mkF m 1 #[rv a1] [.ref a1])
  obtain ⟨T1, X1, e1, st1⟩ := getF X0 hx hZ hown (host := "") (Or.inl (own_w hw 39 rfl)) Via.refl e0 F_endingBefore_a1 (g := (mkF m 1 #[rv a1] [.ref a1])) rfl rfl (hb hby own_d_prog_19_method_3_1)
  refine own_st st1 ?_
  show own_E p e below _ T1 (mkF m 4 #[rv a1] [.null])
  refine own_st (fun t k => XS.ifnullYes X1.here hx rfl (pc0 := 4) (pc' := 11) rfl (hb hby own_d_prog_19_method_3_4) rfl (by decide) (by decide) k) ?_
  show own_E p e below _ T1 (mkF m 11 #[rv a1] [])
  refine own_st (fun t k => XS.iconst X1.here hx rfl (hb hby own_d_prog_19_method_3_11) k) ?_
  show own_E p e below _ T1 (mkF m 12 #[rv a1] [.int 0])
  refine own_retS X1 hx Bd.notSynchronized Bd.returns rfl (by decide) (hb hby own_d_prog_19_method_3_12) (by decide) (by decide) ?_
  exact ⟨rfl, e1, rfl⟩
def own_init100_Q (Z : State) (a1 : Addr) (r1 : Addr) (p1 : Int32) (h0 : Heap) (n0 : Nat) (v : Option Value) (h : Heap) (L : List Loc) : Prop := v = none ∧ Fr n0 L ∧ Keep h0 h [a1] ∧ Exa Z h a1 "com/example/acquirer/acquirer/PageRequest" ∧ Fld Z h a1 "com/example/acquirer/acquirer/PageRequest" "startingAfter" "Ljava/lang/String;" (.ref r1) ∧ Fld Z h a1 "com/example/acquirer/acquirer/PageRequest" "endingBefore" "Ljava/lang/String;" .null
theorem own_init100_ef (m : MethodId) (a1 : Addr) (r1 : Addr) (p1 : Int32) : entryFrame m #[(.ref a1), (.int p1), (.ref r1), .null, (.int (0 : Int32))] 5 = mkF m 0 #[.val (.ref a1), .val (.int p1), .val (.ref r1), .val .null, .val (.int (0 : Int32))] [] := by first | (simp [entryFrame, mkF, argsToLocals, Value.category]; done) | rfl
set_option maxRecDepth 65536 in
set_option maxHeartbeats 40000000 in
theorem own_init100 (l : Launch) (Z : State) (a0 : Array Value) (hw : ∀ d ∈ tables_1, d.before a0 Z = true) (ws : List Jvm.Cond) (a1 : Addr) (r1 : Addr) (p1 : Int32) (h0 : Heap) (n0 : Nat) (Z0 : n0 ≤ h0.size) (E_a1 : Exa Z h0 a1 "com/example/acquirer/acquirer/PageRequest") (F_limit_a1 : Fld Z h0 a1 "com/example/acquirer/acquirer/PageRequest" "limit" "I" (.int (0 : Int32))) (F_startingAfter_a1 : Fld Z h0 a1 "com/example/acquirer/acquirer/PageRequest" "startingAfter" "Ljava/lang/String;" .null) (F_endingBefore_a1 : Fld Z h0 a1 "com/example/acquirer/acquirer/PageRequest" "endingBefore" "Ljava/lang/String;" .null) (F_descending_a1 : Fld Z h0 a1 "com/example/acquirer/acquirer/PageRequest" "descending" "Z" (.int (0 : Int32))) (g_a1 : n0 ≤ a1) :
    MetFree l own_y3 (head1 (Jvm.Cond.code own_y3 prog_19_method_1_code 5 none :: ws) ({ frames := 2, cells := 0, slots := 0, locals := 24 } : Room)) (fun a U => a = #[(.ref a1), (.int p1), (.ref r1), .null, (.int (0 : Int32))] ∧ Z.Warmed39 U.vm ∧ U.heap = h0) (fun _ _ _ _ _ => True) (fun _ U o U' => ∃ v L, o = .returned v ∧ own_init100_Q Z a1 r1 p1 h0 n0 v U'.heap L ∧ FrameEnd U o U' L ({ frames := 2, cells := 0, slots := 0, locals := 24 } : Room).cells ({ frames := 2, cells := 0, slots := 0, locals := 24 } : Room).slots) := by
  refine MetFree.of_bodySF (plainFor_of_name own_pn_PageRequest) hisR ?_
  intro p e s m args below meth c s₁ Bd hml0 hP hK
  obtain ⟨rfl, hZ, hh⟩ := hP
  have hx := Bd.exec
  have hby := Bd.bytes
  have hml : c.maxLocals = 5 := hml0
  have hown : s.vm.findClass "com/example/acquirer/acquirer/PageRequest" = some m.cls := findClass_of_methodNamed Bd.named
  have hnm := (name_of_methodNamed Bd.named Bd.method).1
  have X0 : Stand p l e ({ frames := 2, cells := 0, slots := 0, locals := 24 } : Room) s m #[(.ref a1), (.int p1), (.ref r1), .null, (.int (0 : Int32))] below meth c s₁ [] 0 0 := Stand.of_body Bd
  have e0 : s₁.heap = h0 := by rw [← hh, Bd.state]; rfl
  show own_E p e below (own_K (own_init100_Q Z a1 r1 p1 h0 n0) s ({ frames := 2, cells := 0, slots := 0, locals := 24 } : Room).cells ({ frames := 2, cells := 0, slots := 0, locals := 24 } : Room).slots) s₁ (entryFrame m #[(.ref a1), (.int p1), (.ref r1), .null, (.int (0 : Int32))] 5)
  refine own_pre (own_init100_ef m a1 r1 p1) ?_
  show own_E p e below _ s₁ (mkF m 0 #[rv a1, iv p1, rv r1, .val (.null), iv 0] [])
  refine own_st (fun t k => XS.aloadN X0.here hx rfl (hb hby own_d_prog_19_method_1_0) rfl rfl k) ?_
  show own_E p e below _ s₁ (mkF m 1 #[rv a1, iv p1, rv r1, .val (.null), iv 0] [.ref a1])
  obtain ⟨_, _, ⟨T1, L1, k1, n1⟩, -, X1, ⟨Lc1, hQ1, l1, y1, z1⟩, st1⟩ := X0.specialBack hx (y := own_y2) rfl hown (mvT hZ (own_w hw 29 rfl)) (mvT hZ (own_w hw 30 rfl)) (mvT hZ (own_w hw 33 rfl)) (by decide) (backOf (W := 0) (own_rec l Z a0 hw [] a1 h0 n0 Z0 ) hZ (own_w hw 33 rfl) (own_w hw 32 rfl) (by decide) (by decide)) (g := (mkF m 1 #[rv a1, iv p1, rv r1, .val (.null), iv 0] [.ref a1])) rfl (by rw [hml]; rfl) (Steps.refl _) (a := a1) (argsL := []) (rest := []) (lenOf own_pd_1 rfl) rfl (by show 2 * 0 + _ ≤ _; exact Nat.le_of_eq rfl) (hb hby own_d_prog_19_method_1_1) (fun _ _ => ⟨rfl, e0, (by decide : 0 + 0 ≤ _), (by decide : 0 + 0 ≤ _)⟩)
  dsimp only [Pt.U, Pt.locs, Pt.cells, Pt.slots] at X1 l1 y1 z1 st1 hQ1
  subst l1 y1 z1
  obtain ⟨hR1, e1, rfl⟩ := hQ1
  have N1 := Fr.app (Fr.nil n0) (Fr.nil n0)
  obtain rfl := hR1
  refine own_tr st1 ?_
  show own_E p e below _ T1 (mkF m 4 #[rv a1, iv p1, rv r1, .val (.null), iv 0] [])
  refine own_st (fun t k => XS.aloadN X1.here hx rfl (hb hby own_d_prog_19_method_1_4) rfl rfl k) ?_
  show own_E p e below _ T1 (mkF m 5 #[rv a1, iv p1, rv r1, .val (.null), iv 0] [.ref a1])
  refine own_st (fun t k => XS.iloadN X1.here hx rfl (hb hby own_d_prog_19_method_1_5) rfl k) ?_
  show own_E p e below _ T1 (mkF m 6 #[rv a1, iv p1, rv r1, .val (.null), iv 0] [.int p1, .ref a1])
  obtain ⟨T2, h2, X2, e2, W2, st2⟩ := putF X1 hx hZ hown (host := "") (Or.inl (own_w hw 35 rfl)) Via.refl e1 F_limit_a1 E_a1 (Or.inr ⟨(own_w hw 36 rfl), rfl, hnm⟩) (own_w hw 24 rfl) (ty := .int) (by decide) rfl rfl (g := (mkF m 6 #[rv a1, iv p1, rv r1, .val (.null), iv 0] [.int p1, .ref a1])) rfl rfl (hb hby own_d_prog_19_method_1_6)
  have N2 := Fr.snoc X2 N1 g_a1
  have Fw2 := F_limit_a1.same W2
  have Z3 := Nat.le_trans Z0 (Keep.of_wr W2).1
  have K4 : Keep h0 _ [a1] := (Keep.refl h0 [a1]).wr W2 (Or.inl (List.mem_of_getElem? (i := 0) rfl))
  refine own_st st2 ?_
  show own_E p e below _ T2 (mkF m 9 #[rv a1, iv p1, rv r1, .val (.null), iv 0] [])
  refine own_st (fun t k => XS.aloadN X2.here hx rfl (hb hby own_d_prog_19_method_1_9) rfl rfl k) ?_
  show own_E p e below _ T2 (mkF m 10 #[rv a1, iv p1, rv r1, .val (.null), iv 0] [.ref a1])
  refine own_st (fun t k => XS.aloadN X2.here hx rfl (hb hby own_d_prog_19_method_1_10) rfl rfl k) ?_
  show own_E p e below _ T2 (mkF m 11 #[rv a1, iv p1, rv r1, .val (.null), iv 0] [.ref r1, .ref a1])
  have B6 := (F_startingAfter_a1.other W2 (Or.inr (slot_ne (Or.inr (own_w hw 38 rfl)) (Or.inr (own_w hw 36 rfl)) (by decide) (t := (.object "java/lang/String")) (t' := .int) (by decide) (by decide))))
  have B7 := (E_a1.wr W2)
  obtain ⟨T5, h5, X5, e5, W5, st5⟩ := putF X2 hx hZ hown (host := "") (Or.inl (own_w hw 37 rfl)) Via.refl e2 B6 B7 (Or.inr ⟨(own_w hw 38 rfl), rfl, hnm⟩) (own_w hw 24 rfl) (ty := (.object "java/lang/String")) (by decide) rfl rfl (g := (mkF m 11 #[rv a1, iv p1, rv r1, .val (.null), iv 0] [.ref r1, .ref a1])) rfl rfl (hb hby own_d_prog_19_method_1_11)
  have N5 := Fr.snoc X5 N2 g_a1
  have Fw5 := B6.same W5
  have Z8 := Nat.le_trans Z3 (Keep.of_wr W5).1
  have K9 : Keep h0 _ [a1] := K4.wr W5 (Or.inl (List.mem_of_getElem? (i := 0) rfl))
  refine own_st st5 ?_
  show own_E p e below _ T5 (mkF m 14 #[rv a1, iv p1, rv r1, .val (.null), iv 0] [])
  refine own_st (fun t k => XS.aloadN X5.here hx rfl (hb hby own_d_prog_19_method_1_14) rfl rfl k) ?_
  show own_E p e below _ T5 (mkF m 15 #[rv a1, iv p1, rv r1, .val (.null), iv 0] [.ref a1])
  refine own_st (fun t k => XS.aloadN X5.here hx rfl (hb hby own_d_prog_19_method_1_15) rfl rfl k) ?_
  show own_E p e below _ T5 (mkF m 16 #[rv a1, iv p1, rv r1, .val (.null), iv 0] [.null, .ref a1])
  have B11 := ((F_endingBefore_a1.other W2 (Or.inr (slot_ne (Or.inr (own_w hw 40 rfl)) (Or.inr (own_w hw 36 rfl)) (by decide) (t := (.object "java/lang/String")) (t' := .int) (by decide) (by decide)))).other W5 (Or.inr (slot_ne (Or.inr (own_w hw 40 rfl)) (Or.inr (own_w hw 38 rfl)) (by decide) (t := (.object "java/lang/String")) (t' := (.object "java/lang/String")) (by decide) (by decide))))
  have B12 := (B7.wr W5)
  obtain ⟨T10, h10, X10, e10, W10, st10⟩ := putF X5 hx hZ hown (host := "") (Or.inl (own_w hw 39 rfl)) Via.refl e5 B11 B12 (Or.inr ⟨(own_w hw 40 rfl), rfl, hnm⟩) (own_w hw 24 rfl) (ty := (.object "java/lang/String")) (by decide) rfl rfl (g := (mkF m 16 #[rv a1, iv p1, rv r1, .val (.null), iv 0] [.null, .ref a1])) rfl rfl (hb hby own_d_prog_19_method_1_16)
  have N10 := Fr.snoc X10 N5 g_a1
  have Fw10 := B11.same W10
  have Z13 := Nat.le_trans Z8 (Keep.of_wr W10).1
  have K14 : Keep h0 _ [a1] := K9.wr W10 (Or.inl (List.mem_of_getElem? (i := 0) rfl))
  refine own_st st10 ?_
  show own_E p e below _ T10 (mkF m 19 #[rv a1, iv p1, rv r1, .val (.null), iv 0] [])
  refine own_st (fun t k => XS.aloadN X10.here hx rfl (hb hby own_d_prog_19_method_1_19) rfl rfl k) ?_
  show own_E p e below _ T10 (mkF m 20 #[rv a1, iv p1, rv r1, .val (.null), iv 0] [.ref a1])
  refine own_st (fun t k => XS.iload X10.here hx rfl (hb hby own_d_prog_19_method_1_20) rfl k) ?_
  show own_E p e below _ T10 (mkF m 22 #[rv a1, iv p1, rv r1, .val (.null), iv 0] [.int 0, .ref a1])
  have B16 := (((F_descending_a1.other W2 (Or.inr (slot_ne (Or.inr (own_w hw 42 rfl)) (Or.inr (own_w hw 36 rfl)) (by decide) (t := .boolean) (t' := .int) (by decide) (by decide)))).other W5 (Or.inr (slot_ne (Or.inr (own_w hw 42 rfl)) (Or.inr (own_w hw 38 rfl)) (by decide) (t := .boolean) (t' := (.object "java/lang/String")) (by decide) (by decide)))).other W10 (Or.inr (slot_ne (Or.inr (own_w hw 42 rfl)) (Or.inr (own_w hw 40 rfl)) (by decide) (t := .boolean) (t' := (.object "java/lang/String")) (by decide) (by decide))))
  have B17 := (B12.wr W10)
  obtain ⟨T15, h15, X15, e15, W15, st15⟩ := putF X10 hx hZ hown (host := "") (Or.inl (own_w hw 41 rfl)) Via.refl e10 B16 B17 (Or.inr ⟨(own_w hw 42 rfl), rfl, hnm⟩) (own_w hw 24 rfl) (ty := .boolean) (by decide) rfl rfl (g := (mkF m 22 #[rv a1, iv p1, rv r1, .val (.null), iv 0] [.int 0, .ref a1])) rfl rfl (hb hby own_d_prog_19_method_1_22)
  have N15 := Fr.snoc X15 N10 g_a1
  have Fw15 := B16.same W15
  have Z18 := Nat.le_trans Z13 (Keep.of_wr W15).1
  have K19 : Keep h0 _ [a1] := K14.wr W15 (Or.inl (List.mem_of_getElem? (i := 0) rfl))
  refine own_st st15 ?_
  show own_E p e below _ T15 (mkF m 25 #[rv a1, iv p1, rv r1, .val (.null), iv 0] [])
  refine own_retV X15 hx Bd.notSynchronized Bd.returns (hb hby own_d_prog_19_method_1_25) (by decide) (by decide) ?_
  have B20 := (B17.wr W15)
  have B21 := ((Fw5.other W10 (Or.inr (slot_ne (Or.inr (own_w hw 38 rfl)) (Or.inr (own_w hw 40 rfl)) (by decide) (t := (.object "java/lang/String")) (t' := (.object "java/lang/String")) (by decide) (by decide)))).other W15 (Or.inr (slot_ne (Or.inr (own_w hw 38 rfl)) (Or.inr (own_w hw 42 rfl)) (by decide) (t := (.object "java/lang/String")) (t' := .boolean) (by decide) (by decide))))
  have B22 := (Fw10.other W15 (Or.inr (slot_ne (Or.inr (own_w hw 40 rfl)) (Or.inr (own_w hw 42 rfl)) (by decide) (t := (.object "java/lang/String")) (t' := .boolean) (by decide) (by decide))))
  show own_init100_Q Z a1 r1 p1 h0 n0 _ T15.heap _
  rw [e15]
  exact ⟨rfl, N15, K19, B20, B21, B22⟩
def own_init101_Q (Z : State) (a1 : Addr) (r1 : Addr) (p1 : Int32) (h0 : Heap) (n0 : Nat) (v : Option Value) (h : Heap) (L : List Loc) : Prop := v = none ∧ Fr n0 L ∧ Keep h0 h [a1] ∧ Exa Z h a1 "com/example/acquirer/acquirer/PageRequest" ∧ Fld Z h a1 "com/example/acquirer/acquirer/PageRequest" "startingAfter" "Ljava/lang/String;" (.ref r1) ∧ Fld Z h a1 "com/example/acquirer/acquirer/PageRequest" "endingBefore" "Ljava/lang/String;" .null
theorem own_init101_ef (m : MethodId) (a1 : Addr) (r1 : Addr) (p1 : Int32) : entryFrame m #[(.ref a1), (.int p1), (.ref r1), .null, (.int (1 : Int32))] 5 = mkF m 0 #[.val (.ref a1), .val (.int p1), .val (.ref r1), .val .null, .val (.int (1 : Int32))] [] := by first | (simp [entryFrame, mkF, argsToLocals, Value.category]; done) | rfl
set_option maxRecDepth 65536 in
set_option maxHeartbeats 40000000 in
theorem own_init101 (l : Launch) (Z : State) (a0 : Array Value) (hw : ∀ d ∈ tables_1, d.before a0 Z = true) (ws : List Jvm.Cond) (a1 : Addr) (r1 : Addr) (p1 : Int32) (h0 : Heap) (n0 : Nat) (Z0 : n0 ≤ h0.size) (E_a1 : Exa Z h0 a1 "com/example/acquirer/acquirer/PageRequest") (F_limit_a1 : Fld Z h0 a1 "com/example/acquirer/acquirer/PageRequest" "limit" "I" (.int (0 : Int32))) (F_startingAfter_a1 : Fld Z h0 a1 "com/example/acquirer/acquirer/PageRequest" "startingAfter" "Ljava/lang/String;" .null) (F_endingBefore_a1 : Fld Z h0 a1 "com/example/acquirer/acquirer/PageRequest" "endingBefore" "Ljava/lang/String;" .null) (F_descending_a1 : Fld Z h0 a1 "com/example/acquirer/acquirer/PageRequest" "descending" "Z" (.int (0 : Int32))) (g_a1 : n0 ≤ a1) :
    MetFree l own_y3 (head1 (Jvm.Cond.code own_y3 prog_19_method_1_code 5 none :: ws) ({ frames := 2, cells := 0, slots := 0, locals := 24 } : Room)) (fun a U => a = #[(.ref a1), (.int p1), (.ref r1), .null, (.int (1 : Int32))] ∧ Z.Warmed39 U.vm ∧ U.heap = h0) (fun _ _ _ _ _ => True) (fun _ U o U' => ∃ v L, o = .returned v ∧ own_init101_Q Z a1 r1 p1 h0 n0 v U'.heap L ∧ FrameEnd U o U' L ({ frames := 2, cells := 0, slots := 0, locals := 24 } : Room).cells ({ frames := 2, cells := 0, slots := 0, locals := 24 } : Room).slots) := by
  refine MetFree.of_bodySF (plainFor_of_name own_pn_PageRequest) hisR ?_
  intro p e s m args below meth c s₁ Bd hml0 hP hK
  obtain ⟨rfl, hZ, hh⟩ := hP
  have hx := Bd.exec
  have hby := Bd.bytes
  have hml : c.maxLocals = 5 := hml0
  have hown : s.vm.findClass "com/example/acquirer/acquirer/PageRequest" = some m.cls := findClass_of_methodNamed Bd.named
  have hnm := (name_of_methodNamed Bd.named Bd.method).1
  have X0 : Stand p l e ({ frames := 2, cells := 0, slots := 0, locals := 24 } : Room) s m #[(.ref a1), (.int p1), (.ref r1), .null, (.int (1 : Int32))] below meth c s₁ [] 0 0 := Stand.of_body Bd
  have e0 : s₁.heap = h0 := by rw [← hh, Bd.state]; rfl
  show own_E p e below (own_K (own_init101_Q Z a1 r1 p1 h0 n0) s ({ frames := 2, cells := 0, slots := 0, locals := 24 } : Room).cells ({ frames := 2, cells := 0, slots := 0, locals := 24 } : Room).slots) s₁ (entryFrame m #[(.ref a1), (.int p1), (.ref r1), .null, (.int (1 : Int32))] 5)
  refine own_pre (own_init101_ef m a1 r1 p1) ?_
  show own_E p e below _ s₁ (mkF m 0 #[rv a1, iv p1, rv r1, .val (.null), iv 1] [])
  refine own_st (fun t k => XS.aloadN X0.here hx rfl (hb hby own_d_prog_19_method_1_0) rfl rfl k) ?_
  show own_E p e below _ s₁ (mkF m 1 #[rv a1, iv p1, rv r1, .val (.null), iv 1] [.ref a1])
  obtain ⟨_, _, ⟨T1, L1, k1, n1⟩, -, X1, ⟨Lc1, hQ1, l1, y1, z1⟩, st1⟩ := X0.specialBack hx (y := own_y2) rfl hown (mvT hZ (own_w hw 29 rfl)) (mvT hZ (own_w hw 30 rfl)) (mvT hZ (own_w hw 33 rfl)) (by decide) (backOf (W := 0) (own_rec l Z a0 hw [] a1 h0 n0 Z0 ) hZ (own_w hw 33 rfl) (own_w hw 32 rfl) (by decide) (by decide)) (g := (mkF m 1 #[rv a1, iv p1, rv r1, .val (.null), iv 1] [.ref a1])) rfl (by rw [hml]; rfl) (Steps.refl _) (a := a1) (argsL := []) (rest := []) (lenOf own_pd_1 rfl) rfl (by show 2 * 0 + _ ≤ _; exact Nat.le_of_eq rfl) (hb hby own_d_prog_19_method_1_1) (fun _ _ => ⟨rfl, e0, (by decide : 0 + 0 ≤ _), (by decide : 0 + 0 ≤ _)⟩)
  dsimp only [Pt.U, Pt.locs, Pt.cells, Pt.slots] at X1 l1 y1 z1 st1 hQ1
  subst l1 y1 z1
  obtain ⟨hR1, e1, rfl⟩ := hQ1
  have N1 := Fr.app (Fr.nil n0) (Fr.nil n0)
  obtain rfl := hR1
  refine own_tr st1 ?_
  show own_E p e below _ T1 (mkF m 4 #[rv a1, iv p1, rv r1, .val (.null), iv 1] [])
  refine own_st (fun t k => XS.aloadN X1.here hx rfl (hb hby own_d_prog_19_method_1_4) rfl rfl k) ?_
  show own_E p e below _ T1 (mkF m 5 #[rv a1, iv p1, rv r1, .val (.null), iv 1] [.ref a1])
  refine own_st (fun t k => XS.iloadN X1.here hx rfl (hb hby own_d_prog_19_method_1_5) rfl k) ?_
  show own_E p e below _ T1 (mkF m 6 #[rv a1, iv p1, rv r1, .val (.null), iv 1] [.int p1, .ref a1])
  obtain ⟨T2, h2, X2, e2, W2, st2⟩ := putF X1 hx hZ hown (host := "") (Or.inl (own_w hw 35 rfl)) Via.refl e1 F_limit_a1 E_a1 (Or.inr ⟨(own_w hw 36 rfl), rfl, hnm⟩) (own_w hw 24 rfl) (ty := .int) (by decide) rfl rfl (g := (mkF m 6 #[rv a1, iv p1, rv r1, .val (.null), iv 1] [.int p1, .ref a1])) rfl rfl (hb hby own_d_prog_19_method_1_6)
  have N2 := Fr.snoc X2 N1 g_a1
  have Fw2 := F_limit_a1.same W2
  have Z3 := Nat.le_trans Z0 (Keep.of_wr W2).1
  have K4 : Keep h0 _ [a1] := (Keep.refl h0 [a1]).wr W2 (Or.inl (List.mem_of_getElem? (i := 0) rfl))
  refine own_st st2 ?_
  show own_E p e below _ T2 (mkF m 9 #[rv a1, iv p1, rv r1, .val (.null), iv 1] [])
  refine own_st (fun t k => XS.aloadN X2.here hx rfl (hb hby own_d_prog_19_method_1_9) rfl rfl k) ?_
  show own_E p e below _ T2 (mkF m 10 #[rv a1, iv p1, rv r1, .val (.null), iv 1] [.ref a1])
  refine own_st (fun t k => XS.aloadN X2.here hx rfl (hb hby own_d_prog_19_method_1_10) rfl rfl k) ?_
  show own_E p e below _ T2 (mkF m 11 #[rv a1, iv p1, rv r1, .val (.null), iv 1] [.ref r1, .ref a1])
  have B6 := (F_startingAfter_a1.other W2 (Or.inr (slot_ne (Or.inr (own_w hw 38 rfl)) (Or.inr (own_w hw 36 rfl)) (by decide) (t := (.object "java/lang/String")) (t' := .int) (by decide) (by decide))))
  have B7 := (E_a1.wr W2)
  obtain ⟨T5, h5, X5, e5, W5, st5⟩ := putF X2 hx hZ hown (host := "") (Or.inl (own_w hw 37 rfl)) Via.refl e2 B6 B7 (Or.inr ⟨(own_w hw 38 rfl), rfl, hnm⟩) (own_w hw 24 rfl) (ty := (.object "java/lang/String")) (by decide) rfl rfl (g := (mkF m 11 #[rv a1, iv p1, rv r1, .val (.null), iv 1] [.ref r1, .ref a1])) rfl rfl (hb hby own_d_prog_19_method_1_11)
  have N5 := Fr.snoc X5 N2 g_a1
  have Fw5 := B6.same W5
  have Z8 := Nat.le_trans Z3 (Keep.of_wr W5).1
  have K9 : Keep h0 _ [a1] := K4.wr W5 (Or.inl (List.mem_of_getElem? (i := 0) rfl))
  refine own_st st5 ?_
  show own_E p e below _ T5 (mkF m 14 #[rv a1, iv p1, rv r1, .val (.null), iv 1] [])
  refine own_st (fun t k => XS.aloadN X5.here hx rfl (hb hby own_d_prog_19_method_1_14) rfl rfl k) ?_
  show own_E p e below _ T5 (mkF m 15 #[rv a1, iv p1, rv r1, .val (.null), iv 1] [.ref a1])
  refine own_st (fun t k => XS.aloadN X5.here hx rfl (hb hby own_d_prog_19_method_1_15) rfl rfl k) ?_
  show own_E p e below _ T5 (mkF m 16 #[rv a1, iv p1, rv r1, .val (.null), iv 1] [.null, .ref a1])
  have B11 := ((F_endingBefore_a1.other W2 (Or.inr (slot_ne (Or.inr (own_w hw 40 rfl)) (Or.inr (own_w hw 36 rfl)) (by decide) (t := (.object "java/lang/String")) (t' := .int) (by decide) (by decide)))).other W5 (Or.inr (slot_ne (Or.inr (own_w hw 40 rfl)) (Or.inr (own_w hw 38 rfl)) (by decide) (t := (.object "java/lang/String")) (t' := (.object "java/lang/String")) (by decide) (by decide))))
  have B12 := (B7.wr W5)
  obtain ⟨T10, h10, X10, e10, W10, st10⟩ := putF X5 hx hZ hown (host := "") (Or.inl (own_w hw 39 rfl)) Via.refl e5 B11 B12 (Or.inr ⟨(own_w hw 40 rfl), rfl, hnm⟩) (own_w hw 24 rfl) (ty := (.object "java/lang/String")) (by decide) rfl rfl (g := (mkF m 16 #[rv a1, iv p1, rv r1, .val (.null), iv 1] [.null, .ref a1])) rfl rfl (hb hby own_d_prog_19_method_1_16)
  have N10 := Fr.snoc X10 N5 g_a1
  have Fw10 := B11.same W10
  have Z13 := Nat.le_trans Z8 (Keep.of_wr W10).1
  have K14 : Keep h0 _ [a1] := K9.wr W10 (Or.inl (List.mem_of_getElem? (i := 0) rfl))
  refine own_st st10 ?_
  show own_E p e below _ T10 (mkF m 19 #[rv a1, iv p1, rv r1, .val (.null), iv 1] [])
  refine own_st (fun t k => XS.aloadN X10.here hx rfl (hb hby own_d_prog_19_method_1_19) rfl rfl k) ?_
  show own_E p e below _ T10 (mkF m 20 #[rv a1, iv p1, rv r1, .val (.null), iv 1] [.ref a1])
  refine own_st (fun t k => XS.iload X10.here hx rfl (hb hby own_d_prog_19_method_1_20) rfl k) ?_
  show own_E p e below _ T10 (mkF m 22 #[rv a1, iv p1, rv r1, .val (.null), iv 1] [.int 1, .ref a1])
  have B16 := (((F_descending_a1.other W2 (Or.inr (slot_ne (Or.inr (own_w hw 42 rfl)) (Or.inr (own_w hw 36 rfl)) (by decide) (t := .boolean) (t' := .int) (by decide) (by decide)))).other W5 (Or.inr (slot_ne (Or.inr (own_w hw 42 rfl)) (Or.inr (own_w hw 38 rfl)) (by decide) (t := .boolean) (t' := (.object "java/lang/String")) (by decide) (by decide)))).other W10 (Or.inr (slot_ne (Or.inr (own_w hw 42 rfl)) (Or.inr (own_w hw 40 rfl)) (by decide) (t := .boolean) (t' := (.object "java/lang/String")) (by decide) (by decide))))
  have B17 := (B12.wr W10)
  obtain ⟨T15, h15, X15, e15, W15, st15⟩ := putF X10 hx hZ hown (host := "") (Or.inl (own_w hw 41 rfl)) Via.refl e10 B16 B17 (Or.inr ⟨(own_w hw 42 rfl), rfl, hnm⟩) (own_w hw 24 rfl) (ty := .boolean) (by decide) rfl rfl (g := (mkF m 22 #[rv a1, iv p1, rv r1, .val (.null), iv 1] [.int 1, .ref a1])) rfl rfl (hb hby own_d_prog_19_method_1_22)
  have N15 := Fr.snoc X15 N10 g_a1
  have Fw15 := B16.same W15
  have Z18 := Nat.le_trans Z13 (Keep.of_wr W15).1
  have K19 : Keep h0 _ [a1] := K14.wr W15 (Or.inl (List.mem_of_getElem? (i := 0) rfl))
  refine own_st st15 ?_
  show own_E p e below _ T15 (mkF m 25 #[rv a1, iv p1, rv r1, .val (.null), iv 1] [])
  refine own_retV X15 hx Bd.notSynchronized Bd.returns (hb hby own_d_prog_19_method_1_25) (by decide) (by decide) ?_
  have B20 := (B17.wr W15)
  have B21 := ((Fw5.other W10 (Or.inr (slot_ne (Or.inr (own_w hw 38 rfl)) (Or.inr (own_w hw 40 rfl)) (by decide) (t := (.object "java/lang/String")) (t' := (.object "java/lang/String")) (by decide) (by decide)))).other W15 (Or.inr (slot_ne (Or.inr (own_w hw 38 rfl)) (Or.inr (own_w hw 42 rfl)) (by decide) (t := (.object "java/lang/String")) (t' := .boolean) (by decide) (by decide))))
  have B22 := (Fw10.other W15 (Or.inr (slot_ne (Or.inr (own_w hw 40 rfl)) (Or.inr (own_w hw 42 rfl)) (by decide) (t := (.object "java/lang/String")) (t' := .boolean) (by decide) (by decide))))
  show own_init101_Q Z a1 r1 p1 h0 n0 _ T15.heap _
  rw [e15]
  exact ⟨rfl, N15, K19, B20, B21, B22⟩
theorem own_d_prog_19_method_2_7 : decode prog_19_method_2_code 7 = .ok (.aload_n 0, 1) := by decide +kernel
theorem own_d_prog_19_method_2_8 : decode prog_19_method_2_code 8 = .ok (.getfield 13, 3) := by decide +kernel
theorem own_d_prog_19_method_2_11 : decode prog_19_method_2_code 11 = .ok (.goto 7, 3) := by decide +kernel
def own_cur10_Q (a1 : Addr) (r1 : Addr) (h0 : Heap) (v : Option Value) (h : Heap) (L : List Loc) : Prop := ((v = some (.ref r1))) ∧ h = h0 ∧ L = []
theorem own_cur10_ef (m : MethodId) (a1 : Addr) (r1 : Addr) : entryFrame m #[(.ref a1)] 1 = mkF m 0 #[.val (.ref a1)] [] := by first | (simp [entryFrame, mkF, argsToLocals, Value.category]; done) | rfl
set_option maxRecDepth 65536 in
set_option maxHeartbeats 40000000 in
theorem own_cur10 (l : Launch) (Z : State) (a0 : Array Value) (hw : ∀ d ∈ tables_1, d.before a0 Z = true) (ws : List Jvm.Cond) (a1 : Addr) (r1 : Addr) (h0 : Heap) (n0 : Nat) (Z0 : n0 ≤ h0.size) (F_startingAfter_a1 : Fld Z h0 a1 "com/example/acquirer/acquirer/PageRequest" "startingAfter" "Ljava/lang/String;" (.ref r1)) (F_endingBefore_a1 : Fld Z h0 a1 "com/example/acquirer/acquirer/PageRequest" "endingBefore" "Ljava/lang/String;" .null) :
    MetFree l own_y4 (head1 (Jvm.Cond.code own_y4 prog_19_method_2_code 1 (some (.object "java/lang/String")) :: ws) ({ frames := 0, cells := 0, slots := 0, locals := 0 } : Room)) (fun a U => a = #[(.ref a1)] ∧ Z.Warmed39 U.vm ∧ U.heap = h0) (fun _ _ _ _ _ => True) (fun _ U o U' => ∃ v L, o = .returned v ∧ own_cur10_Q a1 r1 h0 v U'.heap L ∧ FrameEnd U o U' L ({ frames := 0, cells := 0, slots := 0, locals := 0 } : Room).cells ({ frames := 0, cells := 0, slots := 0, locals := 0 } : Room).slots) := by
  refine MetFree.of_bodySF (plainFor_of_name own_pn_PageRequest) hisR ?_
  intro p e s m args below meth c s₁ Bd hml0 hP hK
  obtain ⟨rfl, hZ, hh⟩ := hP
  have hx := Bd.exec
  have hby := Bd.bytes
  have hml : c.maxLocals = 1 := hml0
  have hown : s.vm.findClass "com/example/acquirer/acquirer/PageRequest" = some m.cls := findClass_of_methodNamed Bd.named
  have hnm := (name_of_methodNamed Bd.named Bd.method).1
  have X0 : Stand p l e ({ frames := 0, cells := 0, slots := 0, locals := 0 } : Room) s m #[(.ref a1)] below meth c s₁ [] 0 0 := Stand.of_body Bd
  have e0 : s₁.heap = h0 := by rw [← hh, Bd.state]; rfl
  show own_E p e below (own_K (own_cur10_Q a1 r1 h0) s ({ frames := 0, cells := 0, slots := 0, locals := 0 } : Room).cells ({ frames := 0, cells := 0, slots := 0, locals := 0 } : Room).slots) s₁ (entryFrame m #[(.ref a1)] 1)
  refine own_pre (own_cur10_ef m a1 r1) ?_
  show own_E p e below _ s₁ (mkF m 0 #[rv a1] [])
  refine own_st (fun t k => XS.aloadN X0.here hx rfl (hb hby own_d_prog_19_method_2_0) rfl rfl k) ?_
  show own_E p e below _ s₁ (mkF m 1 #[rv a1] [.ref a1])
  obtain ⟨T1, X1, e1, st1⟩ := getF X0 hx hZ hown (host := "") (Or.inl (own_w hw 37 rfl)) Via.refl e0 F_startingAfter_a1 (g := (mkF m 1 #[rv a1] [.ref a1])) rfl rfl (hb hby own_d_prog_19_method_2_1)
  refine own_st st1 ?_
  show own_E p e below _ T1 (mkF m 4 #[rv a1] [.ref r1])
  refine own_st (fun t k => XS.ifnullNo X1.here hx rfl (hb hby own_d_prog_19_method_2_4) rfl k) ?_
  show own_E p e below _ T1 (mkF m 7 #[rv a1] [])
  refine own_st (fun t k => XS.aloadN X1.here hx rfl (hb hby own_d_prog_19_method_2_7) rfl rfl k) ?_
  show own_E p e below _ T1 (mkF m 8 #[rv a1] [.ref a1])
  obtain ⟨T2, X2, e2, st2⟩ := getF X1 hx hZ hown (host := "") (Or.inl (own_w hw 37 rfl)) Via.refl e1 F_startingAfter_a1 (g := (mkF m 8 #[rv a1] [.ref a1])) rfl rfl (hb hby own_d_prog_19_method_2_8)
  refine own_st st2 ?_
  show own_E p e below _ T2 (mkF m 11 #[rv a1] [.ref r1])
  refine own_st (fun t k => XS.goto X2.here hx rfl (pc0 := 11) (pc' := 18) rfl (hb hby own_d_prog_19_method_2_11) (by decide) (by decide) k) ?_
  show own_E p e below _ T2 (mkF m 18 #[rv a1] [.ref r1])
  refine own_retA X2 hx Bd.notSynchronized Bd.returns rfl rfl (hb hby own_d_prog_19_method_2_18) (by decide) (by decide) ?_
  exact ⟨rfl, e2, rfl⟩
def own_bk10_Q (a1 : Addr) (r1 : Addr) (h0 : Heap) (v : Option Value) (h : Heap) (L : List Loc) : Prop := ((v = some (.int (0 : Int32)))) ∧ h = h0 ∧ L = []
theorem own_bk10_ef (m : MethodId) (a1 : Addr) (r1 : Addr) : entryFrame m #[(.ref a1)] 1 = mkF m 0 #[.val (.ref a1)] [] := by first | (simp [entryFrame, mkF, argsToLocals, Value.category]; done) | rfl
set_option maxRecDepth 65536 in
set_option maxHeartbeats 40000000 in
theorem own_bk10 (l : Launch) (Z : State) (a0 : Array Value) (hw : ∀ d ∈ tables_1, d.before a0 Z = true) (ws : List Jvm.Cond) (a1 : Addr) (r1 : Addr) (h0 : Heap) (n0 : Nat) (Z0 : n0 ≤ h0.size) (F_startingAfter_a1 : Fld Z h0 a1 "com/example/acquirer/acquirer/PageRequest" "startingAfter" "Ljava/lang/String;" (.ref r1)) (F_endingBefore_a1 : Fld Z h0 a1 "com/example/acquirer/acquirer/PageRequest" "endingBefore" "Ljava/lang/String;" .null) :
    MetFree l own_y5 (head1 (Jvm.Cond.code own_y5 prog_19_method_3_code 1 (some .boolean) :: ws) ({ frames := 0, cells := 0, slots := 0, locals := 0 } : Room)) (fun a U => a = #[(.ref a1)] ∧ Z.Warmed39 U.vm ∧ U.heap = h0) (fun _ _ _ _ _ => True) (fun _ U o U' => ∃ v L, o = .returned v ∧ own_bk10_Q a1 r1 h0 v U'.heap L ∧ FrameEnd U o U' L ({ frames := 0, cells := 0, slots := 0, locals := 0 } : Room).cells ({ frames := 0, cells := 0, slots := 0, locals := 0 } : Room).slots) := by
  refine MetFree.of_bodySF (plainFor_of_name own_pn_PageRequest) hisR ?_
  intro p e s m args below meth c s₁ Bd hml0 hP hK
  obtain ⟨rfl, hZ, hh⟩ := hP
  have hx := Bd.exec
  have hby := Bd.bytes
  have hml : c.maxLocals = 1 := hml0
  have hown : s.vm.findClass "com/example/acquirer/acquirer/PageRequest" = some m.cls := findClass_of_methodNamed Bd.named
  have hnm := (name_of_methodNamed Bd.named Bd.method).1
  have X0 : Stand p l e ({ frames := 0, cells := 0, slots := 0, locals := 0 } : Room) s m #[(.ref a1)] below meth c s₁ [] 0 0 := Stand.of_body Bd
  have e0 : s₁.heap = h0 := by rw [← hh, Bd.state]; rfl
  show own_E p e below (own_K (own_bk10_Q a1 r1 h0) s ({ frames := 0, cells := 0, slots := 0, locals := 0 } : Room).cells ({ frames := 0, cells := 0, slots := 0, locals := 0 } : Room).slots) s₁ (entryFrame m #[(.ref a1)] 1)
  refine own_pre (own_bk10_ef m a1 r1) ?_
  show own_E p e below _ s₁ (mkF m 0 #[rv a1] [])
  refine own_st (fun t k => XS.aloadN X0.here hx rfl (hb hby own_d_prog_19_method_3_0) rfl rfl k) ?_
  show own_E p e below _ s₁ (mkF m 1 #[rv a1] [.ref a1])
  obtain ⟨T1, X1, e1, st1⟩ := getF X0 hx hZ hown (host := "") (Or.inl (own_w hw 39 rfl)) Via.refl e0 F_endingBefore_a1 (g := (mkF m 1 #[rv a1] [.ref a1])) rfl rfl (hb hby own_d_prog_19_method_3_1)
  refine own_st st1 ?_
  show own_E p e below _ T1 (mkF m 4 #[rv a1] [.null])
  refine own_st (fun t k => XS.ifnullYes X1.here hx rfl (pc0 := 4) (pc' := 11) rfl (hb hby own_d_prog_19_method_3_4) rfl (by decide) (by decide) k) ?_
  show own_E p e below _ T1 (mkF m 11 #[rv a1] [])
  refine own_st (fun t k => XS.iconst X1.here hx rfl (hb hby own_d_prog_19_method_3_11) k) ?_
  show own_E p e below _ T1 (mkF m 12 #[rv a1] [.int 0])
  refine own_retS X1 hx Bd.notSynchronized Bd.returns rfl (by decide) (hb hby own_d_prog_19_method_3_12) (by decide) (by decide) ?_
  exact ⟨rfl, e1, rfl⟩
def own_init010_Q (Z : State) (a1 : Addr) (r1 : Addr) (p1 : Int32) (h0 : Heap) (n0 : Nat) (v : Option Value) (h : Heap) (L : List Loc) : Prop := v = none ∧ Fr n0 L ∧ Keep h0 h [a1] ∧ Exa Z h a1 "com/example/acquirer/acquirer/PageRequest" ∧ Fld Z h a1 "com/example/acquirer/acquirer/PageRequest" "startingAfter" "Ljava/lang/String;" .null ∧ Fld Z h a1 "com/example/acquirer/acquirer/PageRequest" "endingBefore" "Ljava/lang/String;" (.ref r1)
theorem own_init010_ef (m : MethodId) (a1 : Addr) (r1 : Addr) (p1 : Int32) : entryFrame m #[(.ref a1), (.int p1), .null, (.ref r1), (.int (0 : Int32))] 5 = mkF m 0 #[.val (.ref a1), .val (.int p1), .val .null, .val (.ref r1), .val (.int (0 : Int32))] [] := by first | (simp [entryFrame, mkF, argsToLocals, Value.category]; done) | rfl
set_option maxRecDepth 65536 in
set_option maxHeartbeats 40000000 in
theorem own_init010 (l : Launch) (Z : State) (a0 : Array Value) (hw : ∀ d ∈ tables_1, d.before a0 Z = true) (ws : List Jvm.Cond) (a1 : Addr) (r1 : Addr) (p1 : Int32) (h0 : Heap) (n0 : Nat) (Z0 : n0 ≤ h0.size) (E_a1 : Exa Z h0 a1 "com/example/acquirer/acquirer/PageRequest") (F_limit_a1 : Fld Z h0 a1 "com/example/acquirer/acquirer/PageRequest" "limit" "I" (.int (0 : Int32))) (F_startingAfter_a1 : Fld Z h0 a1 "com/example/acquirer/acquirer/PageRequest" "startingAfter" "Ljava/lang/String;" .null) (F_endingBefore_a1 : Fld Z h0 a1 "com/example/acquirer/acquirer/PageRequest" "endingBefore" "Ljava/lang/String;" .null) (F_descending_a1 : Fld Z h0 a1 "com/example/acquirer/acquirer/PageRequest" "descending" "Z" (.int (0 : Int32))) (g_a1 : n0 ≤ a1) :
    MetFree l own_y3 (head1 (Jvm.Cond.code own_y3 prog_19_method_1_code 5 none :: ws) ({ frames := 2, cells := 0, slots := 0, locals := 24 } : Room)) (fun a U => a = #[(.ref a1), (.int p1), .null, (.ref r1), (.int (0 : Int32))] ∧ Z.Warmed39 U.vm ∧ U.heap = h0) (fun _ _ _ _ _ => True) (fun _ U o U' => ∃ v L, o = .returned v ∧ own_init010_Q Z a1 r1 p1 h0 n0 v U'.heap L ∧ FrameEnd U o U' L ({ frames := 2, cells := 0, slots := 0, locals := 24 } : Room).cells ({ frames := 2, cells := 0, slots := 0, locals := 24 } : Room).slots) := by
  refine MetFree.of_bodySF (plainFor_of_name own_pn_PageRequest) hisR ?_
  intro p e s m args below meth c s₁ Bd hml0 hP hK
  obtain ⟨rfl, hZ, hh⟩ := hP
  have hx := Bd.exec
  have hby := Bd.bytes
  have hml : c.maxLocals = 5 := hml0
  have hown : s.vm.findClass "com/example/acquirer/acquirer/PageRequest" = some m.cls := findClass_of_methodNamed Bd.named
  have hnm := (name_of_methodNamed Bd.named Bd.method).1
  have X0 : Stand p l e ({ frames := 2, cells := 0, slots := 0, locals := 24 } : Room) s m #[(.ref a1), (.int p1), .null, (.ref r1), (.int (0 : Int32))] below meth c s₁ [] 0 0 := Stand.of_body Bd
  have e0 : s₁.heap = h0 := by rw [← hh, Bd.state]; rfl
  show own_E p e below (own_K (own_init010_Q Z a1 r1 p1 h0 n0) s ({ frames := 2, cells := 0, slots := 0, locals := 24 } : Room).cells ({ frames := 2, cells := 0, slots := 0, locals := 24 } : Room).slots) s₁ (entryFrame m #[(.ref a1), (.int p1), .null, (.ref r1), (.int (0 : Int32))] 5)
  refine own_pre (own_init010_ef m a1 r1 p1) ?_
  show own_E p e below _ s₁ (mkF m 0 #[rv a1, iv p1, .val (.null), rv r1, iv 0] [])
  refine own_st (fun t k => XS.aloadN X0.here hx rfl (hb hby own_d_prog_19_method_1_0) rfl rfl k) ?_
  show own_E p e below _ s₁ (mkF m 1 #[rv a1, iv p1, .val (.null), rv r1, iv 0] [.ref a1])
  obtain ⟨_, _, ⟨T1, L1, k1, n1⟩, -, X1, ⟨Lc1, hQ1, l1, y1, z1⟩, st1⟩ := X0.specialBack hx (y := own_y2) rfl hown (mvT hZ (own_w hw 29 rfl)) (mvT hZ (own_w hw 30 rfl)) (mvT hZ (own_w hw 33 rfl)) (by decide) (backOf (W := 0) (own_rec l Z a0 hw [] a1 h0 n0 Z0 ) hZ (own_w hw 33 rfl) (own_w hw 32 rfl) (by decide) (by decide)) (g := (mkF m 1 #[rv a1, iv p1, .val (.null), rv r1, iv 0] [.ref a1])) rfl (by rw [hml]; rfl) (Steps.refl _) (a := a1) (argsL := []) (rest := []) (lenOf own_pd_1 rfl) rfl (by show 2 * 0 + _ ≤ _; exact Nat.le_of_eq rfl) (hb hby own_d_prog_19_method_1_1) (fun _ _ => ⟨rfl, e0, (by decide : 0 + 0 ≤ _), (by decide : 0 + 0 ≤ _)⟩)
  dsimp only [Pt.U, Pt.locs, Pt.cells, Pt.slots] at X1 l1 y1 z1 st1 hQ1
  subst l1 y1 z1
  obtain ⟨hR1, e1, rfl⟩ := hQ1
  have N1 := Fr.app (Fr.nil n0) (Fr.nil n0)
  obtain rfl := hR1
  refine own_tr st1 ?_
  show own_E p e below _ T1 (mkF m 4 #[rv a1, iv p1, .val (.null), rv r1, iv 0] [])
  refine own_st (fun t k => XS.aloadN X1.here hx rfl (hb hby own_d_prog_19_method_1_4) rfl rfl k) ?_
  show own_E p e below _ T1 (mkF m 5 #[rv a1, iv p1, .val (.null), rv r1, iv 0] [.ref a1])
  refine own_st (fun t k => XS.iloadN X1.here hx rfl (hb hby own_d_prog_19_method_1_5) rfl k) ?_
  show own_E p e below _ T1 (mkF m 6 #[rv a1, iv p1, .val (.null), rv r1, iv 0] [.int p1, .ref a1])
  obtain ⟨T2, h2, X2, e2, W2, st2⟩ := putF X1 hx hZ hown (host := "") (Or.inl (own_w hw 35 rfl)) Via.refl e1 F_limit_a1 E_a1 (Or.inr ⟨(own_w hw 36 rfl), rfl, hnm⟩) (own_w hw 24 rfl) (ty := .int) (by decide) rfl rfl (g := (mkF m 6 #[rv a1, iv p1, .val (.null), rv r1, iv 0] [.int p1, .ref a1])) rfl rfl (hb hby own_d_prog_19_method_1_6)
  have N2 := Fr.snoc X2 N1 g_a1
  have Fw2 := F_limit_a1.same W2
  have Z3 := Nat.le_trans Z0 (Keep.of_wr W2).1
  have K4 : Keep h0 _ [a1] := (Keep.refl h0 [a1]).wr W2 (Or.inl (List.mem_of_getElem? (i := 0) rfl))
  refine own_st st2 ?_
  show own_E p e below _ T2 (mkF m 9 #[rv a1, iv p1, .val (.null), rv r1, iv 0] [])
  refine own_st (fun t k => XS.aloadN X2.here hx rfl (hb hby own_d_prog_19_method_1_9) rfl rfl k) ?_
  show own_E p e below _ T2 (mkF m 10 #[rv a1, iv p1, .val (.null), rv r1, iv 0] [.ref a1])
  refine own_st (fun t k => XS.aloadN X2.here hx rfl (hb hby own_d_prog_19_method_1_10) rfl rfl k) ?_
  show own_E p e below _ T2 (mkF m 11 #[rv a1, iv p1, .val (.null), rv r1, iv 0] [.null, .ref a1])
  have B6 := (F_startingAfter_a1.other W2 (Or.inr (slot_ne (Or.inr (own_w hw 38 rfl)) (Or.inr (own_w hw 36 rfl)) (by decide) (t := (.object "java/lang/String")) (t' := .int) (by decide) (by decide))))
  have B7 := (E_a1.wr W2)
  obtain ⟨T5, h5, X5, e5, W5, st5⟩ := putF X2 hx hZ hown (host := "") (Or.inl (own_w hw 37 rfl)) Via.refl e2 B6 B7 (Or.inr ⟨(own_w hw 38 rfl), rfl, hnm⟩) (own_w hw 24 rfl) (ty := (.object "java/lang/String")) (by decide) rfl rfl (g := (mkF m 11 #[rv a1, iv p1, .val (.null), rv r1, iv 0] [.null, .ref a1])) rfl rfl (hb hby own_d_prog_19_method_1_11)
  have N5 := Fr.snoc X5 N2 g_a1
  have Fw5 := B6.same W5
  have Z8 := Nat.le_trans Z3 (Keep.of_wr W5).1
  have K9 : Keep h0 _ [a1] := K4.wr W5 (Or.inl (List.mem_of_getElem? (i := 0) rfl))
  refine own_st st5 ?_
  show own_E p e below _ T5 (mkF m 14 #[rv a1, iv p1, .val (.null), rv r1, iv 0] [])
  refine own_st (fun t k => XS.aloadN X5.here hx rfl (hb hby own_d_prog_19_method_1_14) rfl rfl k) ?_
  show own_E p e below _ T5 (mkF m 15 #[rv a1, iv p1, .val (.null), rv r1, iv 0] [.ref a1])
  refine own_st (fun t k => XS.aloadN X5.here hx rfl (hb hby own_d_prog_19_method_1_15) rfl rfl k) ?_
  show own_E p e below _ T5 (mkF m 16 #[rv a1, iv p1, .val (.null), rv r1, iv 0] [.ref r1, .ref a1])
  have B11 := ((F_endingBefore_a1.other W2 (Or.inr (slot_ne (Or.inr (own_w hw 40 rfl)) (Or.inr (own_w hw 36 rfl)) (by decide) (t := (.object "java/lang/String")) (t' := .int) (by decide) (by decide)))).other W5 (Or.inr (slot_ne (Or.inr (own_w hw 40 rfl)) (Or.inr (own_w hw 38 rfl)) (by decide) (t := (.object "java/lang/String")) (t' := (.object "java/lang/String")) (by decide) (by decide))))
  have B12 := (B7.wr W5)
  obtain ⟨T10, h10, X10, e10, W10, st10⟩ := putF X5 hx hZ hown (host := "") (Or.inl (own_w hw 39 rfl)) Via.refl e5 B11 B12 (Or.inr ⟨(own_w hw 40 rfl), rfl, hnm⟩) (own_w hw 24 rfl) (ty := (.object "java/lang/String")) (by decide) rfl rfl (g := (mkF m 16 #[rv a1, iv p1, .val (.null), rv r1, iv 0] [.ref r1, .ref a1])) rfl rfl (hb hby own_d_prog_19_method_1_16)
  have N10 := Fr.snoc X10 N5 g_a1
  have Fw10 := B11.same W10
  have Z13 := Nat.le_trans Z8 (Keep.of_wr W10).1
  have K14 : Keep h0 _ [a1] := K9.wr W10 (Or.inl (List.mem_of_getElem? (i := 0) rfl))
  refine own_st st10 ?_
  show own_E p e below _ T10 (mkF m 19 #[rv a1, iv p1, .val (.null), rv r1, iv 0] [])
  refine own_st (fun t k => XS.aloadN X10.here hx rfl (hb hby own_d_prog_19_method_1_19) rfl rfl k) ?_
  show own_E p e below _ T10 (mkF m 20 #[rv a1, iv p1, .val (.null), rv r1, iv 0] [.ref a1])
  refine own_st (fun t k => XS.iload X10.here hx rfl (hb hby own_d_prog_19_method_1_20) rfl k) ?_
  show own_E p e below _ T10 (mkF m 22 #[rv a1, iv p1, .val (.null), rv r1, iv 0] [.int 0, .ref a1])
  have B16 := (((F_descending_a1.other W2 (Or.inr (slot_ne (Or.inr (own_w hw 42 rfl)) (Or.inr (own_w hw 36 rfl)) (by decide) (t := .boolean) (t' := .int) (by decide) (by decide)))).other W5 (Or.inr (slot_ne (Or.inr (own_w hw 42 rfl)) (Or.inr (own_w hw 38 rfl)) (by decide) (t := .boolean) (t' := (.object "java/lang/String")) (by decide) (by decide)))).other W10 (Or.inr (slot_ne (Or.inr (own_w hw 42 rfl)) (Or.inr (own_w hw 40 rfl)) (by decide) (t := .boolean) (t' := (.object "java/lang/String")) (by decide) (by decide))))
  have B17 := (B12.wr W10)
  obtain ⟨T15, h15, X15, e15, W15, st15⟩ := putF X10 hx hZ hown (host := "") (Or.inl (own_w hw 41 rfl)) Via.refl e10 B16 B17 (Or.inr ⟨(own_w hw 42 rfl), rfl, hnm⟩) (own_w hw 24 rfl) (ty := .boolean) (by decide) rfl rfl (g := (mkF m 22 #[rv a1, iv p1, .val (.null), rv r1, iv 0] [.int 0, .ref a1])) rfl rfl (hb hby own_d_prog_19_method_1_22)
  have N15 := Fr.snoc X15 N10 g_a1
  have Fw15 := B16.same W15
  have Z18 := Nat.le_trans Z13 (Keep.of_wr W15).1
  have K19 : Keep h0 _ [a1] := K14.wr W15 (Or.inl (List.mem_of_getElem? (i := 0) rfl))
  refine own_st st15 ?_
  show own_E p e below _ T15 (mkF m 25 #[rv a1, iv p1, .val (.null), rv r1, iv 0] [])
  refine own_retV X15 hx Bd.notSynchronized Bd.returns (hb hby own_d_prog_19_method_1_25) (by decide) (by decide) ?_
  have B20 := (B17.wr W15)
  have B21 := ((Fw5.other W10 (Or.inr (slot_ne (Or.inr (own_w hw 38 rfl)) (Or.inr (own_w hw 40 rfl)) (by decide) (t := (.object "java/lang/String")) (t' := (.object "java/lang/String")) (by decide) (by decide)))).other W15 (Or.inr (slot_ne (Or.inr (own_w hw 38 rfl)) (Or.inr (own_w hw 42 rfl)) (by decide) (t := (.object "java/lang/String")) (t' := .boolean) (by decide) (by decide))))
  have B22 := (Fw10.other W15 (Or.inr (slot_ne (Or.inr (own_w hw 40 rfl)) (Or.inr (own_w hw 42 rfl)) (by decide) (t := (.object "java/lang/String")) (t' := .boolean) (by decide) (by decide))))
  show own_init010_Q Z a1 r1 p1 h0 n0 _ T15.heap _
  rw [e15]
  exact ⟨rfl, N15, K19, B20, B21, B22⟩
def own_init011_Q (Z : State) (a1 : Addr) (r1 : Addr) (p1 : Int32) (h0 : Heap) (n0 : Nat) (v : Option Value) (h : Heap) (L : List Loc) : Prop := v = none ∧ Fr n0 L ∧ Keep h0 h [a1] ∧ Exa Z h a1 "com/example/acquirer/acquirer/PageRequest" ∧ Fld Z h a1 "com/example/acquirer/acquirer/PageRequest" "startingAfter" "Ljava/lang/String;" .null ∧ Fld Z h a1 "com/example/acquirer/acquirer/PageRequest" "endingBefore" "Ljava/lang/String;" (.ref r1)
theorem own_init011_ef (m : MethodId) (a1 : Addr) (r1 : Addr) (p1 : Int32) : entryFrame m #[(.ref a1), (.int p1), .null, (.ref r1), (.int (1 : Int32))] 5 = mkF m 0 #[.val (.ref a1), .val (.int p1), .val .null, .val (.ref r1), .val (.int (1 : Int32))] [] := by first | (simp [entryFrame, mkF, argsToLocals, Value.category]; done) | rfl
set_option maxRecDepth 65536 in
set_option maxHeartbeats 40000000 in
theorem own_init011 (l : Launch) (Z : State) (a0 : Array Value) (hw : ∀ d ∈ tables_1, d.before a0 Z = true) (ws : List Jvm.Cond) (a1 : Addr) (r1 : Addr) (p1 : Int32) (h0 : Heap) (n0 : Nat) (Z0 : n0 ≤ h0.size) (E_a1 : Exa Z h0 a1 "com/example/acquirer/acquirer/PageRequest") (F_limit_a1 : Fld Z h0 a1 "com/example/acquirer/acquirer/PageRequest" "limit" "I" (.int (0 : Int32))) (F_startingAfter_a1 : Fld Z h0 a1 "com/example/acquirer/acquirer/PageRequest" "startingAfter" "Ljava/lang/String;" .null) (F_endingBefore_a1 : Fld Z h0 a1 "com/example/acquirer/acquirer/PageRequest" "endingBefore" "Ljava/lang/String;" .null) (F_descending_a1 : Fld Z h0 a1 "com/example/acquirer/acquirer/PageRequest" "descending" "Z" (.int (0 : Int32))) (g_a1 : n0 ≤ a1) :
    MetFree l own_y3 (head1 (Jvm.Cond.code own_y3 prog_19_method_1_code 5 none :: ws) ({ frames := 2, cells := 0, slots := 0, locals := 24 } : Room)) (fun a U => a = #[(.ref a1), (.int p1), .null, (.ref r1), (.int (1 : Int32))] ∧ Z.Warmed39 U.vm ∧ U.heap = h0) (fun _ _ _ _ _ => True) (fun _ U o U' => ∃ v L, o = .returned v ∧ own_init011_Q Z a1 r1 p1 h0 n0 v U'.heap L ∧ FrameEnd U o U' L ({ frames := 2, cells := 0, slots := 0, locals := 24 } : Room).cells ({ frames := 2, cells := 0, slots := 0, locals := 24 } : Room).slots) := by
  refine MetFree.of_bodySF (plainFor_of_name own_pn_PageRequest) hisR ?_
  intro p e s m args below meth c s₁ Bd hml0 hP hK
  obtain ⟨rfl, hZ, hh⟩ := hP
  have hx := Bd.exec
  have hby := Bd.bytes
  have hml : c.maxLocals = 5 := hml0
  have hown : s.vm.findClass "com/example/acquirer/acquirer/PageRequest" = some m.cls := findClass_of_methodNamed Bd.named
  have hnm := (name_of_methodNamed Bd.named Bd.method).1
  have X0 : Stand p l e ({ frames := 2, cells := 0, slots := 0, locals := 24 } : Room) s m #[(.ref a1), (.int p1), .null, (.ref r1), (.int (1 : Int32))] below meth c s₁ [] 0 0 := Stand.of_body Bd
  have e0 : s₁.heap = h0 := by rw [← hh, Bd.state]; rfl
  show own_E p e below (own_K (own_init011_Q Z a1 r1 p1 h0 n0) s ({ frames := 2, cells := 0, slots := 0, locals := 24 } : Room).cells ({ frames := 2, cells := 0, slots := 0, locals := 24 } : Room).slots) s₁ (entryFrame m #[(.ref a1), (.int p1), .null, (.ref r1), (.int (1 : Int32))] 5)
  refine own_pre (own_init011_ef m a1 r1 p1) ?_
  show own_E p e below _ s₁ (mkF m 0 #[rv a1, iv p1, .val (.null), rv r1, iv 1] [])
  refine own_st (fun t k => XS.aloadN X0.here hx rfl (hb hby own_d_prog_19_method_1_0) rfl rfl k) ?_
  show own_E p e below _ s₁ (mkF m 1 #[rv a1, iv p1, .val (.null), rv r1, iv 1] [.ref a1])
  obtain ⟨_, _, ⟨T1, L1, k1, n1⟩, -, X1, ⟨Lc1, hQ1, l1, y1, z1⟩, st1⟩ := X0.specialBack hx (y := own_y2) rfl hown (mvT hZ (own_w hw 29 rfl)) (mvT hZ (own_w hw 30 rfl)) (mvT hZ (own_w hw 33 rfl)) (by decide) (backOf (W := 0) (own_rec l Z a0 hw [] a1 h0 n0 Z0 ) hZ (own_w hw 33 rfl) (own_w hw 32 rfl) (by decide) (by decide)) (g := (mkF m 1 #[rv a1, iv p1, .val (.null), rv r1, iv 1] [.ref a1])) rfl (by rw [hml]; rfl) (Steps.refl _) (a := a1) (argsL := []) (rest := []) (lenOf own_pd_1 rfl) rfl (by show 2 * 0 + _ ≤ _; exact Nat.le_of_eq rfl) (hb hby own_d_prog_19_method_1_1) (fun _ _ => ⟨rfl, e0, (by decide : 0 + 0 ≤ _), (by decide : 0 + 0 ≤ _)⟩)
  dsimp only [Pt.U, Pt.locs, Pt.cells, Pt.slots] at X1 l1 y1 z1 st1 hQ1
  subst l1 y1 z1
  obtain ⟨hR1, e1, rfl⟩ := hQ1
  have N1 := Fr.app (Fr.nil n0) (Fr.nil n0)
  obtain rfl := hR1
  refine own_tr st1 ?_
  show own_E p e below _ T1 (mkF m 4 #[rv a1, iv p1, .val (.null), rv r1, iv 1] [])
  refine own_st (fun t k => XS.aloadN X1.here hx rfl (hb hby own_d_prog_19_method_1_4) rfl rfl k) ?_
  show own_E p e below _ T1 (mkF m 5 #[rv a1, iv p1, .val (.null), rv r1, iv 1] [.ref a1])
  refine own_st (fun t k => XS.iloadN X1.here hx rfl (hb hby own_d_prog_19_method_1_5) rfl k) ?_
  show own_E p e below _ T1 (mkF m 6 #[rv a1, iv p1, .val (.null), rv r1, iv 1] [.int p1, .ref a1])
  obtain ⟨T2, h2, X2, e2, W2, st2⟩ := putF X1 hx hZ hown (host := "") (Or.inl (own_w hw 35 rfl)) Via.refl e1 F_limit_a1 E_a1 (Or.inr ⟨(own_w hw 36 rfl), rfl, hnm⟩) (own_w hw 24 rfl) (ty := .int) (by decide) rfl rfl (g := (mkF m 6 #[rv a1, iv p1, .val (.null), rv r1, iv 1] [.int p1, .ref a1])) rfl rfl (hb hby own_d_prog_19_method_1_6)
  have N2 := Fr.snoc X2 N1 g_a1
  have Fw2 := F_limit_a1.same W2
  have Z3 := Nat.le_trans Z0 (Keep.of_wr W2).1
  have K4 : Keep h0 _ [a1] := (Keep.refl h0 [a1]).wr W2 (Or.inl (List.mem_of_getElem? (i := 0) rfl))
  refine own_st st2 ?_
  show own_E p e below _ T2 (mkF m 9 #[rv a1, iv p1, .val (.null), rv r1, iv 1] [])
  refine own_st (fun t k => XS.aloadN X2.here hx rfl (hb hby own_d_prog_19_method_1_9) rfl rfl k) ?_
  show own_E p e below _ T2 (mkF m 10 #[rv a1, iv p1, .val (.null), rv r1, iv 1] [.ref a1])
  refine own_st (fun t k => XS.aloadN X2.here hx rfl (hb hby own_d_prog_19_method_1_10) rfl rfl k) ?_
  show own_E p e below _ T2 (mkF m 11 #[rv a1, iv p1, .val (.null), rv r1, iv 1] [.null, .ref a1])
  have B6 := (F_startingAfter_a1.other W2 (Or.inr (slot_ne (Or.inr (own_w hw 38 rfl)) (Or.inr (own_w hw 36 rfl)) (by decide) (t := (.object "java/lang/String")) (t' := .int) (by decide) (by decide))))
  have B7 := (E_a1.wr W2)
  obtain ⟨T5, h5, X5, e5, W5, st5⟩ := putF X2 hx hZ hown (host := "") (Or.inl (own_w hw 37 rfl)) Via.refl e2 B6 B7 (Or.inr ⟨(own_w hw 38 rfl), rfl, hnm⟩) (own_w hw 24 rfl) (ty := (.object "java/lang/String")) (by decide) rfl rfl (g := (mkF m 11 #[rv a1, iv p1, .val (.null), rv r1, iv 1] [.null, .ref a1])) rfl rfl (hb hby own_d_prog_19_method_1_11)
  have N5 := Fr.snoc X5 N2 g_a1
  have Fw5 := B6.same W5
  have Z8 := Nat.le_trans Z3 (Keep.of_wr W5).1
  have K9 : Keep h0 _ [a1] := K4.wr W5 (Or.inl (List.mem_of_getElem? (i := 0) rfl))
  refine own_st st5 ?_
  show own_E p e below _ T5 (mkF m 14 #[rv a1, iv p1, .val (.null), rv r1, iv 1] [])
  refine own_st (fun t k => XS.aloadN X5.here hx rfl (hb hby own_d_prog_19_method_1_14) rfl rfl k) ?_
  show own_E p e below _ T5 (mkF m 15 #[rv a1, iv p1, .val (.null), rv r1, iv 1] [.ref a1])
  refine own_st (fun t k => XS.aloadN X5.here hx rfl (hb hby own_d_prog_19_method_1_15) rfl rfl k) ?_
  show own_E p e below _ T5 (mkF m 16 #[rv a1, iv p1, .val (.null), rv r1, iv 1] [.ref r1, .ref a1])
  have B11 := ((F_endingBefore_a1.other W2 (Or.inr (slot_ne (Or.inr (own_w hw 40 rfl)) (Or.inr (own_w hw 36 rfl)) (by decide) (t := (.object "java/lang/String")) (t' := .int) (by decide) (by decide)))).other W5 (Or.inr (slot_ne (Or.inr (own_w hw 40 rfl)) (Or.inr (own_w hw 38 rfl)) (by decide) (t := (.object "java/lang/String")) (t' := (.object "java/lang/String")) (by decide) (by decide))))
  have B12 := (B7.wr W5)
  obtain ⟨T10, h10, X10, e10, W10, st10⟩ := putF X5 hx hZ hown (host := "") (Or.inl (own_w hw 39 rfl)) Via.refl e5 B11 B12 (Or.inr ⟨(own_w hw 40 rfl), rfl, hnm⟩) (own_w hw 24 rfl) (ty := (.object "java/lang/String")) (by decide) rfl rfl (g := (mkF m 16 #[rv a1, iv p1, .val (.null), rv r1, iv 1] [.ref r1, .ref a1])) rfl rfl (hb hby own_d_prog_19_method_1_16)
  have N10 := Fr.snoc X10 N5 g_a1
  have Fw10 := B11.same W10
  have Z13 := Nat.le_trans Z8 (Keep.of_wr W10).1
  have K14 : Keep h0 _ [a1] := K9.wr W10 (Or.inl (List.mem_of_getElem? (i := 0) rfl))
  refine own_st st10 ?_
  show own_E p e below _ T10 (mkF m 19 #[rv a1, iv p1, .val (.null), rv r1, iv 1] [])
  refine own_st (fun t k => XS.aloadN X10.here hx rfl (hb hby own_d_prog_19_method_1_19) rfl rfl k) ?_
  show own_E p e below _ T10 (mkF m 20 #[rv a1, iv p1, .val (.null), rv r1, iv 1] [.ref a1])
  refine own_st (fun t k => XS.iload X10.here hx rfl (hb hby own_d_prog_19_method_1_20) rfl k) ?_
  show own_E p e below _ T10 (mkF m 22 #[rv a1, iv p1, .val (.null), rv r1, iv 1] [.int 1, .ref a1])
  have B16 := (((F_descending_a1.other W2 (Or.inr (slot_ne (Or.inr (own_w hw 42 rfl)) (Or.inr (own_w hw 36 rfl)) (by decide) (t := .boolean) (t' := .int) (by decide) (by decide)))).other W5 (Or.inr (slot_ne (Or.inr (own_w hw 42 rfl)) (Or.inr (own_w hw 38 rfl)) (by decide) (t := .boolean) (t' := (.object "java/lang/String")) (by decide) (by decide)))).other W10 (Or.inr (slot_ne (Or.inr (own_w hw 42 rfl)) (Or.inr (own_w hw 40 rfl)) (by decide) (t := .boolean) (t' := (.object "java/lang/String")) (by decide) (by decide))))
  have B17 := (B12.wr W10)
  obtain ⟨T15, h15, X15, e15, W15, st15⟩ := putF X10 hx hZ hown (host := "") (Or.inl (own_w hw 41 rfl)) Via.refl e10 B16 B17 (Or.inr ⟨(own_w hw 42 rfl), rfl, hnm⟩) (own_w hw 24 rfl) (ty := .boolean) (by decide) rfl rfl (g := (mkF m 22 #[rv a1, iv p1, .val (.null), rv r1, iv 1] [.int 1, .ref a1])) rfl rfl (hb hby own_d_prog_19_method_1_22)
  have N15 := Fr.snoc X15 N10 g_a1
  have Fw15 := B16.same W15
  have Z18 := Nat.le_trans Z13 (Keep.of_wr W15).1
  have K19 : Keep h0 _ [a1] := K14.wr W15 (Or.inl (List.mem_of_getElem? (i := 0) rfl))
  refine own_st st15 ?_
  show own_E p e below _ T15 (mkF m 25 #[rv a1, iv p1, .val (.null), rv r1, iv 1] [])
  refine own_retV X15 hx Bd.notSynchronized Bd.returns (hb hby own_d_prog_19_method_1_25) (by decide) (by decide) ?_
  have B20 := (B17.wr W15)
  have B21 := ((Fw5.other W10 (Or.inr (slot_ne (Or.inr (own_w hw 38 rfl)) (Or.inr (own_w hw 40 rfl)) (by decide) (t := (.object "java/lang/String")) (t' := (.object "java/lang/String")) (by decide) (by decide)))).other W15 (Or.inr (slot_ne (Or.inr (own_w hw 38 rfl)) (Or.inr (own_w hw 42 rfl)) (by decide) (t := (.object "java/lang/String")) (t' := .boolean) (by decide) (by decide))))
  have B22 := (Fw10.other W15 (Or.inr (slot_ne (Or.inr (own_w hw 40 rfl)) (Or.inr (own_w hw 42 rfl)) (by decide) (t := (.object "java/lang/String")) (t' := .boolean) (by decide) (by decide))))
  show own_init011_Q Z a1 r1 p1 h0 n0 _ T15.heap _
  rw [e15]
  exact ⟨rfl, N15, K19, B20, B21, B22⟩
def own_cur01_Q (a1 : Addr) (r1 : Addr) (h0 : Heap) (v : Option Value) (h : Heap) (L : List Loc) : Prop := ((v = some (.ref r1))) ∧ h = h0 ∧ L = []
theorem own_cur01_ef (m : MethodId) (a1 : Addr) (r1 : Addr) : entryFrame m #[(.ref a1)] 1 = mkF m 0 #[.val (.ref a1)] [] := by first | (simp [entryFrame, mkF, argsToLocals, Value.category]; done) | rfl
set_option maxRecDepth 65536 in
set_option maxHeartbeats 40000000 in
theorem own_cur01 (l : Launch) (Z : State) (a0 : Array Value) (hw : ∀ d ∈ tables_1, d.before a0 Z = true) (ws : List Jvm.Cond) (a1 : Addr) (r1 : Addr) (h0 : Heap) (n0 : Nat) (Z0 : n0 ≤ h0.size) (F_startingAfter_a1 : Fld Z h0 a1 "com/example/acquirer/acquirer/PageRequest" "startingAfter" "Ljava/lang/String;" .null) (F_endingBefore_a1 : Fld Z h0 a1 "com/example/acquirer/acquirer/PageRequest" "endingBefore" "Ljava/lang/String;" (.ref r1)) :
    MetFree l own_y4 (head1 (Jvm.Cond.code own_y4 prog_19_method_2_code 1 (some (.object "java/lang/String")) :: ws) ({ frames := 0, cells := 0, slots := 0, locals := 0 } : Room)) (fun a U => a = #[(.ref a1)] ∧ Z.Warmed39 U.vm ∧ U.heap = h0) (fun _ _ _ _ _ => True) (fun _ U o U' => ∃ v L, o = .returned v ∧ own_cur01_Q a1 r1 h0 v U'.heap L ∧ FrameEnd U o U' L ({ frames := 0, cells := 0, slots := 0, locals := 0 } : Room).cells ({ frames := 0, cells := 0, slots := 0, locals := 0 } : Room).slots) := by
  refine MetFree.of_bodySF (plainFor_of_name own_pn_PageRequest) hisR ?_
  intro p e s m args below meth c s₁ Bd hml0 hP hK
  obtain ⟨rfl, hZ, hh⟩ := hP
  have hx := Bd.exec
  have hby := Bd.bytes
  have hml : c.maxLocals = 1 := hml0
  have hown : s.vm.findClass "com/example/acquirer/acquirer/PageRequest" = some m.cls := findClass_of_methodNamed Bd.named
  have hnm := (name_of_methodNamed Bd.named Bd.method).1
  have X0 : Stand p l e ({ frames := 0, cells := 0, slots := 0, locals := 0 } : Room) s m #[(.ref a1)] below meth c s₁ [] 0 0 := Stand.of_body Bd
  have e0 : s₁.heap = h0 := by rw [← hh, Bd.state]; rfl
  show own_E p e below (own_K (own_cur01_Q a1 r1 h0) s ({ frames := 0, cells := 0, slots := 0, locals := 0 } : Room).cells ({ frames := 0, cells := 0, slots := 0, locals := 0 } : Room).slots) s₁ (entryFrame m #[(.ref a1)] 1)
  refine own_pre (own_cur01_ef m a1 r1) ?_
  show own_E p e below _ s₁ (mkF m 0 #[rv a1] [])
  refine own_st (fun t k => XS.aloadN X0.here hx rfl (hb hby own_d_prog_19_method_2_0) rfl rfl k) ?_
  show own_E p e below _ s₁ (mkF m 1 #[rv a1] [.ref a1])
  obtain ⟨T1, X1, e1, st1⟩ := getF X0 hx hZ hown (host := "") (Or.inl (own_w hw 37 rfl)) Via.refl e0 F_startingAfter_a1 (g := (mkF m 1 #[rv a1] [.ref a1])) rfl rfl (hb hby own_d_prog_19_method_2_1)
  refine own_st st1 ?_
  show own_E p e below _ T1 (mkF m 4 #[rv a1] [.null])
  refine own_st (fun t k => XS.ifnullYes X1.here hx rfl (pc0 := 4) (pc' := 14) rfl (hb hby own_d_prog_19_method_2_4) rfl (by decide) (by decide) k) ?_
  show own_E p e below _ T1 (mkF m 14 #[rv a1] [])
  refine own_st (fun t k => XS.aloadN X1.here hx rfl (hb hby own_d_prog_19_method_2_14) rfl rfl k) ?_
  show own_E p e below _ T1 (mkF m 15 #[rv a1] [.ref a1])
  obtain ⟨T2, X2, e2, st2⟩ := getF X1 hx hZ hown (host := "") (Or.inl (own_w hw 39 rfl)) Via.refl e1 F_endingBefore_a1 (g := (mkF m 15 #[rv a1] [.ref a1])) rfl rfl (hb hby own_d_prog_19_method_2_15)
  refine own_st st2 ?_
  show own_E p e below _ T2 (mkF m 18 #[rv a1] [.ref r1])
  refine own_retA X2 hx Bd.notSynchronized Bd.returns rfl rfl (hb hby own_d_prog_19_method_2_18) (by decide) (by decide) ?_
  exact ⟨rfl, e2, rfl⟩
theorem own_d_prog_19_method_3_7 : decode prog_19_method_3_code 7 = .ok (.iconst 1, 1) := by decide +kernel
theorem own_d_prog_19_method_3_8 : decode prog_19_method_3_code 8 = .ok (.goto 4, 3) := by decide +kernel
def own_bk01_Q (a1 : Addr) (r1 : Addr) (h0 : Heap) (v : Option Value) (h : Heap) (L : List Loc) : Prop := ((v = some (.int (1 : Int32)))) ∧ h = h0 ∧ L = []
theorem own_bk01_ef (m : MethodId) (a1 : Addr) (r1 : Addr) : entryFrame m #[(.ref a1)] 1 = mkF m 0 #[.val (.ref a1)] [] := by first | (simp [entryFrame, mkF, argsToLocals, Value.category]; done) | rfl
set_option maxRecDepth 65536 in
set_option maxHeartbeats 40000000 in
theorem own_bk01 (l : Launch) (Z : State) (a0 : Array Value) (hw : ∀ d ∈ tables_1, d.before a0 Z = true) (ws : List Jvm.Cond) (a1 : Addr) (r1 : Addr) (h0 : Heap) (n0 : Nat) (Z0 : n0 ≤ h0.size) (F_startingAfter_a1 : Fld Z h0 a1 "com/example/acquirer/acquirer/PageRequest" "startingAfter" "Ljava/lang/String;" .null) (F_endingBefore_a1 : Fld Z h0 a1 "com/example/acquirer/acquirer/PageRequest" "endingBefore" "Ljava/lang/String;" (.ref r1)) :
    MetFree l own_y5 (head1 (Jvm.Cond.code own_y5 prog_19_method_3_code 1 (some .boolean) :: ws) ({ frames := 0, cells := 0, slots := 0, locals := 0 } : Room)) (fun a U => a = #[(.ref a1)] ∧ Z.Warmed39 U.vm ∧ U.heap = h0) (fun _ _ _ _ _ => True) (fun _ U o U' => ∃ v L, o = .returned v ∧ own_bk01_Q a1 r1 h0 v U'.heap L ∧ FrameEnd U o U' L ({ frames := 0, cells := 0, slots := 0, locals := 0 } : Room).cells ({ frames := 0, cells := 0, slots := 0, locals := 0 } : Room).slots) := by
  refine MetFree.of_bodySF (plainFor_of_name own_pn_PageRequest) hisR ?_
  intro p e s m args below meth c s₁ Bd hml0 hP hK
  obtain ⟨rfl, hZ, hh⟩ := hP
  have hx := Bd.exec
  have hby := Bd.bytes
  have hml : c.maxLocals = 1 := hml0
  have hown : s.vm.findClass "com/example/acquirer/acquirer/PageRequest" = some m.cls := findClass_of_methodNamed Bd.named
  have hnm := (name_of_methodNamed Bd.named Bd.method).1
  have X0 : Stand p l e ({ frames := 0, cells := 0, slots := 0, locals := 0 } : Room) s m #[(.ref a1)] below meth c s₁ [] 0 0 := Stand.of_body Bd
  have e0 : s₁.heap = h0 := by rw [← hh, Bd.state]; rfl
  show own_E p e below (own_K (own_bk01_Q a1 r1 h0) s ({ frames := 0, cells := 0, slots := 0, locals := 0 } : Room).cells ({ frames := 0, cells := 0, slots := 0, locals := 0 } : Room).slots) s₁ (entryFrame m #[(.ref a1)] 1)
  refine own_pre (own_bk01_ef m a1 r1) ?_
  show own_E p e below _ s₁ (mkF m 0 #[rv a1] [])
  refine own_st (fun t k => XS.aloadN X0.here hx rfl (hb hby own_d_prog_19_method_3_0) rfl rfl k) ?_
  show own_E p e below _ s₁ (mkF m 1 #[rv a1] [.ref a1])
  obtain ⟨T1, X1, e1, st1⟩ := getF X0 hx hZ hown (host := "") (Or.inl (own_w hw 39 rfl)) Via.refl e0 F_endingBefore_a1 (g := (mkF m 1 #[rv a1] [.ref a1])) rfl rfl (hb hby own_d_prog_19_method_3_1)
  refine own_st st1 ?_
  show own_E p e below _ T1 (mkF m 4 #[rv a1] [.ref r1])
  refine own_st (fun t k => XS.ifnullNo X1.here hx rfl (hb hby own_d_prog_19_method_3_4) rfl k) ?_
  show own_E p e below _ T1 (mkF m 7 #[rv a1] [])
  refine own_st (fun t k => XS.iconst X1.here hx rfl (hb hby own_d_prog_19_method_3_7) k) ?_
  show own_E p e below _ T1 (mkF m 8 #[rv a1] [.int 1])
  refine own_st (fun t k => XS.goto X1.here hx rfl (pc0 := 8) (pc' := 12) rfl (hb hby own_d_prog_19_method_3_8) (by decide) (by decide) k) ?_
  show own_E p e below _ T1 (mkF m 12 #[rv a1] [.int 1])
  refine own_retS X1 hx Bd.notSynchronized Bd.returns rfl (by decide) (hb hby own_d_prog_19_method_3_12) (by decide) (by decide) ?_
  exact ⟨rfl, e1, rfl⟩
theorem own_mod3 (x : Int32) : ((x &&& (2147483647 : Int32)) % (3 : Int32)) = (0 : Int32) ∨ ((x &&& (2147483647 : Int32)) % (3 : Int32)) = (1 : Int32) ∨ ((x &&& (2147483647 : Int32)) % (3 : Int32)) = (2 : Int32) := by
  have h1 : (x &&& (2147483647 : Int32)).toInt = x.toInt % 2147483648 := c_mask x 2147483647 31 (by decide) (by decide)
  have h2 := c_irem (x &&& (2147483647 : Int32)) (3 : Int32) 3 rfl
  simp only [← Int32.toInt_inj]
  have k0 : (0 : Int32).toInt = 0 := rfl
  have k1 : (1 : Int32).toInt = 1 := rfl
  have k2 : (2 : Int32).toInt = 2 := rfl
  omega
theorem own_pd_6 : parseMethodDescriptor "([C)V" = some ⟨[(.array .char)], none⟩ := by decide +kernel
theorem own_pd_4 : parseMethodDescriptor "(ILjava/lang/String;Ljava/lang/String;Z)V" = some ⟨[.int, (.object "java/lang/String"), (.object "java/lang/String"), .boolean], none⟩ := by decide +kernel
theorem own_pd_2 : parseMethodDescriptor "()Z" = some ⟨[], some .boolean⟩ := by decide +kernel
theorem own_pd_0 : parseMethodDescriptor "()Ljava/lang/String;" = some ⟨[], some (.object "java/lang/String")⟩ := by decide +kernel
def own_law_Q (n0 : Nat) (v : Option Value) (h : Heap) (L : List Loc) : Prop := v = some (.int 1) ∧ Fr n0 L
theorem own_pn_PageRequestBackwardsPinLaw : plainName "com/example/acquirer/acquirer/PageRequestBackwardsPinLaw" = true := by first | (simp [plainName, overriddenIn]; done) | decide +kernel
theorem own_law_ef (m : MethodId) (zc : Int32) (p1 : Int32) (p2 : Int32) (p3 : Int32) (p4 : Int32) (p5 : Int32) : entryFrame m #[(.int p1), (.int p2), (.int p3), (.int p4), (.int p5)] maxLocals = mkF m 0 #[.val (.int p1), .val (.int p2), .val (.int p3), .val (.int p4), .val (.int p5), .unset, .unset, .unset, .unset, .unset, .unset, .unset, .unset, .unset, .unset] [] := by first | (simp [entryFrame, mkF, argsToLocals, Value.category, maxLocals]; done) | rfl
set_option maxRecDepth 65536 in
set_option maxHeartbeats 40000000 in
theorem own_law (l : Launch) (Z : State) (a0 : Array Value) (hw : ∀ d ∈ tables_1, d.before a0 Z = true) (ws : List Jvm.Cond) (zc : Int32) (p1 : Int32) (p2 : Int32) (p3 : Int32) (p4 : Int32) (p5 : Int32) (h0 : Heap) (n0 : Nat) (Z0 : n0 ≤ h0.size) (hO : Ext Z.heap h0) (hheld : Jvm.Lit.constHeld Z "java/lang/String" 7) (hcw : Jvm.Lit.compactW.before a0 Z = true) (SC : Sta Z h0 "java/lang/String" "COMPACT_STRINGS" "Z" (.int zc)) (hzc : ¬ zc = 0) :
    MetFree l x (head1 (Jvm.Cond.code x code maxLocals ret :: ws) room_1) (fun a U => a = #[(.int p1), (.int p2), (.int p3), (.int p4), (.int p5)] ∧ Z.Warmed39 U.vm ∧ IB Z U.vm [] ∧ U.heap = h0) (fun _ _ _ _ _ => True) (fun _ U o U' => ∃ v L, o = .returned v ∧ own_law_Q n0 v U'.heap L ∧ ReturnedEndW U o U' L room_1.cells room_1.slots) := by
  refine MetFree.of_bodySF (plainFor_of_name own_pn_PageRequestBackwardsPinLaw) hisR ?_
  intro p e s m args below meth c s₁ Bd hml0 hP hK
  obtain ⟨rfl, hZ, hI, hh⟩ := hP
  have hx := Bd.exec
  have hby := Bd.bytes
  have hml : c.maxLocals = 15 := hml0
  have hown : s.vm.findClass "com/example/acquirer/acquirer/PageRequestBackwardsPinLaw" = some m.cls := findClass_of_methodNamed Bd.named
  have hnm := (name_of_methodNamed Bd.named Bd.method).1
  have X0 : Stand p l e room_1 s m #[(.int p1), (.int p2), (.int p3), (.int p4), (.int p5)] below meth c s₁ [] 0 0 := Stand.of_body Bd
  have e0 : s₁.heap = h0 := by rw [← hh, Bd.state]; rfl
  show own_E p e below (own_KW (own_law_Q n0) s room_1.cells room_1.slots) s₁ (entryFrame m #[(.int p1), (.int p2), (.int p3), (.int p4), (.int p5)] maxLocals)
  refine own_pre (own_law_ef m zc p1 p2 p3 p4 p5) ?_
  show own_E p e below _ s₁ (mkF m 0 #[iv p1, iv p2, iv p3, iv p4, iv p5, .unset, .unset, .unset, .unset, .unset, .unset, .unset, .unset, .unset, .unset] [])
  refine own_st (fun t k => XS.iconst X0.here hx rfl (hb hby at_0) k) ?_
  show own_E p e below _ s₁ (mkF m 1 #[iv p1, iv p2, iv p3, iv p4, iv p5, .unset, .unset, .unset, .unset, .unset, .unset, .unset, .unset, .unset, .unset] [.int 2])
  obtain ⟨T1, h1, k1, X1, e1, E1, A1, st1⟩ := newP X0 hx hZ (own_w hw 0 rfl) e0 (g := (mkF m 1 #[iv p1, iv p2, iv p3, iv p4, iv p5, .unset, .unset, .unset, .unset, .unset, .unset, .unset, .unset, .unset, .unset] [.int 2])) rfl (hb hby at_1) rfl (by decide) (cap := 2) (by decide) (by decide) (by decide) (by decide)
  obtain ⟨b1, g1⟩ : ∃ z, z = h0.size := ⟨_, rfl⟩
  rw [← g1] at A1 st1
  have g_b1 : n0 ≤ b1 := Nat.le_trans Z0 (Nat.le_of_eq g1.symm)
  have sz_b1 : h0.size ≤ b1 := Nat.le_trans (Keep.refl h0 []).1 (Nat.le_of_eq g1.symm)
  have Z2 := Nat.le_trans Z0 E1.1
  have K3 : Keep h0 _ [] := (Keep.refl h0 []).ext E1
  have V1 : Arv Z h1 b1 k1 .char (2 : Int32) [(.int (0 : Int32)), (.int (0 : Int32))] (.int (0 : Int32)) := (Arv.new A1 (by decide)).pad (pad_rep [] (.int (0 : Int32)) 2)
  refine own_st st1 ?_
  show own_E p e below _ T1 (mkF m 3 #[iv p1, iv p2, iv p3, iv p4, iv p5, .unset, .unset, .unset, .unset, .unset, .unset, .unset, .unset, .unset, .unset] [.ref b1])
  refine own_st (fun t k => XS.astore X1.here hx rfl (hb hby at_3) rfl rfl (l' := #[iv p1, iv p2, iv p3, iv p4, iv p5, rv b1, .unset, .unset, .unset, .unset, .unset, .unset, .unset, .unset, .unset]) rfl k) ?_
  show own_E p e below _ T1 (mkF m 5 #[iv p1, iv p2, iv p3, iv p4, iv p5, rv b1, .unset, .unset, .unset, .unset, .unset, .unset, .unset, .unset, .unset] [])
  refine own_st (fun t k => XS.aload X1.here hx rfl (hb hby at_5) rfl rfl k) ?_
  show own_E p e below _ T1 (mkF m 7 #[iv p1, iv p2, iv p3, iv p4, iv p5, rv b1, .unset, .unset, .unset, .unset, .unset, .unset, .unset, .unset, .unset] [.ref b1])
  refine own_st (fun t k => XS.iconst X1.here hx rfl (hb hby at_7) k) ?_
  show own_E p e below _ T1 (mkF m 8 #[iv p1, iv p2, iv p3, iv p4, iv p5, rv b1, .unset, .unset, .unset, .unset, .unset, .unset, .unset, .unset, .unset] [.int 0, .ref b1])
  refine own_st (fun t k => XS.iloadN X1.here hx rfl (hb hby at_8) rfl k) ?_
  show own_E p e below _ T1 (mkF m 9 #[iv p1, iv p2, iv p3, iv p4, iv p5, rv b1, .unset, .unset, .unset, .unset, .unset, .unset, .unset, .unset, .unset] [.int p3, .int 0, .ref b1])
  refine own_st (fun t k => XS.sipush X1.here hx rfl (hb hby at_9) k) ?_
  show own_E p e below _ T1 (mkF m 12 #[iv p1, iv p2, iv p3, iv p4, iv p5, rv b1, .unset, .unset, .unset, .unset, .unset, .unset, .unset, .unset, .unset] [.int 255, .int p3, .int 0, .ref b1])
  refine own_st (fun t k => XS.iand X1.here hx rfl (hb hby at_12) rfl k) ?_
  show own_E p e below _ T1 (mkF m 13 #[iv p1, iv p2, iv p3, iv p4, iv p5, rv b1, .unset, .unset, .unset, .unset, .unset, .unset, .unset, .unset, .unset] [.int (p3 &&& (255 : Int32)), .int 0, .ref b1])
  refine own_st (fun t k => XS.i2c X1.here hx rfl (hb hby at_13) rfl k) ?_
  show own_E p e below _ T1 (mkF m 14 #[iv p1, iv p2, iv p3, iv p4, iv p5, rv b1, .unset, .unset, .unset, .unset, .unset, .unset, .unset, .unset, .unset] [.int ((p3 &&& (255 : Int32)).toUInt32.toUInt16.toUInt32.toInt32), .int 0, .ref b1])
  obtain ⟨T4, h4, X4, e4, W4, Vw4, st4⟩ := own_cst X1 hx hZ e1 V1 (j := (0 : Int32)) ⟨by decide, by decide⟩ (x := ((p3 &&& (255 : Int32)).toUInt32.toUInt16.toUInt32.toInt32)) (i := 0) rfl (Nat.le_of_ble_eq_true rfl) (g := (mkF m 14 #[iv p1, iv p2, iv p3, iv p4, iv p5, rv b1, .unset, .unset, .unset, .unset, .unset, .unset, .unset, .unset, .unset] [.int ((p3 &&& (255 : Int32)).toUInt32.toUInt16.toUInt32.toInt32), .int 0, .ref b1])) rfl rfl (hb hby at_14)
  have V4 : Arv Z h4 b1 k1 .char (2 : Int32) [(.int (((p3 &&& (255 : Int32)).toUInt32.toUInt16.toUInt32.toInt32).toUInt32.toUInt16.toUInt32.toInt32)), (.int (0 : Int32))] (.int (0 : Int32)) := Vw4
  have N4 := Fr.snoc X4 (Fr.nil n0) g_b1
  have Z5 := Nat.le_trans Z2 (Keep.of_wr W4).1
  have K6 : Keep h0 _ [] := K3.wr W4 (Or.inr sz_b1)
  refine own_st st4 ?_
  show own_E p e below _ T4 (mkF m 15 #[iv p1, iv p2, iv p3, iv p4, iv p5, rv b1, .unset, .unset, .unset, .unset, .unset, .unset, .unset, .unset, .unset] [])
  refine own_st (fun t k => XS.aload X4.here hx rfl (hb hby at_15) rfl rfl k) ?_
  show own_E p e below _ T4 (mkF m 17 #[iv p1, iv p2, iv p3, iv p4, iv p5, rv b1, .unset, .unset, .unset, .unset, .unset, .unset, .unset, .unset, .unset] [.ref b1])
  refine own_st (fun t k => XS.iconst X4.here hx rfl (hb hby at_17) k) ?_
  show own_E p e below _ T4 (mkF m 18 #[iv p1, iv p2, iv p3, iv p4, iv p5, rv b1, .unset, .unset, .unset, .unset, .unset, .unset, .unset, .unset, .unset] [.int 1, .ref b1])
  refine own_st (fun t k => XS.iloadN X4.here hx rfl (hb hby at_18) rfl k) ?_
  show own_E p e below _ T4 (mkF m 19 #[iv p1, iv p2, iv p3, iv p4, iv p5, rv b1, .unset, .unset, .unset, .unset, .unset, .unset, .unset, .unset, .unset] [.int p4, .int 1, .ref b1])
  refine own_st (fun t k => XS.sipush X4.here hx rfl (hb hby at_19) k) ?_
  show own_E p e below _ T4 (mkF m 22 #[iv p1, iv p2, iv p3, iv p4, iv p5, rv b1, .unset, .unset, .unset, .unset, .unset, .unset, .unset, .unset, .unset] [.int 255, .int p4, .int 1, .ref b1])
  refine own_st (fun t k => XS.iand X4.here hx rfl (hb hby at_22) rfl k) ?_
  show own_E p e below _ T4 (mkF m 23 #[iv p1, iv p2, iv p3, iv p4, iv p5, rv b1, .unset, .unset, .unset, .unset, .unset, .unset, .unset, .unset, .unset] [.int (p4 &&& (255 : Int32)), .int 1, .ref b1])
  refine own_st (fun t k => XS.i2c X4.here hx rfl (hb hby at_23) rfl k) ?_
  show own_E p e below _ T4 (mkF m 24 #[iv p1, iv p2, iv p3, iv p4, iv p5, rv b1, .unset, .unset, .unset, .unset, .unset, .unset, .unset, .unset, .unset] [.int ((p4 &&& (255 : Int32)).toUInt32.toUInt16.toUInt32.toInt32), .int 1, .ref b1])
  obtain ⟨T7, h7, X7, e7, W7, Vw7, st7⟩ := own_cst X4 hx hZ e4 V4 (j := (1 : Int32)) ⟨by decide, by decide⟩ (x := ((p4 &&& (255 : Int32)).toUInt32.toUInt16.toUInt32.toInt32)) (i := 1) rfl (Nat.le_of_ble_eq_true rfl) (g := (mkF m 24 #[iv p1, iv p2, iv p3, iv p4, iv p5, rv b1, .unset, .unset, .unset, .unset, .unset, .unset, .unset, .unset, .unset] [.int ((p4 &&& (255 : Int32)).toUInt32.toUInt16.toUInt32.toInt32), .int 1, .ref b1])) rfl rfl (hb hby at_24)
  have V7 : Arv Z h7 b1 k1 .char (2 : Int32) [(.int (((p3 &&& (255 : Int32)).toUInt32.toUInt16.toUInt32.toInt32).toUInt32.toUInt16.toUInt32.toInt32)), (.int (((p4 &&& (255 : Int32)).toUInt32.toUInt16.toUInt32.toInt32).toUInt32.toUInt16.toUInt32.toInt32))] (.int (0 : Int32)) := Vw7
  have N7 := Fr.snoc X7 N4 g_b1
  have Z8 := Nat.le_trans Z5 (Keep.of_wr W7).1
  have K9 : Keep h0 _ [] := K6.wr W7 (Or.inr sz_b1)
  refine own_st st7 ?_
  show own_E p e below _ T7 (mkF m 25 #[iv p1, iv p2, iv p3, iv p4, iv p5, rv b1, .unset, .unset, .unset, .unset, .unset, .unset, .unset, .unset, .unset] [])
  refine own_st (fun t k => XS.iconst X7.here hx rfl (hb hby at_25) k) ?_
  show own_E p e below _ T7 (mkF m 26 #[iv p1, iv p2, iv p3, iv p4, iv p5, rv b1, .unset, .unset, .unset, .unset, .unset, .unset, .unset, .unset, .unset] [.int 0])
  obtain ⟨T10, h10, k10, X10, e10, E10, A10, st10⟩ := newP X7 hx hZ (own_w hw 0 rfl) e7 (g := (mkF m 26 #[iv p1, iv p2, iv p3, iv p4, iv p5, rv b1, .unset, .unset, .unset, .unset, .unset, .unset, .unset, .unset, .unset] [.int 0])) rfl (hb hby at_26) rfl (by decide) (cap := 0) (by decide) (by decide) (by decide) (by decide)
  obtain ⟨b10, g10⟩ : ∃ z, z = h7.size := ⟨_, rfl⟩
  rw [← g10] at A10 st10
  have ne_b1_b10 : b1 ≠ b10 := Nat.ne_of_lt (Nat.lt_of_lt_of_le V7.lt (Nat.le_of_eq g10.symm))
  have g_b10 : n0 ≤ b10 := Nat.le_trans Z8 (Nat.le_of_eq g10.symm)
  have sz_b10 : h0.size ≤ b10 := Nat.le_trans K9.1 (Nat.le_of_eq g10.symm)
  have Z11 := Nat.le_trans Z8 E10.1
  have K12 : Keep h0 _ [] := K9.ext E10
  have V10 : Arv Z h10 b10 k10 .char (0 : Int32) [] (.int (0 : Int32)) := (Arv.new A10 (by decide)).pad (pad_rep [] (.int (0 : Int32)) 0)
  refine own_st st10 ?_
  show own_E p e below _ T10 (mkF m 28 #[iv p1, iv p2, iv p3, iv p4, iv p5, rv b1, .unset, .unset, .unset, .unset, .unset, .unset, .unset, .unset, .unset] [.ref b10])
  refine own_st (fun t k => XS.astore X10.here hx rfl (hb hby at_28) rfl rfl (l' := #[iv p1, iv p2, iv p3, iv p4, iv p5, rv b1, rv b10, .unset, .unset, .unset, .unset, .unset, .unset, .unset, .unset]) rfl k) ?_
  show own_E p e below _ T10 (mkF m 30 #[iv p1, iv p2, iv p3, iv p4, iv p5, rv b1, rv b10, .unset, .unset, .unset, .unset, .unset, .unset, .unset, .unset] [])
  refine own_st (fun t k => XS.iload X10.here hx rfl (hb hby at_30) rfl k) ?_
  show own_E p e below _ T10 (mkF m 32 #[iv p1, iv p2, iv p3, iv p4, iv p5, rv b1, rv b10, .unset, .unset, .unset, .unset, .unset, .unset, .unset, .unset] [.int p5])
  refine own_st (fun t k => XS.iconst X10.here hx rfl (hb hby at_32) k) ?_
  show own_E p e below _ T10 (mkF m 33 #[iv p1, iv p2, iv p3, iv p4, iv p5, rv b1, rv b10, .unset, .unset, .unset, .unset, .unset, .unset, .unset, .unset] [.int 1, .int p5])
  refine own_st (fun t k => XS.ishr X10.here hx rfl (hb hby at_33) rfl k) ?_
  show own_E p e below _ T10 (mkF m 34 #[iv p1, iv p2, iv p3, iv p4, iv p5, rv b1, rv b10, .unset, .unset, .unset, .unset, .unset, .unset, .unset, .unset] [.int (p5 >>> ((1 : Int32) &&& 31))])
  refine own_st (fun t k => XS.iconst X10.here hx rfl (hb hby at_34) k) ?_
  show own_E p e below _ T10 (mkF m 35 #[iv p1, iv p2, iv p3, iv p4, iv p5, rv b1, rv b10, .unset, .unset, .unset, .unset, .unset, .unset, .unset, .unset] [.int 1, .int (p5 >>> ((1 : Int32) &&& 31))])
  refine own_st (fun t k => XS.iand X10.here hx rfl (hb hby at_35) rfl k) ?_
  show own_E p e below _ T10 (mkF m 36 #[iv p1, iv p2, iv p3, iv p4, iv p5, rv b1, rv b10, .unset, .unset, .unset, .unset, .unset, .unset, .unset, .unset] [.int ((p5 >>> ((1 : Int32) &&& 31)) &&& (1 : Int32))])
  by_cases hc13 : ((p5 >>> ((1 : Int32) &&& 31)) &&& (1 : Int32)) = (0 : Int32)
  · refine own_st (fun t k => XS.ifYes X10.here hx rfl (pc0 := 36) (pc' := 51) rfl (hb hby at_36) rfl ((if0 _ _).trans (teq hc13).1) (by decide) (by decide) k) ?_
    show own_E p e below _ T10 (mkF m 51 #[iv p1, iv p2, iv p3, iv p4, iv p5, rv b1, rv b10, .unset, .unset, .unset, .unset, .unset, .unset, .unset, .unset] [])
    obtain ⟨T14, h14, X14, e14, E14, A14, D14, -, st14⟩ := newO X10 hx hZ hown (own_w hw 1 rfl) (own_w hw 2 rfl) (own_w hw 3 rfl) e10 (g := (mkF m 51 #[iv p1, iv p2, iv p3, iv p4, iv p5, rv b1, rv b10, .unset, .unset, .unset, .unset, .unset, .unset, .unset, .unset] [])) rfl (hb hby at_51) (by decide) (by decide)
    obtain ⟨b14, g14⟩ : ∃ z, z = h10.size := ⟨_, rfl⟩
    rw [← g14] at A14 D14 st14
    have B15 := (V7.ext E10)
    have ne_b1_b14 : b1 ≠ b14 := Nat.ne_of_lt (Nat.lt_of_lt_of_le B15.lt (Nat.le_of_eq g14.symm))
    have ne_b10_b14 : b10 ≠ b14 := Nat.ne_of_lt (Nat.lt_of_lt_of_le V10.lt (Nat.le_of_eq g14.symm))
    have g_b14 : n0 ≤ b14 := Nat.le_trans Z11 (Nat.le_of_eq g14.symm)
    have sz_b14 : h0.size ≤ b14 := Nat.le_trans K12.1 (Nat.le_of_eq g14.symm)
    have Z16 := Nat.le_trans Z11 E14.1
    have K17 : Keep h0 _ [] := K12.ext E14
    have F_value_b14 : Fld Z h14 b14 "java/lang/String" "value" "[B" .null := D14 (Or.inr (own_w hw 16 rfl)) (ty := (.array .byte)) (by decide)
    have F_coder_b14 : Fld Z h14 b14 "java/lang/String" "coder" "B" (.int (0 : Int32)) := D14 (Or.inr (own_w hw 17 rfl)) (ty := .byte) (by decide)
    refine own_st st14 ?_
    show own_E p e below _ T14 (mkF m 54 #[iv p1, iv p2, iv p3, iv p4, iv p5, rv b1, rv b10, .unset, .unset, .unset, .unset, .unset, .unset, .unset, .unset] [.ref b14])
    refine own_st (fun t k => XS.dup X14.here hx rfl (hb hby at_54) rfl rfl k) ?_
    show own_E p e below _ T14 (mkF m 55 #[iv p1, iv p2, iv p3, iv p4, iv p5, rv b1, rv b10, .unset, .unset, .unset, .unset, .unset, .unset, .unset, .unset] [.ref b14, .ref b14])
    refine own_st (fun t k => XS.aload X14.here hx rfl (hb hby at_55) rfl rfl k) ?_
    show own_E p e below _ T14 (mkF m 57 #[iv p1, iv p2, iv p3, iv p4, iv p5, rv b1, rv b10, .unset, .unset, .unset, .unset, .unset, .unset, .unset, .unset] [.ref b10, .ref b14, .ref b14])
    have B18 := (V10.ext E14)
    obtain ⟨_, _, ⟨T19, L19, k19, n19⟩, -, X19, hS19, hgr19, ⟨Lc19, hQ19, l19, y19, z19⟩, st19⟩ := X14.specialBackS hx (y := own_y1) rfl hown (mvT hZ (own_w hw 4 rfl)) (mvT hZ (own_w hw 5 rfl)) (mvT hZ (own_w hw 6 rfl)) (by decide) (own_backI (W := 1) (own_new1 l Z a0 hw [] b14 b10 k10 h14 n0 Z16 (own_ExtK hO K17) hheld hcw A14 F_value_b14 F_coder_b14 B18 g_b14) hZ hI (own_w hw 6 rfl) (own_w hw 3 rfl) (by decide) (by decide)) (g := (mkF m 57 #[iv p1, iv p2, iv p3, iv p4, iv p5, rv b1, rv b10, .unset, .unset, .unset, .unset, .unset, .unset, .unset, .unset] [.ref b10, .ref b14, .ref b14])) rfl (by rw [hml]; rfl) (Steps.refl _) (a := b14) (argsL := [(.ref b10)]) (rest := [(.ref b14)]) (lenOf own_pd_6 rfl) rfl (by show 2 * 0 + _ ≤ _; exact Nat.le_of_eq rfl) (hb hby at_57) (fun _ _ => ⟨rfl, e14, (by decide : 3 + 2 ≤ _), (by decide : 6 + 4 ≤ _)⟩)
    dsimp only [Pt.U, Pt.locs, Pt.cells, Pt.slots] at X19 l19 y19 z19 st19 hQ19 hS19 hgr19
    subst l19 y19 z19
    have hZ19 := own_Zw hZ hS19
    have ho19 := own_ow hown hS19
    have hk19 := Nat.le_refl T19.heap.size
    obtain ⟨rfl, Nq19, Kq19, P19_0⟩ := hQ19
    have N19 := Fr.app N7 Nq19
    have e19 : T19.heap = T19.heap := rfl
    have Z20 := Nat.le_trans Z16 Kq19.1
    have K21 : Keep h0 _ [] := K17.trans Kq19 (allS (P := fun x => x ∈ [] ∨ h0.size ≤ x) (Or.inr sz_b14) all0)
    refine own_tr st19 ?_
    show own_E p e below _ T19 (mkF m 60 #[iv p1, iv p2, iv p3, iv p4, iv p5, rv b1, rv b10, .unset, .unset, .unset, .unset, .unset, .unset, .unset, .unset] [.ref b14])
    refine own_st (fun t k => XS.astore X19.here hx rfl (hb hby at_60) rfl rfl (l' := #[iv p1, iv p2, iv p3, iv p4, iv p5, rv b1, rv b10, rv b14, .unset, .unset, .unset, .unset, .unset, .unset, .unset]) rfl k) ?_
    show own_E p e below _ T19 (mkF m 62 #[iv p1, iv p2, iv p3, iv p4, iv p5, rv b1, rv b10, rv b14, .unset, .unset, .unset, .unset, .unset, .unset, .unset] [])
    refine own_st (fun t k => XS.iloadN X19.here hx rfl (hb hby at_62) rfl k) ?_
    show own_E p e below _ T19 (mkF m 63 #[iv p1, iv p2, iv p3, iv p4, iv p5, rv b1, rv b10, rv b14, .unset, .unset, .unset, .unset, .unset, .unset, .unset] [.int p2])
    refine own_st (X19.ldcInt hx ho19 (mvT hZ19 (own_w hw 22 rfl)) (g := (mkF m 63 #[iv p1, iv p2, iv p3, iv p4, iv p5, rv b1, rv b10, rv b14, .unset, .unset, .unset, .unset, .unset, .unset, .unset] [.int p2])) rfl (hb hby at_63)) ?_
    show own_E p e below _ T19 (mkF m 65 #[iv p1, iv p2, iv p3, iv p4, iv p5, rv b1, rv b10, rv b14, .unset, .unset, .unset, .unset, .unset, .unset, .unset] [.int 2147483647, .int p2])
    refine own_st (fun t k => XS.iand X19.here hx rfl (hb hby at_65) rfl k) ?_
    show own_E p e below _ T19 (mkF m 66 #[iv p1, iv p2, iv p3, iv p4, iv p5, rv b1, rv b10, rv b14, .unset, .unset, .unset, .unset, .unset, .unset, .unset] [.int (p2 &&& (2147483647 : Int32))])
    refine own_st (fun t k => XS.iconst X19.here hx rfl (hb hby at_66) k) ?_
    show own_E p e below _ T19 (mkF m 67 #[iv p1, iv p2, iv p3, iv p4, iv p5, rv b1, rv b10, rv b14, .unset, .unset, .unset, .unset, .unset, .unset, .unset] [.int 3, .int (p2 &&& (2147483647 : Int32))])
    refine own_st (fun t k => iremM X19 hx rfl (hb hby at_67) rfl (by decide) k) ?_
    show own_E p e below _ T19 (mkF m 68 #[iv p1, iv p2, iv p3, iv p4, iv p5, rv b1, rv b10, rv b14, .unset, .unset, .unset, .unset, .unset, .unset, .unset] [.int ((p2 &&& (2147483647 : Int32)) % (3 : Int32))])
    refine own_st (fun t k => XS.istore X19.here hx rfl (hb hby at_68) rfl (l' := #[iv p1, iv p2, iv p3, iv p4, iv p5, rv b1, rv b10, rv b14, iv ((p2 &&& (2147483647 : Int32)) % (3 : Int32)), .unset, .unset, .unset, .unset, .unset, .unset]) rfl k) ?_
    show own_E p e below _ T19 (mkF m 70 #[iv p1, iv p2, iv p3, iv p4, iv p5, rv b1, rv b10, rv b14, iv ((p2 &&& (2147483647 : Int32)) % (3 : Int32)), .unset, .unset, .unset, .unset, .unset, .unset] [])
    rcases own_mod3 p2 with hs22 | hs22 | hs22
    · rw [hs22]
      show own_E p e below _ T19 (mkF m 70 #[iv p1, iv p2, iv p3, iv p4, iv p5, rv b1, rv b10, rv b14, iv 0, .unset, .unset, .unset, .unset, .unset, .unset] [])
      refine own_st (fun t k => XS.iload X19.here hx rfl (hb hby at_70) rfl k) ?_
      show own_E p e below _ T19 (mkF m 72 #[iv p1, iv p2, iv p3, iv p4, iv p5, rv b1, rv b10, rv b14, iv 0, .unset, .unset, .unset, .unset, .unset, .unset] [.int 0])
      refine own_st (fun t k => XS.iconst X19.here hx rfl (hb hby at_72) k) ?_
      show own_E p e below _ T19 (mkF m 73 #[iv p1, iv p2, iv p3, iv p4, iv p5, rv b1, rv b10, rv b14, iv 0, .unset, .unset, .unset, .unset, .unset, .unset] [.int 1, .int 0])
      refine own_st (fun t k => XS.icmpYes X19.here hx rfl (pc0 := 73) (pc' := 81) rfl (hb hby at_73) rfl (by decide) (by decide) (by decide) k) ?_
      show own_E p e below _ T19 (mkF m 81 #[iv p1, iv p2, iv p3, iv p4, iv p5, rv b1, rv b10, rv b14, iv 0, .unset, .unset, .unset, .unset, .unset, .unset] [])
      refine own_st (fun t k => XS.aconstNull X19.here hx rfl (hb hby at_81) k) ?_
      show own_E p e below _ T19 (mkF m 82 #[iv p1, iv p2, iv p3, iv p4, iv p5, rv b1, rv b10, rv b14, iv 0, .unset, .unset, .unset, .unset, .unset, .unset] [.null])
      refine own_st (fun t k => XS.astore X19.here hx rfl (hb hby at_82) rfl rfl (l' := #[iv p1, iv p2, iv p3, iv p4, iv p5, rv b1, rv b10, rv b14, iv 0, .val (.null), .unset, .unset, .unset, .unset, .unset]) rfl k) ?_
      show own_E p e below _ T19 (mkF m 84 #[iv p1, iv p2, iv p3, iv p4, iv p5, rv b1, rv b10, rv b14, iv 0, .val (.null), .unset, .unset, .unset, .unset, .unset] [])
      refine own_st (fun t k => XS.iload X19.here hx rfl (hb hby at_84) rfl k) ?_
      show own_E p e below _ T19 (mkF m 86 #[iv p1, iv p2, iv p3, iv p4, iv p5, rv b1, rv b10, rv b14, iv 0, .val (.null), .unset, .unset, .unset, .unset, .unset] [.int 0])
      refine own_st (fun t k => XS.iconst X19.here hx rfl (hb hby at_86) k) ?_
      show own_E p e below _ T19 (mkF m 87 #[iv p1, iv p2, iv p3, iv p4, iv p5, rv b1, rv b10, rv b14, iv 0, .val (.null), .unset, .unset, .unset, .unset, .unset] [.int 2, .int 0])
      refine own_st (fun t k => XS.icmpYes X19.here hx rfl (pc0 := 87) (pc' := 95) rfl (hb hby at_87) rfl (by decide) (by decide) (by decide) k) ?_
      show own_E p e below _ T19 (mkF m 95 #[iv p1, iv p2, iv p3, iv p4, iv p5, rv b1, rv b10, rv b14, iv 0, .val (.null), .unset, .unset, .unset, .unset, .unset] [])
      refine own_st (fun t k => XS.aconstNull X19.here hx rfl (hb hby at_95) k) ?_
      show own_E p e below _ T19 (mkF m 96 #[iv p1, iv p2, iv p3, iv p4, iv p5, rv b1, rv b10, rv b14, iv 0, .val (.null), .unset, .unset, .unset, .unset, .unset] [.null])
      refine own_st (fun t k => XS.astore X19.here hx rfl (hb hby at_96) rfl rfl (l' := #[iv p1, iv p2, iv p3, iv p4, iv p5, rv b1, rv b10, rv b14, iv 0, .val (.null), .val (.null), .unset, .unset, .unset, .unset]) rfl k) ?_
      show own_E p e below _ T19 (mkF m 98 #[iv p1, iv p2, iv p3, iv p4, iv p5, rv b1, rv b10, rv b14, iv 0, .val (.null), .val (.null), .unset, .unset, .unset, .unset] [])
      refine own_st (fun t k => XS.iload X19.here hx rfl (hb hby at_98) rfl k) ?_
      show own_E p e below _ T19 (mkF m 100 #[iv p1, iv p2, iv p3, iv p4, iv p5, rv b1, rv b10, rv b14, iv 0, .val (.null), .val (.null), .unset, .unset, .unset, .unset] [.int p5])
      refine own_st (fun t k => XS.iconst X19.here hx rfl (hb hby at_100) k) ?_
      show own_E p e below _ T19 (mkF m 101 #[iv p1, iv p2, iv p3, iv p4, iv p5, rv b1, rv b10, rv b14, iv 0, .val (.null), .val (.null), .unset, .unset, .unset, .unset] [.int 1, .int p5])
      refine own_st (fun t k => XS.iand X19.here hx rfl (hb hby at_101) rfl k) ?_
      show own_E p e below _ T19 (mkF m 102 #[iv p1, iv p2, iv p3, iv p4, iv p5, rv b1, rv b10, rv b14, iv 0, .val (.null), .val (.null), .unset, .unset, .unset, .unset] [.int (p5 &&& (1 : Int32))])
      by_cases hc23 : (p5 &&& (1 : Int32)) = (0 : Int32)
      · refine own_st (fun t k => XS.ifYes X19.here hx rfl (pc0 := 102) (pc' := 109) rfl (hb hby at_102) rfl ((if0 _ _).trans (teq hc23).1) (by decide) (by decide) k) ?_
        show own_E p e below _ T19 (mkF m 109 #[iv p1, iv p2, iv p3, iv p4, iv p5, rv b1, rv b10, rv b14, iv 0, .val (.null), .val (.null), .unset, .unset, .unset, .unset] [])
        refine own_st (fun t k => XS.iconst X19.here hx rfl (hb hby at_109) k) ?_
        show own_E p e below _ T19 (mkF m 110 #[iv p1, iv p2, iv p3, iv p4, iv p5, rv b1, rv b10, rv b14, iv 0, .val (.null), .val (.null), .unset, .unset, .unset, .unset] [.int 0])
        refine own_st (fun t k => XS.istore X19.here hx rfl (hb hby at_110) rfl (l' := #[iv p1, iv p2, iv p3, iv p4, iv p5, rv b1, rv b10, rv b14, iv 0, .val (.null), .val (.null), iv 0, .unset, .unset, .unset]) rfl k) ?_
        show own_E p e below _ T19 (mkF m 112 #[iv p1, iv p2, iv p3, iv p4, iv p5, rv b1, rv b10, rv b14, iv 0, .val (.null), .val (.null), iv 0, .unset, .unset, .unset] [])
        obtain ⟨T24, h24, X24, e24, E24, A24, D24, -, st24⟩ := newO X19 hx hZ19 ho19 (own_w hw 23 rfl) (own_w hw 24 rfl) (own_w hw 25 rfl) e19 (g := (mkF m 112 #[iv p1, iv p2, iv p3, iv p4, iv p5, rv b1, rv b10, rv b14, iv 0, .val (.null), .val (.null), iv 0, .unset, .unset, .unset] [])) rfl (hb hby at_112) (by decide) (by decide)
        obtain ⟨b24, g24⟩ : ∃ z, z = T19.heap.size := ⟨_, rfl⟩
        rw [← g24] at A24 D24 st24
        have B25 := ((B15.ext E14).keep Kq19 (ninS ne_b1_b14 nin0))
        have ne_b1_b24 : b1 ≠ b24 := Nat.ne_of_lt (Nat.lt_of_lt_of_le B25.lt (Nat.le_of_eq g24.symm))
        have B26 := (B18.keep Kq19 (ninS ne_b10_b14 nin0))
        have ne_b10_b24 : b10 ≠ b24 := Nat.ne_of_lt (Nat.lt_of_lt_of_le B26.lt (Nat.le_of_eq g24.symm))
        have ne_b14_b24 : b14 ≠ b24 := Nat.ne_of_lt (Nat.lt_of_lt_of_le P19_0.lt (Nat.le_of_eq g24.symm))
        have g_b24 : n0 ≤ b24 := Nat.le_trans Z20 (Nat.le_of_eq g24.symm)
        have sz_b24 : h0.size ≤ b24 := Nat.le_trans K21.1 (Nat.le_of_eq g24.symm)
        have Z27 := Nat.le_trans Z20 E24.1
        have hk28 := Nat.le_trans hk19 E24.1
        have K29 : Keep h0 _ [] := K21.ext E24
        have F_limit_b24 : Fld Z h24 b24 "com/example/acquirer/acquirer/PageRequest" "limit" "I" (.int (0 : Int32)) := D24 (Or.inr (own_w hw 36 rfl)) (ty := .int) (by decide)
        have F_startingAfter_b24 : Fld Z h24 b24 "com/example/acquirer/acquirer/PageRequest" "startingAfter" "Ljava/lang/String;" .null := D24 (Or.inr (own_w hw 38 rfl)) (ty := (.object "java/lang/String")) (by decide)
        have F_endingBefore_b24 : Fld Z h24 b24 "com/example/acquirer/acquirer/PageRequest" "endingBefore" "Ljava/lang/String;" .null := D24 (Or.inr (own_w hw 40 rfl)) (ty := (.object "java/lang/String")) (by decide)
        have F_descending_b24 : Fld Z h24 b24 "com/example/acquirer/acquirer/PageRequest" "descending" "Z" (.int (0 : Int32)) := D24 (Or.inr (own_w hw 42 rfl)) (ty := .boolean) (by decide)
        refine own_st st24 ?_
        show own_E p e below _ T24 (mkF m 115 #[iv p1, iv p2, iv p3, iv p4, iv p5, rv b1, rv b10, rv b14, iv 0, .val (.null), .val (.null), iv 0, .unset, .unset, .unset] [.ref b24])
        refine own_st (fun t k => XS.dup X24.here hx rfl (hb hby at_115) rfl rfl k) ?_
        show own_E p e below _ T24 (mkF m 116 #[iv p1, iv p2, iv p3, iv p4, iv p5, rv b1, rv b10, rv b14, iv 0, .val (.null), .val (.null), iv 0, .unset, .unset, .unset] [.ref b24, .ref b24])
        refine own_st (fun t k => XS.iloadN X24.here hx rfl (hb hby at_116) rfl k) ?_
        show own_E p e below _ T24 (mkF m 117 #[iv p1, iv p2, iv p3, iv p4, iv p5, rv b1, rv b10, rv b14, iv 0, .val (.null), .val (.null), iv 0, .unset, .unset, .unset] [.int p1, .ref b24, .ref b24])
        refine own_st (fun t k => XS.aload X24.here hx rfl (hb hby at_117) rfl rfl k) ?_
        show own_E p e below _ T24 (mkF m 119 #[iv p1, iv p2, iv p3, iv p4, iv p5, rv b1, rv b10, rv b14, iv 0, .val (.null), .val (.null), iv 0, .unset, .unset, .unset] [.null, .int p1, .ref b24, .ref b24])
        refine own_st (fun t k => XS.aload X24.here hx rfl (hb hby at_119) rfl rfl k) ?_
        show own_E p e below _ T24 (mkF m 121 #[iv p1, iv p2, iv p3, iv p4, iv p5, rv b1, rv b10, rv b14, iv 0, .val (.null), .val (.null), iv 0, .unset, .unset, .unset] [.null, .null, .int p1, .ref b24, .ref b24])
        refine own_st (fun t k => XS.iload X24.here hx rfl (hb hby at_121) rfl k) ?_
        show own_E p e below _ T24 (mkF m 123 #[iv p1, iv p2, iv p3, iv p4, iv p5, rv b1, rv b10, rv b14, iv 0, .val (.null), .val (.null), iv 0, .unset, .unset, .unset] [.int 0, .null, .null, .int p1, .ref b24, .ref b24])
        obtain ⟨_, _, ⟨T30, L30, k30, n30⟩, -, X30, ⟨Lc30, hQ30, l30, y30, z30⟩, st30⟩ := X24.specialBack hx (y := own_y3) rfl ho19 (mvT hZ19 (own_w hw 26 rfl)) (mvT hZ19 (own_w hw 27 rfl)) (mvT hZ19 (own_w hw 28 rfl)) (by decide) (backOf (W := 1) (own_init000 l Z a0 hw [] b24 p1 h24 n0 Z27 A24 F_limit_b24 F_startingAfter_b24 F_endingBefore_b24 F_descending_b24 g_b24) hZ19 (own_w hw 28 rfl) (own_w hw 25 rfl) (by decide) (by decide)) (g := (mkF m 123 #[iv p1, iv p2, iv p3, iv p4, iv p5, rv b1, rv b10, rv b14, iv 0, .val (.null), .val (.null), iv 0, .unset, .unset, .unset] [.int 0, .null, .null, .int p1, .ref b24, .ref b24])) rfl (by rw [hml]; rfl) (Steps.refl _) (a := b24) (argsL := [(.int p1), .null, .null, (.int (0 : Int32))]) (rest := [(.ref b24)]) (lenOf own_pd_4 rfl) rfl (by show 2 * 0 + _ ≤ _; exact Nat.le_of_eq rfl) (hb hby at_123) (fun _ _ => ⟨rfl, e24, (by decide : 6 + 0 ≤ _), (by decide : 14 + 0 ≤ _)⟩)
        dsimp only [Pt.U, Pt.locs, Pt.cells, Pt.slots] at X30 l30 y30 z30 st30 hQ30
        subst l30 y30 z30
        obtain ⟨rfl, Nq30, Kq30, P30_0, P30_1, P30_2⟩ := hQ30
        have N30 := Fr.app N19 Nq30
        have e30 : T30.heap = T30.heap := rfl
        have Z31 := Nat.le_trans Z27 Kq30.1
        have hk32 := Nat.le_trans hk28 Kq30.1
        have K33 : Keep h0 _ [] := K29.trans Kq30 (allS (P := fun x => x ∈ [] ∨ h0.size ≤ x) (Or.inr sz_b24) all0)
        refine own_tr st30 ?_
        show own_E p e below _ T30 (mkF m 126 #[iv p1, iv p2, iv p3, iv p4, iv p5, rv b1, rv b10, rv b14, iv 0, .val (.null), .val (.null), iv 0, .unset, .unset, .unset] [.ref b24])
        refine own_st (fun t k => XS.astore X30.here hx rfl (hb hby at_126) rfl rfl (l' := #[iv p1, iv p2, iv p3, iv p4, iv p5, rv b1, rv b10, rv b14, iv 0, .val (.null), .val (.null), iv 0, rv b24, .unset, .unset]) rfl k) ?_
        show own_E p e below _ T30 (mkF m 128 #[iv p1, iv p2, iv p3, iv p4, iv p5, rv b1, rv b10, rv b14, iv 0, .val (.null), .val (.null), iv 0, rv b24, .unset, .unset] [])
        refine own_st (fun t k => XS.aload X30.here hx rfl (hb hby at_128) rfl rfl k) ?_
        show own_E p e below _ T30 (mkF m 130 #[iv p1, iv p2, iv p3, iv p4, iv p5, rv b1, rv b10, rv b14, iv 0, .val (.null), .val (.null), iv 0, rv b24, .unset, .unset] [.ref b24])
        obtain ⟨cq34, kq34, q34a, q34b, q34c⟩ := isOf hZ19 e30 P30_0
        obtain ⟨_, _, ⟨T34, L34, k34, n34⟩, -, X34, ⟨Lc34, hQ34, l34, y34, z34⟩, st34⟩ := X30.virtualBack hx (y := own_y5) (z := own_y5) ho19 (mvT hZ19 (own_w hw 43 rfl)) (mvT hZ19 (own_w hw 44 rfl)) (notFace_of_selects (args := #[]) (mvT hZ19 (own_w hw 46 rfl))) (mvT hZ19 (own_w hw 46 rfl)) (mvT hZ19 (own_w hw 45 rfl)) (by decide) (backOf (W := 0) (own_bk00 l Z a0 hw [] b24 T30.heap n0 Z31 P30_1 P30_2) hZ19 (own_w hw 47 rfl) (own_w hw 25 rfl) (by decide) (by decide)) q34a q34c (g := (mkF m 130 #[iv p1, iv p2, iv p3, iv p4, iv p5, rv b1, rv b10, rv b14, iv 0, .val (.null), .val (.null), iv 0, rv b24, .unset, .unset] [.ref b24])) rfl (by rw [hml]; rfl) (Steps.refl _) (argsL := []) (rest := []) (lenOf own_pd_2 rfl) rfl (by show 2 * 0 + _ ≤ _; exact Nat.le_of_eq rfl) (hb hby at_130) (fun _ _ => ⟨rfl, e30, (by decide : 6 + 0 ≤ _), (by decide : 14 + 0 ≤ _)⟩)
        dsimp only [Pt.U, Pt.locs, Pt.cells, Pt.slots] at X34 l34 y34 z34 st34 hQ34
        subst l34 y34 z34
        obtain ⟨hR34, e34, rfl⟩ := hQ34
        have N34 := Fr.app N30 (Fr.nil n0)
        obtain rfl := hR34
        refine own_tr st34 ?_
        show own_E p e below _ T34 (mkF m 133 #[iv p1, iv p2, iv p3, iv p4, iv p5, rv b1, rv b10, rv b14, iv 0, .val (.null), .val (.null), iv 0, rv b24, .unset, .unset] [.int 0])
        refine own_st (fun t k => XS.istore X34.here hx rfl (hb hby at_133) rfl (l' := #[iv p1, iv p2, iv p3, iv p4, iv p5, rv b1, rv b10, rv b14, iv 0, .val (.null), .val (.null), iv 0, rv b24, iv 0, .unset]) rfl k) ?_
        show own_E p e below _ T34 (mkF m 135 #[iv p1, iv p2, iv p3, iv p4, iv p5, rv b1, rv b10, rv b14, iv 0, .val (.null), .val (.null), iv 0, rv b24, iv 0, .unset] [])
        refine own_st (fun t k => XS.iload X34.here hx rfl (hb hby at_135) rfl k) ?_
        show own_E p e below _ T34 (mkF m 137 #[iv p1, iv p2, iv p3, iv p4, iv p5, rv b1, rv b10, rv b14, iv 0, .val (.null), .val (.null), iv 0, rv b24, iv 0, .unset] [.int 0])
        refine own_st (fun t k => XS.iconst X34.here hx rfl (hb hby at_137) k) ?_
        show own_E p e below _ T34 (mkF m 138 #[iv p1, iv p2, iv p3, iv p4, iv p5, rv b1, rv b10, rv b14, iv 0, .val (.null), .val (.null), iv 0, rv b24, iv 0, .unset] [.int 2, .int 0])
        refine own_st (fun t k => XS.icmpYes X34.here hx rfl (pc0 := 138) (pc' := 145) rfl (hb hby at_138) rfl (by decide) (by decide) (by decide) k) ?_
        show own_E p e below _ T34 (mkF m 145 #[iv p1, iv p2, iv p3, iv p4, iv p5, rv b1, rv b10, rv b14, iv 0, .val (.null), .val (.null), iv 0, rv b24, iv 0, .unset] [])
        refine own_st (fun t k => XS.iconst X34.here hx rfl (hb hby at_145) k) ?_
        show own_E p e below _ T34 (mkF m 146 #[iv p1, iv p2, iv p3, iv p4, iv p5, rv b1, rv b10, rv b14, iv 0, .val (.null), .val (.null), iv 0, rv b24, iv 0, .unset] [.int 0])
        refine own_st (fun t k => XS.istore X34.here hx rfl (hb hby at_146) rfl (l' := #[iv p1, iv p2, iv p3, iv p4, iv p5, rv b1, rv b10, rv b14, iv 0, .val (.null), .val (.null), iv 0, rv b24, iv 0, iv 0]) rfl k) ?_
        show own_E p e below _ T34 (mkF m 148 #[iv p1, iv p2, iv p3, iv p4, iv p5, rv b1, rv b10, rv b14, iv 0, .val (.null), .val (.null), iv 0, rv b24, iv 0, iv 0] [])
        refine own_st (fun t k => XS.iload X34.here hx rfl (hb hby at_148) rfl k) ?_
        show own_E p e below _ T34 (mkF m 150 #[iv p1, iv p2, iv p3, iv p4, iv p5, rv b1, rv b10, rv b14, iv 0, .val (.null), .val (.null), iv 0, rv b24, iv 0, iv 0] [.int 0])
        refine own_st (fun t k => XS.iload X34.here hx rfl (hb hby at_150) rfl k) ?_
        show own_E p e below _ T34 (mkF m 152 #[iv p1, iv p2, iv p3, iv p4, iv p5, rv b1, rv b10, rv b14, iv 0, .val (.null), .val (.null), iv 0, rv b24, iv 0, iv 0] [.int 0, .int 0])
        refine own_st (fun t k => XS.icmpYes X34.here hx rfl (pc0 := 152) (pc' := 157) rfl (hb hby at_152) rfl (by decide) (by decide) (by decide) k) ?_
        show own_E p e below _ T34 (mkF m 157 #[iv p1, iv p2, iv p3, iv p4, iv p5, rv b1, rv b10, rv b14, iv 0, .val (.null), .val (.null), iv 0, rv b24, iv 0, iv 0] [])
        refine own_st (fun t k => XS.iload X34.here hx rfl (hb hby at_157) rfl k) ?_
        show own_E p e below _ T34 (mkF m 159 #[iv p1, iv p2, iv p3, iv p4, iv p5, rv b1, rv b10, rv b14, iv 0, .val (.null), .val (.null), iv 0, rv b24, iv 0, iv 0] [.int 0])
        refine own_st (fun t k => XS.ifYes X34.here hx rfl (pc0 := 159) (pc' := 178) rfl (hb hby at_159) rfl (by decide) (by decide) (by decide) k) ?_
        show own_E p e below _ T34 (mkF m 178 #[iv p1, iv p2, iv p3, iv p4, iv p5, rv b1, rv b10, rv b14, iv 0, .val (.null), .val (.null), iv 0, rv b24, iv 0, iv 0] [])
        refine own_st (fun t k => XS.iconst X34.here hx rfl (hb hby at_178) k) ?_
        show own_E p e below _ T34 (mkF m 179 #[iv p1, iv p2, iv p3, iv p4, iv p5, rv b1, rv b10, rv b14, iv 0, .val (.null), .val (.null), iv 0, rv b24, iv 0, iv 0] [.int 1])
        refine own_retSW X34 hS19 (by rw [e34]; exact hk32) hx Bd.notSynchronized Bd.returns rfl (by decide) (hb hby at_179) (by decide) (by decide) ?_
        exact ⟨rfl, N34⟩
      · refine own_st (fun t k => XS.ifNo X19.here hx rfl (hb hby at_102) rfl ((if0 _ _).trans (feq hc23).1) k) ?_
        show own_E p e below _ T19 (mkF m 105 #[iv p1, iv p2, iv p3, iv p4, iv p5, rv b1, rv b10, rv b14, iv 0, .val (.null), .val (.null), .unset, .unset, .unset, .unset] [])
        refine own_st (fun t k => XS.iconst X19.here hx rfl (hb hby at_105) k) ?_
        show own_E p e below _ T19 (mkF m 106 #[iv p1, iv p2, iv p3, iv p4, iv p5, rv b1, rv b10, rv b14, iv 0, .val (.null), .val (.null), .unset, .unset, .unset, .unset] [.int 1])
        refine own_st (fun t k => XS.goto X19.here hx rfl (pc0 := 106) (pc' := 110) rfl (hb hby at_106) (by decide) (by decide) k) ?_
        show own_E p e below _ T19 (mkF m 110 #[iv p1, iv p2, iv p3, iv p4, iv p5, rv b1, rv b10, rv b14, iv 0, .val (.null), .val (.null), .unset, .unset, .unset, .unset] [.int 1])
        refine own_st (fun t k => XS.istore X19.here hx rfl (hb hby at_110) rfl (l' := #[iv p1, iv p2, iv p3, iv p4, iv p5, rv b1, rv b10, rv b14, iv 0, .val (.null), .val (.null), iv 1, .unset, .unset, .unset]) rfl k) ?_
        show own_E p e below _ T19 (mkF m 112 #[iv p1, iv p2, iv p3, iv p4, iv p5, rv b1, rv b10, rv b14, iv 0, .val (.null), .val (.null), iv 1, .unset, .unset, .unset] [])
        obtain ⟨T35, h35, X35, e35, E35, A35, D35, -, st35⟩ := newO X19 hx hZ19 ho19 (own_w hw 23 rfl) (own_w hw 24 rfl) (own_w hw 25 rfl) e19 (g := (mkF m 112 #[iv p1, iv p2, iv p3, iv p4, iv p5, rv b1, rv b10, rv b14, iv 0, .val (.null), .val (.null), iv 1, .unset, .unset, .unset] [])) rfl (hb hby at_112) (by decide) (by decide)
        obtain ⟨b35, g35⟩ : ∃ z, z = T19.heap.size := ⟨_, rfl⟩
        rw [← g35] at A35 D35 st35
        have B36 := ((B15.ext E14).keep Kq19 (ninS ne_b1_b14 nin0))
        have ne_b1_b35 : b1 ≠ b35 := Nat.ne_of_lt (Nat.lt_of_lt_of_le B36.lt (Nat.le_of_eq g35.symm))
        have B37 := (B18.keep Kq19 (ninS ne_b10_b14 nin0))
        have ne_b10_b35 : b10 ≠ b35 := Nat.ne_of_lt (Nat.lt_of_lt_of_le B37.lt (Nat.le_of_eq g35.symm))
        have ne_b14_b35 : b14 ≠ b35 := Nat.ne_of_lt (Nat.lt_of_lt_of_le P19_0.lt (Nat.le_of_eq g35.symm))
        have g_b35 : n0 ≤ b35 := Nat.le_trans Z20 (Nat.le_of_eq g35.symm)
        have sz_b35 : h0.size ≤ b35 := Nat.le_trans K21.1 (Nat.le_of_eq g35.symm)
        have Z38 := Nat.le_trans Z20 E35.1
        have hk39 := Nat.le_trans hk19 E35.1
        have K40 : Keep h0 _ [] := K21.ext E35
        have F_limit_b35 : Fld Z h35 b35 "com/example/acquirer/acquirer/PageRequest" "limit" "I" (.int (0 : Int32)) := D35 (Or.inr (own_w hw 36 rfl)) (ty := .int) (by decide)
        have F_startingAfter_b35 : Fld Z h35 b35 "com/example/acquirer/acquirer/PageRequest" "startingAfter" "Ljava/lang/String;" .null := D35 (Or.inr (own_w hw 38 rfl)) (ty := (.object "java/lang/String")) (by decide)
        have F_endingBefore_b35 : Fld Z h35 b35 "com/example/acquirer/acquirer/PageRequest" "endingBefore" "Ljava/lang/String;" .null := D35 (Or.inr (own_w hw 40 rfl)) (ty := (.object "java/lang/String")) (by decide)
        have F_descending_b35 : Fld Z h35 b35 "com/example/acquirer/acquirer/PageRequest" "descending" "Z" (.int (0 : Int32)) := D35 (Or.inr (own_w hw 42 rfl)) (ty := .boolean) (by decide)
        refine own_st st35 ?_
        show own_E p e below _ T35 (mkF m 115 #[iv p1, iv p2, iv p3, iv p4, iv p5, rv b1, rv b10, rv b14, iv 0, .val (.null), .val (.null), iv 1, .unset, .unset, .unset] [.ref b35])
        refine own_st (fun t k => XS.dup X35.here hx rfl (hb hby at_115) rfl rfl k) ?_
        show own_E p e below _ T35 (mkF m 116 #[iv p1, iv p2, iv p3, iv p4, iv p5, rv b1, rv b10, rv b14, iv 0, .val (.null), .val (.null), iv 1, .unset, .unset, .unset] [.ref b35, .ref b35])
        refine own_st (fun t k => XS.iloadN X35.here hx rfl (hb hby at_116) rfl k) ?_
        show own_E p e below _ T35 (mkF m 117 #[iv p1, iv p2, iv p3, iv p4, iv p5, rv b1, rv b10, rv b14, iv 0, .val (.null), .val (.null), iv 1, .unset, .unset, .unset] [.int p1, .ref b35, .ref b35])
        refine own_st (fun t k => XS.aload X35.here hx rfl (hb hby at_117) rfl rfl k) ?_
        show own_E p e below _ T35 (mkF m 119 #[iv p1, iv p2, iv p3, iv p4, iv p5, rv b1, rv b10, rv b14, iv 0, .val (.null), .val (.null), iv 1, .unset, .unset, .unset] [.null, .int p1, .ref b35, .ref b35])
        refine own_st (fun t k => XS.aload X35.here hx rfl (hb hby at_119) rfl rfl k) ?_
        show own_E p e below _ T35 (mkF m 121 #[iv p1, iv p2, iv p3, iv p4, iv p5, rv b1, rv b10, rv b14, iv 0, .val (.null), .val (.null), iv 1, .unset, .unset, .unset] [.null, .null, .int p1, .ref b35, .ref b35])
        refine own_st (fun t k => XS.iload X35.here hx rfl (hb hby at_121) rfl k) ?_
        show own_E p e below _ T35 (mkF m 123 #[iv p1, iv p2, iv p3, iv p4, iv p5, rv b1, rv b10, rv b14, iv 0, .val (.null), .val (.null), iv 1, .unset, .unset, .unset] [.int 1, .null, .null, .int p1, .ref b35, .ref b35])
        obtain ⟨_, _, ⟨T41, L41, k41, n41⟩, -, X41, ⟨Lc41, hQ41, l41, y41, z41⟩, st41⟩ := X35.specialBack hx (y := own_y3) rfl ho19 (mvT hZ19 (own_w hw 26 rfl)) (mvT hZ19 (own_w hw 27 rfl)) (mvT hZ19 (own_w hw 28 rfl)) (by decide) (backOf (W := 1) (own_init001 l Z a0 hw [] b35 p1 h35 n0 Z38 A35 F_limit_b35 F_startingAfter_b35 F_endingBefore_b35 F_descending_b35 g_b35) hZ19 (own_w hw 28 rfl) (own_w hw 25 rfl) (by decide) (by decide)) (g := (mkF m 123 #[iv p1, iv p2, iv p3, iv p4, iv p5, rv b1, rv b10, rv b14, iv 0, .val (.null), .val (.null), iv 1, .unset, .unset, .unset] [.int 1, .null, .null, .int p1, .ref b35, .ref b35])) rfl (by rw [hml]; rfl) (Steps.refl _) (a := b35) (argsL := [(.int p1), .null, .null, (.int (1 : Int32))]) (rest := [(.ref b35)]) (lenOf own_pd_4 rfl) rfl (by show 2 * 0 + _ ≤ _; exact Nat.le_of_eq rfl) (hb hby at_123) (fun _ _ => ⟨rfl, e35, (by decide : 6 + 0 ≤ _), (by decide : 14 + 0 ≤ _)⟩)
        dsimp only [Pt.U, Pt.locs, Pt.cells, Pt.slots] at X41 l41 y41 z41 st41 hQ41
        subst l41 y41 z41
        obtain ⟨rfl, Nq41, Kq41, P41_0, P41_1, P41_2⟩ := hQ41
        have N41 := Fr.app N19 Nq41
        have e41 : T41.heap = T41.heap := rfl
        have Z42 := Nat.le_trans Z38 Kq41.1
        have hk43 := Nat.le_trans hk39 Kq41.1
        have K44 : Keep h0 _ [] := K40.trans Kq41 (allS (P := fun x => x ∈ [] ∨ h0.size ≤ x) (Or.inr sz_b35) all0)
        refine own_tr st41 ?_
        show own_E p e below _ T41 (mkF m 126 #[iv p1, iv p2, iv p3, iv p4, iv p5, rv b1, rv b10, rv b14, iv 0, .val (.null), .val (.null), iv 1, .unset, .unset, .unset] [.ref b35])
        refine own_st (fun t k => XS.astore X41.here hx rfl (hb hby at_126) rfl rfl (l' := #[iv p1, iv p2, iv p3, iv p4, iv p5, rv b1, rv b10, rv b14, iv 0, .val (.null), .val (.null), iv 1, rv b35, .unset, .unset]) rfl k) ?_
        show own_E p e below _ T41 (mkF m 128 #[iv p1, iv p2, iv p3, iv p4, iv p5, rv b1, rv b10, rv b14, iv 0, .val (.null), .val (.null), iv 1, rv b35, .unset, .unset] [])
        refine own_st (fun t k => XS.aload X41.here hx rfl (hb hby at_128) rfl rfl k) ?_
        show own_E p e below _ T41 (mkF m 130 #[iv p1, iv p2, iv p3, iv p4, iv p5, rv b1, rv b10, rv b14, iv 0, .val (.null), .val (.null), iv 1, rv b35, .unset, .unset] [.ref b35])
        obtain ⟨cq45, kq45, q45a, q45b, q45c⟩ := isOf hZ19 e41 P41_0
        obtain ⟨_, _, ⟨T45, L45, k45, n45⟩, -, X45, ⟨Lc45, hQ45, l45, y45, z45⟩, st45⟩ := X41.virtualBack hx (y := own_y5) (z := own_y5) ho19 (mvT hZ19 (own_w hw 43 rfl)) (mvT hZ19 (own_w hw 44 rfl)) (notFace_of_selects (args := #[]) (mvT hZ19 (own_w hw 46 rfl))) (mvT hZ19 (own_w hw 46 rfl)) (mvT hZ19 (own_w hw 45 rfl)) (by decide) (backOf (W := 0) (own_bk00 l Z a0 hw [] b35 T41.heap n0 Z42 P41_1 P41_2) hZ19 (own_w hw 47 rfl) (own_w hw 25 rfl) (by decide) (by decide)) q45a q45c (g := (mkF m 130 #[iv p1, iv p2, iv p3, iv p4, iv p5, rv b1, rv b10, rv b14, iv 0, .val (.null), .val (.null), iv 1, rv b35, .unset, .unset] [.ref b35])) rfl (by rw [hml]; rfl) (Steps.refl _) (argsL := []) (rest := []) (lenOf own_pd_2 rfl) rfl (by show 2 * 0 + _ ≤ _; exact Nat.le_of_eq rfl) (hb hby at_130) (fun _ _ => ⟨rfl, e41, (by decide : 6 + 0 ≤ _), (by decide : 14 + 0 ≤ _)⟩)
        dsimp only [Pt.U, Pt.locs, Pt.cells, Pt.slots] at X45 l45 y45 z45 st45 hQ45
        subst l45 y45 z45
        obtain ⟨hR45, e45, rfl⟩ := hQ45
        have N45 := Fr.app N41 (Fr.nil n0)
        obtain rfl := hR45
        refine own_tr st45 ?_
        show own_E p e below _ T45 (mkF m 133 #[iv p1, iv p2, iv p3, iv p4, iv p5, rv b1, rv b10, rv b14, iv 0, .val (.null), .val (.null), iv 1, rv b35, .unset, .unset] [.int 0])
        refine own_st (fun t k => XS.istore X45.here hx rfl (hb hby at_133) rfl (l' := #[iv p1, iv p2, iv p3, iv p4, iv p5, rv b1, rv b10, rv b14, iv 0, .val (.null), .val (.null), iv 1, rv b35, iv 0, .unset]) rfl k) ?_
        show own_E p e below _ T45 (mkF m 135 #[iv p1, iv p2, iv p3, iv p4, iv p5, rv b1, rv b10, rv b14, iv 0, .val (.null), .val (.null), iv 1, rv b35, iv 0, .unset] [])
        refine own_st (fun t k => XS.iload X45.here hx rfl (hb hby at_135) rfl k) ?_
        show own_E p e below _ T45 (mkF m 137 #[iv p1, iv p2, iv p3, iv p4, iv p5, rv b1, rv b10, rv b14, iv 0, .val (.null), .val (.null), iv 1, rv b35, iv 0, .unset] [.int 0])
        refine own_st (fun t k => XS.iconst X45.here hx rfl (hb hby at_137) k) ?_
        show own_E p e below _ T45 (mkF m 138 #[iv p1, iv p2, iv p3, iv p4, iv p5, rv b1, rv b10, rv b14, iv 0, .val (.null), .val (.null), iv 1, rv b35, iv 0, .unset] [.int 2, .int 0])
        refine own_st (fun t k => XS.icmpYes X45.here hx rfl (pc0 := 138) (pc' := 145) rfl (hb hby at_138) rfl (by decide) (by decide) (by decide) k) ?_
        show own_E p e below _ T45 (mkF m 145 #[iv p1, iv p2, iv p3, iv p4, iv p5, rv b1, rv b10, rv b14, iv 0, .val (.null), .val (.null), iv 1, rv b35, iv 0, .unset] [])
        refine own_st (fun t k => XS.iconst X45.here hx rfl (hb hby at_145) k) ?_
        show own_E p e below _ T45 (mkF m 146 #[iv p1, iv p2, iv p3, iv p4, iv p5, rv b1, rv b10, rv b14, iv 0, .val (.null), .val (.null), iv 1, rv b35, iv 0, .unset] [.int 0])
        refine own_st (fun t k => XS.istore X45.here hx rfl (hb hby at_146) rfl (l' := #[iv p1, iv p2, iv p3, iv p4, iv p5, rv b1, rv b10, rv b14, iv 0, .val (.null), .val (.null), iv 1, rv b35, iv 0, iv 0]) rfl k) ?_
        show own_E p e below _ T45 (mkF m 148 #[iv p1, iv p2, iv p3, iv p4, iv p5, rv b1, rv b10, rv b14, iv 0, .val (.null), .val (.null), iv 1, rv b35, iv 0, iv 0] [])
        refine own_st (fun t k => XS.iload X45.here hx rfl (hb hby at_148) rfl k) ?_
        show own_E p e below _ T45 (mkF m 150 #[iv p1, iv p2, iv p3, iv p4, iv p5, rv b1, rv b10, rv b14, iv 0, .val (.null), .val (.null), iv 1, rv b35, iv 0, iv 0] [.int 0])
        refine own_st (fun t k => XS.iload X45.here hx rfl (hb hby at_150) rfl k) ?_
        show own_E p e below _ T45 (mkF m 152 #[iv p1, iv p2, iv p3, iv p4, iv p5, rv b1, rv b10, rv b14, iv 0, .val (.null), .val (.null), iv 1, rv b35, iv 0, iv 0] [.int 0, .int 0])
        refine own_st (fun t k => XS.icmpYes X45.here hx rfl (pc0 := 152) (pc' := 157) rfl (hb hby at_152) rfl (by decide) (by decide) (by decide) k) ?_
        show own_E p e below _ T45 (mkF m 157 #[iv p1, iv p2, iv p3, iv p4, iv p5, rv b1, rv b10, rv b14, iv 0, .val (.null), .val (.null), iv 1, rv b35, iv 0, iv 0] [])
        refine own_st (fun t k => XS.iload X45.here hx rfl (hb hby at_157) rfl k) ?_
        show own_E p e below _ T45 (mkF m 159 #[iv p1, iv p2, iv p3, iv p4, iv p5, rv b1, rv b10, rv b14, iv 0, .val (.null), .val (.null), iv 1, rv b35, iv 0, iv 0] [.int 0])
        refine own_st (fun t k => XS.ifYes X45.here hx rfl (pc0 := 159) (pc' := 178) rfl (hb hby at_159) rfl (by decide) (by decide) (by decide) k) ?_
        show own_E p e below _ T45 (mkF m 178 #[iv p1, iv p2, iv p3, iv p4, iv p5, rv b1, rv b10, rv b14, iv 0, .val (.null), .val (.null), iv 1, rv b35, iv 0, iv 0] [])
        refine own_st (fun t k => XS.iconst X45.here hx rfl (hb hby at_178) k) ?_
        show own_E p e below _ T45 (mkF m 179 #[iv p1, iv p2, iv p3, iv p4, iv p5, rv b1, rv b10, rv b14, iv 0, .val (.null), .val (.null), iv 1, rv b35, iv 0, iv 0] [.int 1])
        refine own_retSW X45 hS19 (by rw [e45]; exact hk43) hx Bd.notSynchronized Bd.returns rfl (by decide) (hb hby at_179) (by decide) (by decide) ?_
        exact ⟨rfl, N45⟩
    · rw [hs22]
      show own_E p e below _ T19 (mkF m 70 #[iv p1, iv p2, iv p3, iv p4, iv p5, rv b1, rv b10, rv b14, iv 1, .unset, .unset, .unset, .unset, .unset, .unset] [])
      refine own_st (fun t k => XS.iload X19.here hx rfl (hb hby at_70) rfl k) ?_
      show own_E p e below _ T19 (mkF m 72 #[iv p1, iv p2, iv p3, iv p4, iv p5, rv b1, rv b10, rv b14, iv 1, .unset, .unset, .unset, .unset, .unset, .unset] [.int 1])
      refine own_st (fun t k => XS.iconst X19.here hx rfl (hb hby at_72) k) ?_
      show own_E p e below _ T19 (mkF m 73 #[iv p1, iv p2, iv p3, iv p4, iv p5, rv b1, rv b10, rv b14, iv 1, .unset, .unset, .unset, .unset, .unset, .unset] [.int 1, .int 1])
      refine own_st (fun t k => XS.icmpNo X19.here hx rfl (hb hby at_73) rfl (by decide) k) ?_
      show own_E p e below _ T19 (mkF m 76 #[iv p1, iv p2, iv p3, iv p4, iv p5, rv b1, rv b10, rv b14, iv 1, .unset, .unset, .unset, .unset, .unset, .unset] [])
      refine own_st (fun t k => XS.aload X19.here hx rfl (hb hby at_76) rfl rfl k) ?_
      show own_E p e below _ T19 (mkF m 78 #[iv p1, iv p2, iv p3, iv p4, iv p5, rv b1, rv b10, rv b14, iv 1, .unset, .unset, .unset, .unset, .unset, .unset] [.ref b14])
      refine own_st (fun t k => XS.goto X19.here hx rfl (pc0 := 78) (pc' := 82) rfl (hb hby at_78) (by decide) (by decide) k) ?_
      show own_E p e below _ T19 (mkF m 82 #[iv p1, iv p2, iv p3, iv p4, iv p5, rv b1, rv b10, rv b14, iv 1, .unset, .unset, .unset, .unset, .unset, .unset] [.ref b14])
      refine own_st (fun t k => XS.astore X19.here hx rfl (hb hby at_82) rfl rfl (l' := #[iv p1, iv p2, iv p3, iv p4, iv p5, rv b1, rv b10, rv b14, iv 1, rv b14, .unset, .unset, .unset, .unset, .unset]) rfl k) ?_
      show own_E p e below _ T19 (mkF m 84 #[iv p1, iv p2, iv p3, iv p4, iv p5, rv b1, rv b10, rv b14, iv 1, rv b14, .unset, .unset, .unset, .unset, .unset] [])
      refine own_st (fun t k => XS.iload X19.here hx rfl (hb hby at_84) rfl k) ?_
      show own_E p e below _ T19 (mkF m 86 #[iv p1, iv p2, iv p3, iv p4, iv p5, rv b1, rv b10, rv b14, iv 1, rv b14, .unset, .unset, .unset, .unset, .unset] [.int 1])
      refine own_st (fun t k => XS.iconst X19.here hx rfl (hb hby at_86) k) ?_
      show own_E p e below _ T19 (mkF m 87 #[iv p1, iv p2, iv p3, iv p4, iv p5, rv b1, rv b10, rv b14, iv 1, rv b14, .unset, .unset, .unset, .unset, .unset] [.int 2, .int 1])
      refine own_st (fun t k => XS.icmpYes X19.here hx rfl (pc0 := 87) (pc' := 95) rfl (hb hby at_87) rfl (by decide) (by decide) (by decide) k) ?_
      show own_E p e below _ T19 (mkF m 95 #[iv p1, iv p2, iv p3, iv p4, iv p5, rv b1, rv b10, rv b14, iv 1, rv b14, .unset, .unset, .unset, .unset, .unset] [])
      refine own_st (fun t k => XS.aconstNull X19.here hx rfl (hb hby at_95) k) ?_
      show own_E p e below _ T19 (mkF m 96 #[iv p1, iv p2, iv p3, iv p4, iv p5, rv b1, rv b10, rv b14, iv 1, rv b14, .unset, .unset, .unset, .unset, .unset] [.null])
      refine own_st (fun t k => XS.astore X19.here hx rfl (hb hby at_96) rfl rfl (l' := #[iv p1, iv p2, iv p3, iv p4, iv p5, rv b1, rv b10, rv b14, iv 1, rv b14, .val (.null), .unset, .unset, .unset, .unset]) rfl k) ?_
      show own_E p e below _ T19 (mkF m 98 #[iv p1, iv p2, iv p3, iv p4, iv p5, rv b1, rv b10, rv b14, iv 1, rv b14, .val (.null), .unset, .unset, .unset, .unset] [])
      refine own_st (fun t k => XS.iload X19.here hx rfl (hb hby at_98) rfl k) ?_
      show own_E p e below _ T19 (mkF m 100 #[iv p1, iv p2, iv p3, iv p4, iv p5, rv b1, rv b10, rv b14, iv 1, rv b14, .val (.null), .unset, .unset, .unset, .unset] [.int p5])
      refine own_st (fun t k => XS.iconst X19.here hx rfl (hb hby at_100) k) ?_
      show own_E p e below _ T19 (mkF m 101 #[iv p1, iv p2, iv p3, iv p4, iv p5, rv b1, rv b10, rv b14, iv 1, rv b14, .val (.null), .unset, .unset, .unset, .unset] [.int 1, .int p5])
      refine own_st (fun t k => XS.iand X19.here hx rfl (hb hby at_101) rfl k) ?_
      show own_E p e below _ T19 (mkF m 102 #[iv p1, iv p2, iv p3, iv p4, iv p5, rv b1, rv b10, rv b14, iv 1, rv b14, .val (.null), .unset, .unset, .unset, .unset] [.int (p5 &&& (1 : Int32))])
      by_cases hc46 : (p5 &&& (1 : Int32)) = (0 : Int32)
      · refine own_st (fun t k => XS.ifYes X19.here hx rfl (pc0 := 102) (pc' := 109) rfl (hb hby at_102) rfl ((if0 _ _).trans (teq hc46).1) (by decide) (by decide) k) ?_
        show own_E p e below _ T19 (mkF m 109 #[iv p1, iv p2, iv p3, iv p4, iv p5, rv b1, rv b10, rv b14, iv 1, rv b14, .val (.null), .unset, .unset, .unset, .unset] [])
        refine own_st (fun t k => XS.iconst X19.here hx rfl (hb hby at_109) k) ?_
        show own_E p e below _ T19 (mkF m 110 #[iv p1, iv p2, iv p3, iv p4, iv p5, rv b1, rv b10, rv b14, iv 1, rv b14, .val (.null), .unset, .unset, .unset, .unset] [.int 0])
        refine own_st (fun t k => XS.istore X19.here hx rfl (hb hby at_110) rfl (l' := #[iv p1, iv p2, iv p3, iv p4, iv p5, rv b1, rv b10, rv b14, iv 1, rv b14, .val (.null), iv 0, .unset, .unset, .unset]) rfl k) ?_
        show own_E p e below _ T19 (mkF m 112 #[iv p1, iv p2, iv p3, iv p4, iv p5, rv b1, rv b10, rv b14, iv 1, rv b14, .val (.null), iv 0, .unset, .unset, .unset] [])
        obtain ⟨T47, h47, X47, e47, E47, A47, D47, -, st47⟩ := newO X19 hx hZ19 ho19 (own_w hw 23 rfl) (own_w hw 24 rfl) (own_w hw 25 rfl) e19 (g := (mkF m 112 #[iv p1, iv p2, iv p3, iv p4, iv p5, rv b1, rv b10, rv b14, iv 1, rv b14, .val (.null), iv 0, .unset, .unset, .unset] [])) rfl (hb hby at_112) (by decide) (by decide)
        obtain ⟨b47, g47⟩ : ∃ z, z = T19.heap.size := ⟨_, rfl⟩
        rw [← g47] at A47 D47 st47
        have B48 := ((B15.ext E14).keep Kq19 (ninS ne_b1_b14 nin0))
        have ne_b1_b47 : b1 ≠ b47 := Nat.ne_of_lt (Nat.lt_of_lt_of_le B48.lt (Nat.le_of_eq g47.symm))
        have B49 := (B18.keep Kq19 (ninS ne_b10_b14 nin0))
        have ne_b10_b47 : b10 ≠ b47 := Nat.ne_of_lt (Nat.lt_of_lt_of_le B49.lt (Nat.le_of_eq g47.symm))
        have ne_b14_b47 : b14 ≠ b47 := Nat.ne_of_lt (Nat.lt_of_lt_of_le P19_0.lt (Nat.le_of_eq g47.symm))
        have g_b47 : n0 ≤ b47 := Nat.le_trans Z20 (Nat.le_of_eq g47.symm)
        have sz_b47 : h0.size ≤ b47 := Nat.le_trans K21.1 (Nat.le_of_eq g47.symm)
        have Z50 := Nat.le_trans Z20 E47.1
        have hk51 := Nat.le_trans hk19 E47.1
        have K52 : Keep h0 _ [] := K21.ext E47
        have F_limit_b47 : Fld Z h47 b47 "com/example/acquirer/acquirer/PageRequest" "limit" "I" (.int (0 : Int32)) := D47 (Or.inr (own_w hw 36 rfl)) (ty := .int) (by decide)
        have F_startingAfter_b47 : Fld Z h47 b47 "com/example/acquirer/acquirer/PageRequest" "startingAfter" "Ljava/lang/String;" .null := D47 (Or.inr (own_w hw 38 rfl)) (ty := (.object "java/lang/String")) (by decide)
        have F_endingBefore_b47 : Fld Z h47 b47 "com/example/acquirer/acquirer/PageRequest" "endingBefore" "Ljava/lang/String;" .null := D47 (Or.inr (own_w hw 40 rfl)) (ty := (.object "java/lang/String")) (by decide)
        have F_descending_b47 : Fld Z h47 b47 "com/example/acquirer/acquirer/PageRequest" "descending" "Z" (.int (0 : Int32)) := D47 (Or.inr (own_w hw 42 rfl)) (ty := .boolean) (by decide)
        refine own_st st47 ?_
        show own_E p e below _ T47 (mkF m 115 #[iv p1, iv p2, iv p3, iv p4, iv p5, rv b1, rv b10, rv b14, iv 1, rv b14, .val (.null), iv 0, .unset, .unset, .unset] [.ref b47])
        refine own_st (fun t k => XS.dup X47.here hx rfl (hb hby at_115) rfl rfl k) ?_
        show own_E p e below _ T47 (mkF m 116 #[iv p1, iv p2, iv p3, iv p4, iv p5, rv b1, rv b10, rv b14, iv 1, rv b14, .val (.null), iv 0, .unset, .unset, .unset] [.ref b47, .ref b47])
        refine own_st (fun t k => XS.iloadN X47.here hx rfl (hb hby at_116) rfl k) ?_
        show own_E p e below _ T47 (mkF m 117 #[iv p1, iv p2, iv p3, iv p4, iv p5, rv b1, rv b10, rv b14, iv 1, rv b14, .val (.null), iv 0, .unset, .unset, .unset] [.int p1, .ref b47, .ref b47])
        refine own_st (fun t k => XS.aload X47.here hx rfl (hb hby at_117) rfl rfl k) ?_
        show own_E p e below _ T47 (mkF m 119 #[iv p1, iv p2, iv p3, iv p4, iv p5, rv b1, rv b10, rv b14, iv 1, rv b14, .val (.null), iv 0, .unset, .unset, .unset] [.ref b14, .int p1, .ref b47, .ref b47])
        refine own_st (fun t k => XS.aload X47.here hx rfl (hb hby at_119) rfl rfl k) ?_
        show own_E p e below _ T47 (mkF m 121 #[iv p1, iv p2, iv p3, iv p4, iv p5, rv b1, rv b10, rv b14, iv 1, rv b14, .val (.null), iv 0, .unset, .unset, .unset] [.null, .ref b14, .int p1, .ref b47, .ref b47])
        refine own_st (fun t k => XS.iload X47.here hx rfl (hb hby at_121) rfl k) ?_
        show own_E p e below _ T47 (mkF m 123 #[iv p1, iv p2, iv p3, iv p4, iv p5, rv b1, rv b10, rv b14, iv 1, rv b14, .val (.null), iv 0, .unset, .unset, .unset] [.int 0, .null, .ref b14, .int p1, .ref b47, .ref b47])
        obtain ⟨_, _, ⟨T53, L53, k53, n53⟩, -, X53, ⟨Lc53, hQ53, l53, y53, z53⟩, st53⟩ := X47.specialBack hx (y := own_y3) rfl ho19 (mvT hZ19 (own_w hw 26 rfl)) (mvT hZ19 (own_w hw 27 rfl)) (mvT hZ19 (own_w hw 28 rfl)) (by decide) (backOf (W := 1) (own_init100 l Z a0 hw [] b47 b14 p1 h47 n0 Z50 A47 F_limit_b47 F_startingAfter_b47 F_endingBefore_b47 F_descending_b47 g_b47) hZ19 (own_w hw 28 rfl) (own_w hw 25 rfl) (by decide) (by decide)) (g := (mkF m 123 #[iv p1, iv p2, iv p3, iv p4, iv p5, rv b1, rv b10, rv b14, iv 1, rv b14, .val (.null), iv 0, .unset, .unset, .unset] [.int 0, .null, .ref b14, .int p1, .ref b47, .ref b47])) rfl (by rw [hml]; rfl) (Steps.refl _) (a := b47) (argsL := [(.int p1), (.ref b14), .null, (.int (0 : Int32))]) (rest := [(.ref b47)]) (lenOf own_pd_4 rfl) rfl (by show 2 * 0 + _ ≤ _; exact Nat.le_of_eq rfl) (hb hby at_123) (fun _ _ => ⟨rfl, e47, (by decide : 6 + 0 ≤ _), (by decide : 14 + 0 ≤ _)⟩)
        dsimp only [Pt.U, Pt.locs, Pt.cells, Pt.slots] at X53 l53 y53 z53 st53 hQ53
        subst l53 y53 z53
        obtain ⟨rfl, Nq53, Kq53, P53_0, P53_1, P53_2⟩ := hQ53
        have N53 := Fr.app N19 Nq53
        have e53 : T53.heap = T53.heap := rfl
        have Z54 := Nat.le_trans Z50 Kq53.1
        have hk55 := Nat.le_trans hk51 Kq53.1
        have K56 : Keep h0 _ [] := K52.trans Kq53 (allS (P := fun x => x ∈ [] ∨ h0.size ≤ x) (Or.inr sz_b47) all0)
        refine own_tr st53 ?_
        show own_E p e below _ T53 (mkF m 126 #[iv p1, iv p2, iv p3, iv p4, iv p5, rv b1, rv b10, rv b14, iv 1, rv b14, .val (.null), iv 0, .unset, .unset, .unset] [.ref b47])
        refine own_st (fun t k => XS.astore X53.here hx rfl (hb hby at_126) rfl rfl (l' := #[iv p1, iv p2, iv p3, iv p4, iv p5, rv b1, rv b10, rv b14, iv 1, rv b14, .val (.null), iv 0, rv b47, .unset, .unset]) rfl k) ?_
        show own_E p e below _ T53 (mkF m 128 #[iv p1, iv p2, iv p3, iv p4, iv p5, rv b1, rv b10, rv b14, iv 1, rv b14, .val (.null), iv 0, rv b47, .unset, .unset] [])
        refine own_st (fun t k => XS.aload X53.here hx rfl (hb hby at_128) rfl rfl k) ?_
        show own_E p e below _ T53 (mkF m 130 #[iv p1, iv p2, iv p3, iv p4, iv p5, rv b1, rv b10, rv b14, iv 1, rv b14, .val (.null), iv 0, rv b47, .unset, .unset] [.ref b47])
        obtain ⟨cq57, kq57, q57a, q57b, q57c⟩ := isOf hZ19 e53 P53_0
        obtain ⟨_, _, ⟨T57, L57, k57, n57⟩, -, X57, ⟨Lc57, hQ57, l57, y57, z57⟩, st57⟩ := X53.virtualBack hx (y := own_y5) (z := own_y5) ho19 (mvT hZ19 (own_w hw 43 rfl)) (mvT hZ19 (own_w hw 44 rfl)) (notFace_of_selects (args := #[]) (mvT hZ19 (own_w hw 46 rfl))) (mvT hZ19 (own_w hw 46 rfl)) (mvT hZ19 (own_w hw 45 rfl)) (by decide) (backOf (W := 0) (own_bk10 l Z a0 hw [] b47 b14 T53.heap n0 Z54 P53_1 P53_2) hZ19 (own_w hw 47 rfl) (own_w hw 25 rfl) (by decide) (by decide)) q57a q57c (g := (mkF m 130 #[iv p1, iv p2, iv p3, iv p4, iv p5, rv b1, rv b10, rv b14, iv 1, rv b14, .val (.null), iv 0, rv b47, .unset, .unset] [.ref b47])) rfl (by rw [hml]; rfl) (Steps.refl _) (argsL := []) (rest := []) (lenOf own_pd_2 rfl) rfl (by show 2 * 0 + _ ≤ _; exact Nat.le_of_eq rfl) (hb hby at_130) (fun _ _ => ⟨rfl, e53, (by decide : 6 + 0 ≤ _), (by decide : 14 + 0 ≤ _)⟩)
        dsimp only [Pt.U, Pt.locs, Pt.cells, Pt.slots] at X57 l57 y57 z57 st57 hQ57
        subst l57 y57 z57
        obtain ⟨hR57, e57, rfl⟩ := hQ57
        have N57 := Fr.app N53 (Fr.nil n0)
        obtain rfl := hR57
        refine own_tr st57 ?_
        show own_E p e below _ T57 (mkF m 133 #[iv p1, iv p2, iv p3, iv p4, iv p5, rv b1, rv b10, rv b14, iv 1, rv b14, .val (.null), iv 0, rv b47, .unset, .unset] [.int 0])
        refine own_st (fun t k => XS.istore X57.here hx rfl (hb hby at_133) rfl (l' := #[iv p1, iv p2, iv p3, iv p4, iv p5, rv b1, rv b10, rv b14, iv 1, rv b14, .val (.null), iv 0, rv b47, iv 0, .unset]) rfl k) ?_
        show own_E p e below _ T57 (mkF m 135 #[iv p1, iv p2, iv p3, iv p4, iv p5, rv b1, rv b10, rv b14, iv 1, rv b14, .val (.null), iv 0, rv b47, iv 0, .unset] [])
        refine own_st (fun t k => XS.iload X57.here hx rfl (hb hby at_135) rfl k) ?_
        show own_E p e below _ T57 (mkF m 137 #[iv p1, iv p2, iv p3, iv p4, iv p5, rv b1, rv b10, rv b14, iv 1, rv b14, .val (.null), iv 0, rv b47, iv 0, .unset] [.int 1])
        refine own_st (fun t k => XS.iconst X57.here hx rfl (hb hby at_137) k) ?_
        show own_E p e below _ T57 (mkF m 138 #[iv p1, iv p2, iv p3, iv p4, iv p5, rv b1, rv b10, rv b14, iv 1, rv b14, .val (.null), iv 0, rv b47, iv 0, .unset] [.int 2, .int 1])
        refine own_st (fun t k => XS.icmpYes X57.here hx rfl (pc0 := 138) (pc' := 145) rfl (hb hby at_138) rfl (by decide) (by decide) (by decide) k) ?_
        show own_E p e below _ T57 (mkF m 145 #[iv p1, iv p2, iv p3, iv p4, iv p5, rv b1, rv b10, rv b14, iv 1, rv b14, .val (.null), iv 0, rv b47, iv 0, .unset] [])
        refine own_st (fun t k => XS.iconst X57.here hx rfl (hb hby at_145) k) ?_
        show own_E p e below _ T57 (mkF m 146 #[iv p1, iv p2, iv p3, iv p4, iv p5, rv b1, rv b10, rv b14, iv 1, rv b14, .val (.null), iv 0, rv b47, iv 0, .unset] [.int 0])
        refine own_st (fun t k => XS.istore X57.here hx rfl (hb hby at_146) rfl (l' := #[iv p1, iv p2, iv p3, iv p4, iv p5, rv b1, rv b10, rv b14, iv 1, rv b14, .val (.null), iv 0, rv b47, iv 0, iv 0]) rfl k) ?_
        show own_E p e below _ T57 (mkF m 148 #[iv p1, iv p2, iv p3, iv p4, iv p5, rv b1, rv b10, rv b14, iv 1, rv b14, .val (.null), iv 0, rv b47, iv 0, iv 0] [])
        refine own_st (fun t k => XS.iload X57.here hx rfl (hb hby at_148) rfl k) ?_
        show own_E p e below _ T57 (mkF m 150 #[iv p1, iv p2, iv p3, iv p4, iv p5, rv b1, rv b10, rv b14, iv 1, rv b14, .val (.null), iv 0, rv b47, iv 0, iv 0] [.int 0])
        refine own_st (fun t k => XS.iload X57.here hx rfl (hb hby at_150) rfl k) ?_
        show own_E p e below _ T57 (mkF m 152 #[iv p1, iv p2, iv p3, iv p4, iv p5, rv b1, rv b10, rv b14, iv 1, rv b14, .val (.null), iv 0, rv b47, iv 0, iv 0] [.int 0, .int 0])
        refine own_st (fun t k => XS.icmpYes X57.here hx rfl (pc0 := 152) (pc' := 157) rfl (hb hby at_152) rfl (by decide) (by decide) (by decide) k) ?_
        show own_E p e below _ T57 (mkF m 157 #[iv p1, iv p2, iv p3, iv p4, iv p5, rv b1, rv b10, rv b14, iv 1, rv b14, .val (.null), iv 0, rv b47, iv 0, iv 0] [])
        refine own_st (fun t k => XS.iload X57.here hx rfl (hb hby at_157) rfl k) ?_
        show own_E p e below _ T57 (mkF m 159 #[iv p1, iv p2, iv p3, iv p4, iv p5, rv b1, rv b10, rv b14, iv 1, rv b14, .val (.null), iv 0, rv b47, iv 0, iv 0] [.int 0])
        refine own_st (fun t k => XS.ifYes X57.here hx rfl (pc0 := 159) (pc' := 178) rfl (hb hby at_159) rfl (by decide) (by decide) (by decide) k) ?_
        show own_E p e below _ T57 (mkF m 178 #[iv p1, iv p2, iv p3, iv p4, iv p5, rv b1, rv b10, rv b14, iv 1, rv b14, .val (.null), iv 0, rv b47, iv 0, iv 0] [])
        refine own_st (fun t k => XS.iconst X57.here hx rfl (hb hby at_178) k) ?_
        show own_E p e below _ T57 (mkF m 179 #[iv p1, iv p2, iv p3, iv p4, iv p5, rv b1, rv b10, rv b14, iv 1, rv b14, .val (.null), iv 0, rv b47, iv 0, iv 0] [.int 1])
        refine own_retSW X57 hS19 (by rw [e57]; exact hk55) hx Bd.notSynchronized Bd.returns rfl (by decide) (hb hby at_179) (by decide) (by decide) ?_
        exact ⟨rfl, N57⟩
      · refine own_st (fun t k => XS.ifNo X19.here hx rfl (hb hby at_102) rfl ((if0 _ _).trans (feq hc46).1) k) ?_
        show own_E p e below _ T19 (mkF m 105 #[iv p1, iv p2, iv p3, iv p4, iv p5, rv b1, rv b10, rv b14, iv 1, rv b14, .val (.null), .unset, .unset, .unset, .unset] [])
        refine own_st (fun t k => XS.iconst X19.here hx rfl (hb hby at_105) k) ?_
        show own_E p e below _ T19 (mkF m 106 #[iv p1, iv p2, iv p3, iv p4, iv p5, rv b1, rv b10, rv b14, iv 1, rv b14, .val (.null), .unset, .unset, .unset, .unset] [.int 1])
        refine own_st (fun t k => XS.goto X19.here hx rfl (pc0 := 106) (pc' := 110) rfl (hb hby at_106) (by decide) (by decide) k) ?_
        show own_E p e below _ T19 (mkF m 110 #[iv p1, iv p2, iv p3, iv p4, iv p5, rv b1, rv b10, rv b14, iv 1, rv b14, .val (.null), .unset, .unset, .unset, .unset] [.int 1])
        refine own_st (fun t k => XS.istore X19.here hx rfl (hb hby at_110) rfl (l' := #[iv p1, iv p2, iv p3, iv p4, iv p5, rv b1, rv b10, rv b14, iv 1, rv b14, .val (.null), iv 1, .unset, .unset, .unset]) rfl k) ?_
        show own_E p e below _ T19 (mkF m 112 #[iv p1, iv p2, iv p3, iv p4, iv p5, rv b1, rv b10, rv b14, iv 1, rv b14, .val (.null), iv 1, .unset, .unset, .unset] [])
        obtain ⟨T58, h58, X58, e58, E58, A58, D58, -, st58⟩ := newO X19 hx hZ19 ho19 (own_w hw 23 rfl) (own_w hw 24 rfl) (own_w hw 25 rfl) e19 (g := (mkF m 112 #[iv p1, iv p2, iv p3, iv p4, iv p5, rv b1, rv b10, rv b14, iv 1, rv b14, .val (.null), iv 1, .unset, .unset, .unset] [])) rfl (hb hby at_112) (by decide) (by decide)
        obtain ⟨b58, g58⟩ : ∃ z, z = T19.heap.size := ⟨_, rfl⟩
        rw [← g58] at A58 D58 st58
        have B59 := ((B15.ext E14).keep Kq19 (ninS ne_b1_b14 nin0))
        have ne_b1_b58 : b1 ≠ b58 := Nat.ne_of_lt (Nat.lt_of_lt_of_le B59.lt (Nat.le_of_eq g58.symm))
        have B60 := (B18.keep Kq19 (ninS ne_b10_b14 nin0))
        have ne_b10_b58 : b10 ≠ b58 := Nat.ne_of_lt (Nat.lt_of_lt_of_le B60.lt (Nat.le_of_eq g58.symm))
        have ne_b14_b58 : b14 ≠ b58 := Nat.ne_of_lt (Nat.lt_of_lt_of_le P19_0.lt (Nat.le_of_eq g58.symm))
        have g_b58 : n0 ≤ b58 := Nat.le_trans Z20 (Nat.le_of_eq g58.symm)
        have sz_b58 : h0.size ≤ b58 := Nat.le_trans K21.1 (Nat.le_of_eq g58.symm)
        have Z61 := Nat.le_trans Z20 E58.1
        have hk62 := Nat.le_trans hk19 E58.1
        have K63 : Keep h0 _ [] := K21.ext E58
        have F_limit_b58 : Fld Z h58 b58 "com/example/acquirer/acquirer/PageRequest" "limit" "I" (.int (0 : Int32)) := D58 (Or.inr (own_w hw 36 rfl)) (ty := .int) (by decide)
        have F_startingAfter_b58 : Fld Z h58 b58 "com/example/acquirer/acquirer/PageRequest" "startingAfter" "Ljava/lang/String;" .null := D58 (Or.inr (own_w hw 38 rfl)) (ty := (.object "java/lang/String")) (by decide)
        have F_endingBefore_b58 : Fld Z h58 b58 "com/example/acquirer/acquirer/PageRequest" "endingBefore" "Ljava/lang/String;" .null := D58 (Or.inr (own_w hw 40 rfl)) (ty := (.object "java/lang/String")) (by decide)
        have F_descending_b58 : Fld Z h58 b58 "com/example/acquirer/acquirer/PageRequest" "descending" "Z" (.int (0 : Int32)) := D58 (Or.inr (own_w hw 42 rfl)) (ty := .boolean) (by decide)
        refine own_st st58 ?_
        show own_E p e below _ T58 (mkF m 115 #[iv p1, iv p2, iv p3, iv p4, iv p5, rv b1, rv b10, rv b14, iv 1, rv b14, .val (.null), iv 1, .unset, .unset, .unset] [.ref b58])
        refine own_st (fun t k => XS.dup X58.here hx rfl (hb hby at_115) rfl rfl k) ?_
        show own_E p e below _ T58 (mkF m 116 #[iv p1, iv p2, iv p3, iv p4, iv p5, rv b1, rv b10, rv b14, iv 1, rv b14, .val (.null), iv 1, .unset, .unset, .unset] [.ref b58, .ref b58])
        refine own_st (fun t k => XS.iloadN X58.here hx rfl (hb hby at_116) rfl k) ?_
        show own_E p e below _ T58 (mkF m 117 #[iv p1, iv p2, iv p3, iv p4, iv p5, rv b1, rv b10, rv b14, iv 1, rv b14, .val (.null), iv 1, .unset, .unset, .unset] [.int p1, .ref b58, .ref b58])
        refine own_st (fun t k => XS.aload X58.here hx rfl (hb hby at_117) rfl rfl k) ?_
        show own_E p e below _ T58 (mkF m 119 #[iv p1, iv p2, iv p3, iv p4, iv p5, rv b1, rv b10, rv b14, iv 1, rv b14, .val (.null), iv 1, .unset, .unset, .unset] [.ref b14, .int p1, .ref b58, .ref b58])
        refine own_st (fun t k => XS.aload X58.here hx rfl (hb hby at_119) rfl rfl k) ?_
        show own_E p e below _ T58 (mkF m 121 #[iv p1, iv p2, iv p3, iv p4, iv p5, rv b1, rv b10, rv b14, iv 1, rv b14, .val (.null), iv 1, .unset, .unset, .unset] [.null, .ref b14, .int p1, .ref b58, .ref b58])
        refine own_st (fun t k => XS.iload X58.here hx rfl (hb hby at_121) rfl k) ?_
        show own_E p e below _ T58 (mkF m 123 #[iv p1, iv p2, iv p3, iv p4, iv p5, rv b1, rv b10, rv b14, iv 1, rv b14, .val (.null), iv 1, .unset, .unset, .unset] [.int 1, .null, .ref b14, .int p1, .ref b58, .ref b58])
        obtain ⟨_, _, ⟨T64, L64, k64, n64⟩, -, X64, ⟨Lc64, hQ64, l64, y64, z64⟩, st64⟩ := X58.specialBack hx (y := own_y3) rfl ho19 (mvT hZ19 (own_w hw 26 rfl)) (mvT hZ19 (own_w hw 27 rfl)) (mvT hZ19 (own_w hw 28 rfl)) (by decide) (backOf (W := 1) (own_init101 l Z a0 hw [] b58 b14 p1 h58 n0 Z61 A58 F_limit_b58 F_startingAfter_b58 F_endingBefore_b58 F_descending_b58 g_b58) hZ19 (own_w hw 28 rfl) (own_w hw 25 rfl) (by decide) (by decide)) (g := (mkF m 123 #[iv p1, iv p2, iv p3, iv p4, iv p5, rv b1, rv b10, rv b14, iv 1, rv b14, .val (.null), iv 1, .unset, .unset, .unset] [.int 1, .null, .ref b14, .int p1, .ref b58, .ref b58])) rfl (by rw [hml]; rfl) (Steps.refl _) (a := b58) (argsL := [(.int p1), (.ref b14), .null, (.int (1 : Int32))]) (rest := [(.ref b58)]) (lenOf own_pd_4 rfl) rfl (by show 2 * 0 + _ ≤ _; exact Nat.le_of_eq rfl) (hb hby at_123) (fun _ _ => ⟨rfl, e58, (by decide : 6 + 0 ≤ _), (by decide : 14 + 0 ≤ _)⟩)
        dsimp only [Pt.U, Pt.locs, Pt.cells, Pt.slots] at X64 l64 y64 z64 st64 hQ64
        subst l64 y64 z64
        obtain ⟨rfl, Nq64, Kq64, P64_0, P64_1, P64_2⟩ := hQ64
        have N64 := Fr.app N19 Nq64
        have e64 : T64.heap = T64.heap := rfl
        have Z65 := Nat.le_trans Z61 Kq64.1
        have hk66 := Nat.le_trans hk62 Kq64.1
        have K67 : Keep h0 _ [] := K63.trans Kq64 (allS (P := fun x => x ∈ [] ∨ h0.size ≤ x) (Or.inr sz_b58) all0)
        refine own_tr st64 ?_
        show own_E p e below _ T64 (mkF m 126 #[iv p1, iv p2, iv p3, iv p4, iv p5, rv b1, rv b10, rv b14, iv 1, rv b14, .val (.null), iv 1, .unset, .unset, .unset] [.ref b58])
        refine own_st (fun t k => XS.astore X64.here hx rfl (hb hby at_126) rfl rfl (l' := #[iv p1, iv p2, iv p3, iv p4, iv p5, rv b1, rv b10, rv b14, iv 1, rv b14, .val (.null), iv 1, rv b58, .unset, .unset]) rfl k) ?_
        show own_E p e below _ T64 (mkF m 128 #[iv p1, iv p2, iv p3, iv p4, iv p5, rv b1, rv b10, rv b14, iv 1, rv b14, .val (.null), iv 1, rv b58, .unset, .unset] [])
        refine own_st (fun t k => XS.aload X64.here hx rfl (hb hby at_128) rfl rfl k) ?_
        show own_E p e below _ T64 (mkF m 130 #[iv p1, iv p2, iv p3, iv p4, iv p5, rv b1, rv b10, rv b14, iv 1, rv b14, .val (.null), iv 1, rv b58, .unset, .unset] [.ref b58])
        obtain ⟨cq68, kq68, q68a, q68b, q68c⟩ := isOf hZ19 e64 P64_0
        obtain ⟨_, _, ⟨T68, L68, k68, n68⟩, -, X68, ⟨Lc68, hQ68, l68, y68, z68⟩, st68⟩ := X64.virtualBack hx (y := own_y5) (z := own_y5) ho19 (mvT hZ19 (own_w hw 43 rfl)) (mvT hZ19 (own_w hw 44 rfl)) (notFace_of_selects (args := #[]) (mvT hZ19 (own_w hw 46 rfl))) (mvT hZ19 (own_w hw 46 rfl)) (mvT hZ19 (own_w hw 45 rfl)) (by decide) (backOf (W := 0) (own_bk10 l Z a0 hw [] b58 b14 T64.heap n0 Z65 P64_1 P64_2) hZ19 (own_w hw 47 rfl) (own_w hw 25 rfl) (by decide) (by decide)) q68a q68c (g := (mkF m 130 #[iv p1, iv p2, iv p3, iv p4, iv p5, rv b1, rv b10, rv b14, iv 1, rv b14, .val (.null), iv 1, rv b58, .unset, .unset] [.ref b58])) rfl (by rw [hml]; rfl) (Steps.refl _) (argsL := []) (rest := []) (lenOf own_pd_2 rfl) rfl (by show 2 * 0 + _ ≤ _; exact Nat.le_of_eq rfl) (hb hby at_130) (fun _ _ => ⟨rfl, e64, (by decide : 6 + 0 ≤ _), (by decide : 14 + 0 ≤ _)⟩)
        dsimp only [Pt.U, Pt.locs, Pt.cells, Pt.slots] at X68 l68 y68 z68 st68 hQ68
        subst l68 y68 z68
        obtain ⟨hR68, e68, rfl⟩ := hQ68
        have N68 := Fr.app N64 (Fr.nil n0)
        obtain rfl := hR68
        refine own_tr st68 ?_
        show own_E p e below _ T68 (mkF m 133 #[iv p1, iv p2, iv p3, iv p4, iv p5, rv b1, rv b10, rv b14, iv 1, rv b14, .val (.null), iv 1, rv b58, .unset, .unset] [.int 0])
        refine own_st (fun t k => XS.istore X68.here hx rfl (hb hby at_133) rfl (l' := #[iv p1, iv p2, iv p3, iv p4, iv p5, rv b1, rv b10, rv b14, iv 1, rv b14, .val (.null), iv 1, rv b58, iv 0, .unset]) rfl k) ?_
        show own_E p e below _ T68 (mkF m 135 #[iv p1, iv p2, iv p3, iv p4, iv p5, rv b1, rv b10, rv b14, iv 1, rv b14, .val (.null), iv 1, rv b58, iv 0, .unset] [])
        refine own_st (fun t k => XS.iload X68.here hx rfl (hb hby at_135) rfl k) ?_
        show own_E p e below _ T68 (mkF m 137 #[iv p1, iv p2, iv p3, iv p4, iv p5, rv b1, rv b10, rv b14, iv 1, rv b14, .val (.null), iv 1, rv b58, iv 0, .unset] [.int 1])
        refine own_st (fun t k => XS.iconst X68.here hx rfl (hb hby at_137) k) ?_
        show own_E p e below _ T68 (mkF m 138 #[iv p1, iv p2, iv p3, iv p4, iv p5, rv b1, rv b10, rv b14, iv 1, rv b14, .val (.null), iv 1, rv b58, iv 0, .unset] [.int 2, .int 1])
        refine own_st (fun t k => XS.icmpYes X68.here hx rfl (pc0 := 138) (pc' := 145) rfl (hb hby at_138) rfl (by decide) (by decide) (by decide) k) ?_
        show own_E p e below _ T68 (mkF m 145 #[iv p1, iv p2, iv p3, iv p4, iv p5, rv b1, rv b10, rv b14, iv 1, rv b14, .val (.null), iv 1, rv b58, iv 0, .unset] [])
        refine own_st (fun t k => XS.iconst X68.here hx rfl (hb hby at_145) k) ?_
        show own_E p e below _ T68 (mkF m 146 #[iv p1, iv p2, iv p3, iv p4, iv p5, rv b1, rv b10, rv b14, iv 1, rv b14, .val (.null), iv 1, rv b58, iv 0, .unset] [.int 0])
        refine own_st (fun t k => XS.istore X68.here hx rfl (hb hby at_146) rfl (l' := #[iv p1, iv p2, iv p3, iv p4, iv p5, rv b1, rv b10, rv b14, iv 1, rv b14, .val (.null), iv 1, rv b58, iv 0, iv 0]) rfl k) ?_
        show own_E p e below _ T68 (mkF m 148 #[iv p1, iv p2, iv p3, iv p4, iv p5, rv b1, rv b10, rv b14, iv 1, rv b14, .val (.null), iv 1, rv b58, iv 0, iv 0] [])
        refine own_st (fun t k => XS.iload X68.here hx rfl (hb hby at_148) rfl k) ?_
        show own_E p e below _ T68 (mkF m 150 #[iv p1, iv p2, iv p3, iv p4, iv p5, rv b1, rv b10, rv b14, iv 1, rv b14, .val (.null), iv 1, rv b58, iv 0, iv 0] [.int 0])
        refine own_st (fun t k => XS.iload X68.here hx rfl (hb hby at_150) rfl k) ?_
        show own_E p e below _ T68 (mkF m 152 #[iv p1, iv p2, iv p3, iv p4, iv p5, rv b1, rv b10, rv b14, iv 1, rv b14, .val (.null), iv 1, rv b58, iv 0, iv 0] [.int 0, .int 0])
        refine own_st (fun t k => XS.icmpYes X68.here hx rfl (pc0 := 152) (pc' := 157) rfl (hb hby at_152) rfl (by decide) (by decide) (by decide) k) ?_
        show own_E p e below _ T68 (mkF m 157 #[iv p1, iv p2, iv p3, iv p4, iv p5, rv b1, rv b10, rv b14, iv 1, rv b14, .val (.null), iv 1, rv b58, iv 0, iv 0] [])
        refine own_st (fun t k => XS.iload X68.here hx rfl (hb hby at_157) rfl k) ?_
        show own_E p e below _ T68 (mkF m 159 #[iv p1, iv p2, iv p3, iv p4, iv p5, rv b1, rv b10, rv b14, iv 1, rv b14, .val (.null), iv 1, rv b58, iv 0, iv 0] [.int 0])
        refine own_st (fun t k => XS.ifYes X68.here hx rfl (pc0 := 159) (pc' := 178) rfl (hb hby at_159) rfl (by decide) (by decide) (by decide) k) ?_
        show own_E p e below _ T68 (mkF m 178 #[iv p1, iv p2, iv p3, iv p4, iv p5, rv b1, rv b10, rv b14, iv 1, rv b14, .val (.null), iv 1, rv b58, iv 0, iv 0] [])
        refine own_st (fun t k => XS.iconst X68.here hx rfl (hb hby at_178) k) ?_
        show own_E p e below _ T68 (mkF m 179 #[iv p1, iv p2, iv p3, iv p4, iv p5, rv b1, rv b10, rv b14, iv 1, rv b14, .val (.null), iv 1, rv b58, iv 0, iv 0] [.int 1])
        refine own_retSW X68 hS19 (by rw [e68]; exact hk66) hx Bd.notSynchronized Bd.returns rfl (by decide) (hb hby at_179) (by decide) (by decide) ?_
        exact ⟨rfl, N68⟩
    · rw [hs22]
      show own_E p e below _ T19 (mkF m 70 #[iv p1, iv p2, iv p3, iv p4, iv p5, rv b1, rv b10, rv b14, iv 2, .unset, .unset, .unset, .unset, .unset, .unset] [])
      refine own_st (fun t k => XS.iload X19.here hx rfl (hb hby at_70) rfl k) ?_
      show own_E p e below _ T19 (mkF m 72 #[iv p1, iv p2, iv p3, iv p4, iv p5, rv b1, rv b10, rv b14, iv 2, .unset, .unset, .unset, .unset, .unset, .unset] [.int 2])
      refine own_st (fun t k => XS.iconst X19.here hx rfl (hb hby at_72) k) ?_
      show own_E p e below _ T19 (mkF m 73 #[iv p1, iv p2, iv p3, iv p4, iv p5, rv b1, rv b10, rv b14, iv 2, .unset, .unset, .unset, .unset, .unset, .unset] [.int 1, .int 2])
      refine own_st (fun t k => XS.icmpYes X19.here hx rfl (pc0 := 73) (pc' := 81) rfl (hb hby at_73) rfl (by decide) (by decide) (by decide) k) ?_
      show own_E p e below _ T19 (mkF m 81 #[iv p1, iv p2, iv p3, iv p4, iv p5, rv b1, rv b10, rv b14, iv 2, .unset, .unset, .unset, .unset, .unset, .unset] [])
      refine own_st (fun t k => XS.aconstNull X19.here hx rfl (hb hby at_81) k) ?_
      show own_E p e below _ T19 (mkF m 82 #[iv p1, iv p2, iv p3, iv p4, iv p5, rv b1, rv b10, rv b14, iv 2, .unset, .unset, .unset, .unset, .unset, .unset] [.null])
      refine own_st (fun t k => XS.astore X19.here hx rfl (hb hby at_82) rfl rfl (l' := #[iv p1, iv p2, iv p3, iv p4, iv p5, rv b1, rv b10, rv b14, iv 2, .val (.null), .unset, .unset, .unset, .unset, .unset]) rfl k) ?_
      show own_E p e below _ T19 (mkF m 84 #[iv p1, iv p2, iv p3, iv p4, iv p5, rv b1, rv b10, rv b14, iv 2, .val (.null), .unset, .unset, .unset, .unset, .unset] [])
      refine own_st (fun t k => XS.iload X19.here hx rfl (hb hby at_84) rfl k) ?_
      show own_E p e below _ T19 (mkF m 86 #[iv p1, iv p2, iv p3, iv p4, iv p5, rv b1, rv b10, rv b14, iv 2, .val (.null), .unset, .unset, .unset, .unset, .unset] [.int 2])
      refine own_st (fun t k => XS.iconst X19.here hx rfl (hb hby at_86) k) ?_
      show own_E p e below _ T19 (mkF m 87 #[iv p1, iv p2, iv p3, iv p4, iv p5, rv b1, rv b10, rv b14, iv 2, .val (.null), .unset, .unset, .unset, .unset, .unset] [.int 2, .int 2])
      refine own_st (fun t k => XS.icmpNo X19.here hx rfl (hb hby at_87) rfl (by decide) k) ?_
      show own_E p e below _ T19 (mkF m 90 #[iv p1, iv p2, iv p3, iv p4, iv p5, rv b1, rv b10, rv b14, iv 2, .val (.null), .unset, .unset, .unset, .unset, .unset] [])
      refine own_st (fun t k => XS.aload X19.here hx rfl (hb hby at_90) rfl rfl k) ?_
      show own_E p e below _ T19 (mkF m 92 #[iv p1, iv p2, iv p3, iv p4, iv p5, rv b1, rv b10, rv b14, iv 2, .val (.null), .unset, .unset, .unset, .unset, .unset] [.ref b14])
      refine own_st (fun t k => XS.goto X19.here hx rfl (pc0 := 92) (pc' := 96) rfl (hb hby at_92) (by decide) (by decide) k) ?_
      show own_E p e below _ T19 (mkF m 96 #[iv p1, iv p2, iv p3, iv p4, iv p5, rv b1, rv b10, rv b14, iv 2, .val (.null), .unset, .unset, .unset, .unset, .unset] [.ref b14])
      refine own_st (fun t k => XS.astore X19.here hx rfl (hb hby at_96) rfl rfl (l' := #[iv p1, iv p2, iv p3, iv p4, iv p5, rv b1, rv b10, rv b14, iv 2, .val (.null), rv b14, .unset, .unset, .unset, .unset]) rfl k) ?_
      show own_E p e below _ T19 (mkF m 98 #[iv p1, iv p2, iv p3, iv p4, iv p5, rv b1, rv b10, rv b14, iv 2, .val (.null), rv b14, .unset, .unset, .unset, .unset] [])
      refine own_st (fun t k => XS.iload X19.here hx rfl (hb hby at_98) rfl k) ?_
      show own_E p e below _ T19 (mkF m 100 #[iv p1, iv p2, iv p3, iv p4, iv p5, rv b1, rv b10, rv b14, iv 2, .val (.null), rv b14, .unset, .unset, .unset, .unset] [.int p5])
      refine own_st (fun t k => XS.iconst X19.here hx rfl (hb hby at_100) k) ?_
      show own_E p e below _ T19 (mkF m 101 #[iv p1, iv p2, iv p3, iv p4, iv p5, rv b1, rv b10, rv b14, iv 2, .val (.null), rv b14, .unset, .unset, .unset, .unset] [.int 1, .int p5])
      refine own_st (fun t k => XS.iand X19.here hx rfl (hb hby at_101) rfl k) ?_
      show own_E p e below _ T19 (mkF m 102 #[iv p1, iv p2, iv p3, iv p4, iv p5, rv b1, rv b10, rv b14, iv 2, .val (.null), rv b14, .unset, .unset, .unset, .unset] [.int (p5 &&& (1 : Int32))])
      by_cases hc69 : (p5 &&& (1 : Int32)) = (0 : Int32)
      · refine own_st (fun t k => XS.ifYes X19.here hx rfl (pc0 := 102) (pc' := 109) rfl (hb hby at_102) rfl ((if0 _ _).trans (teq hc69).1) (by decide) (by decide) k) ?_
        show own_E p e below _ T19 (mkF m 109 #[iv p1, iv p2, iv p3, iv p4, iv p5, rv b1, rv b10, rv b14, iv 2, .val (.null), rv b14, .unset, .unset, .unset, .unset] [])
        refine own_st (fun t k => XS.iconst X19.here hx rfl (hb hby at_109) k) ?_
        show own_E p e below _ T19 (mkF m 110 #[iv p1, iv p2, iv p3, iv p4, iv p5, rv b1, rv b10, rv b14, iv 2, .val (.null), rv b14, .unset, .unset, .unset, .unset] [.int 0])
        refine own_st (fun t k => XS.istore X19.here hx rfl (hb hby at_110) rfl (l' := #[iv p1, iv p2, iv p3, iv p4, iv p5, rv b1, rv b10, rv b14, iv 2, .val (.null), rv b14, iv 0, .unset, .unset, .unset]) rfl k) ?_
        show own_E p e below _ T19 (mkF m 112 #[iv p1, iv p2, iv p3, iv p4, iv p5, rv b1, rv b10, rv b14, iv 2, .val (.null), rv b14, iv 0, .unset, .unset, .unset] [])
        obtain ⟨T70, h70, X70, e70, E70, A70, D70, -, st70⟩ := newO X19 hx hZ19 ho19 (own_w hw 23 rfl) (own_w hw 24 rfl) (own_w hw 25 rfl) e19 (g := (mkF m 112 #[iv p1, iv p2, iv p3, iv p4, iv p5, rv b1, rv b10, rv b14, iv 2, .val (.null), rv b14, iv 0, .unset, .unset, .unset] [])) rfl (hb hby at_112) (by decide) (by decide)
        obtain ⟨b70, g70⟩ : ∃ z, z = T19.heap.size := ⟨_, rfl⟩
        rw [← g70] at A70 D70 st70
        have B71 := ((B15.ext E14).keep Kq19 (ninS ne_b1_b14 nin0))
        have ne_b1_b70 : b1 ≠ b70 := Nat.ne_of_lt (Nat.lt_of_lt_of_le B71.lt (Nat.le_of_eq g70.symm))
        have B72 := (B18.keep Kq19 (ninS ne_b10_b14 nin0))
        have ne_b10_b70 : b10 ≠ b70 := Nat.ne_of_lt (Nat.lt_of_lt_of_le B72.lt (Nat.le_of_eq g70.symm))
        have ne_b14_b70 : b14 ≠ b70 := Nat.ne_of_lt (Nat.lt_of_lt_of_le P19_0.lt (Nat.le_of_eq g70.symm))
        have g_b70 : n0 ≤ b70 := Nat.le_trans Z20 (Nat.le_of_eq g70.symm)
        have sz_b70 : h0.size ≤ b70 := Nat.le_trans K21.1 (Nat.le_of_eq g70.symm)
        have Z73 := Nat.le_trans Z20 E70.1
        have hk74 := Nat.le_trans hk19 E70.1
        have K75 : Keep h0 _ [] := K21.ext E70
        have F_limit_b70 : Fld Z h70 b70 "com/example/acquirer/acquirer/PageRequest" "limit" "I" (.int (0 : Int32)) := D70 (Or.inr (own_w hw 36 rfl)) (ty := .int) (by decide)
        have F_startingAfter_b70 : Fld Z h70 b70 "com/example/acquirer/acquirer/PageRequest" "startingAfter" "Ljava/lang/String;" .null := D70 (Or.inr (own_w hw 38 rfl)) (ty := (.object "java/lang/String")) (by decide)
        have F_endingBefore_b70 : Fld Z h70 b70 "com/example/acquirer/acquirer/PageRequest" "endingBefore" "Ljava/lang/String;" .null := D70 (Or.inr (own_w hw 40 rfl)) (ty := (.object "java/lang/String")) (by decide)
        have F_descending_b70 : Fld Z h70 b70 "com/example/acquirer/acquirer/PageRequest" "descending" "Z" (.int (0 : Int32)) := D70 (Or.inr (own_w hw 42 rfl)) (ty := .boolean) (by decide)
        refine own_st st70 ?_
        show own_E p e below _ T70 (mkF m 115 #[iv p1, iv p2, iv p3, iv p4, iv p5, rv b1, rv b10, rv b14, iv 2, .val (.null), rv b14, iv 0, .unset, .unset, .unset] [.ref b70])
        refine own_st (fun t k => XS.dup X70.here hx rfl (hb hby at_115) rfl rfl k) ?_
        show own_E p e below _ T70 (mkF m 116 #[iv p1, iv p2, iv p3, iv p4, iv p5, rv b1, rv b10, rv b14, iv 2, .val (.null), rv b14, iv 0, .unset, .unset, .unset] [.ref b70, .ref b70])
        refine own_st (fun t k => XS.iloadN X70.here hx rfl (hb hby at_116) rfl k) ?_
        show own_E p e below _ T70 (mkF m 117 #[iv p1, iv p2, iv p3, iv p4, iv p5, rv b1, rv b10, rv b14, iv 2, .val (.null), rv b14, iv 0, .unset, .unset, .unset] [.int p1, .ref b70, .ref b70])
        refine own_st (fun t k => XS.aload X70.here hx rfl (hb hby at_117) rfl rfl k) ?_
        show own_E p e below _ T70 (mkF m 119 #[iv p1, iv p2, iv p3, iv p4, iv p5, rv b1, rv b10, rv b14, iv 2, .val (.null), rv b14, iv 0, .unset, .unset, .unset] [.null, .int p1, .ref b70, .ref b70])
        refine own_st (fun t k => XS.aload X70.here hx rfl (hb hby at_119) rfl rfl k) ?_
        show own_E p e below _ T70 (mkF m 121 #[iv p1, iv p2, iv p3, iv p4, iv p5, rv b1, rv b10, rv b14, iv 2, .val (.null), rv b14, iv 0, .unset, .unset, .unset] [.ref b14, .null, .int p1, .ref b70, .ref b70])
        refine own_st (fun t k => XS.iload X70.here hx rfl (hb hby at_121) rfl k) ?_
        show own_E p e below _ T70 (mkF m 123 #[iv p1, iv p2, iv p3, iv p4, iv p5, rv b1, rv b10, rv b14, iv 2, .val (.null), rv b14, iv 0, .unset, .unset, .unset] [.int 0, .ref b14, .null, .int p1, .ref b70, .ref b70])
        obtain ⟨_, _, ⟨T76, L76, k76, n76⟩, -, X76, ⟨Lc76, hQ76, l76, y76, z76⟩, st76⟩ := X70.specialBack hx (y := own_y3) rfl ho19 (mvT hZ19 (own_w hw 26 rfl)) (mvT hZ19 (own_w hw 27 rfl)) (mvT hZ19 (own_w hw 28 rfl)) (by decide) (backOf (W := 1) (own_init010 l Z a0 hw [] b70 b14 p1 h70 n0 Z73 A70 F_limit_b70 F_startingAfter_b70 F_endingBefore_b70 F_descending_b70 g_b70) hZ19 (own_w hw 28 rfl) (own_w hw 25 rfl) (by decide) (by decide)) (g := (mkF m 123 #[iv p1, iv p2, iv p3, iv p4, iv p5, rv b1, rv b10, rv b14, iv 2, .val (.null), rv b14, iv 0, .unset, .unset, .unset] [.int 0, .ref b14, .null, .int p1, .ref b70, .ref b70])) rfl (by rw [hml]; rfl) (Steps.refl _) (a := b70) (argsL := [(.int p1), .null, (.ref b14), (.int (0 : Int32))]) (rest := [(.ref b70)]) (lenOf own_pd_4 rfl) rfl (by show 2 * 0 + _ ≤ _; exact Nat.le_of_eq rfl) (hb hby at_123) (fun _ _ => ⟨rfl, e70, (by decide : 6 + 0 ≤ _), (by decide : 14 + 0 ≤ _)⟩)
        dsimp only [Pt.U, Pt.locs, Pt.cells, Pt.slots] at X76 l76 y76 z76 st76 hQ76
        subst l76 y76 z76
        obtain ⟨rfl, Nq76, Kq76, P76_0, P76_1, P76_2⟩ := hQ76
        have N76 := Fr.app N19 Nq76
        have e76 : T76.heap = T76.heap := rfl
        have Z77 := Nat.le_trans Z73 Kq76.1
        have hk78 := Nat.le_trans hk74 Kq76.1
        have K79 : Keep h0 _ [] := K75.trans Kq76 (allS (P := fun x => x ∈ [] ∨ h0.size ≤ x) (Or.inr sz_b70) all0)
        refine own_tr st76 ?_
        show own_E p e below _ T76 (mkF m 126 #[iv p1, iv p2, iv p3, iv p4, iv p5, rv b1, rv b10, rv b14, iv 2, .val (.null), rv b14, iv 0, .unset, .unset, .unset] [.ref b70])
        refine own_st (fun t k => XS.astore X76.here hx rfl (hb hby at_126) rfl rfl (l' := #[iv p1, iv p2, iv p3, iv p4, iv p5, rv b1, rv b10, rv b14, iv 2, .val (.null), rv b14, iv 0, rv b70, .unset, .unset]) rfl k) ?_
        show own_E p e below _ T76 (mkF m 128 #[iv p1, iv p2, iv p3, iv p4, iv p5, rv b1, rv b10, rv b14, iv 2, .val (.null), rv b14, iv 0, rv b70, .unset, .unset] [])
        refine own_st (fun t k => XS.aload X76.here hx rfl (hb hby at_128) rfl rfl k) ?_
        show own_E p e below _ T76 (mkF m 130 #[iv p1, iv p2, iv p3, iv p4, iv p5, rv b1, rv b10, rv b14, iv 2, .val (.null), rv b14, iv 0, rv b70, .unset, .unset] [.ref b70])
        obtain ⟨cq80, kq80, q80a, q80b, q80c⟩ := isOf hZ19 e76 P76_0
        obtain ⟨_, _, ⟨T80, L80, k80, n80⟩, -, X80, ⟨Lc80, hQ80, l80, y80, z80⟩, st80⟩ := X76.virtualBack hx (y := own_y5) (z := own_y5) ho19 (mvT hZ19 (own_w hw 43 rfl)) (mvT hZ19 (own_w hw 44 rfl)) (notFace_of_selects (args := #[]) (mvT hZ19 (own_w hw 46 rfl))) (mvT hZ19 (own_w hw 46 rfl)) (mvT hZ19 (own_w hw 45 rfl)) (by decide) (backOf (W := 0) (own_bk01 l Z a0 hw [] b70 b14 T76.heap n0 Z77 P76_1 P76_2) hZ19 (own_w hw 47 rfl) (own_w hw 25 rfl) (by decide) (by decide)) q80a q80c (g := (mkF m 130 #[iv p1, iv p2, iv p3, iv p4, iv p5, rv b1, rv b10, rv b14, iv 2, .val (.null), rv b14, iv 0, rv b70, .unset, .unset] [.ref b70])) rfl (by rw [hml]; rfl) (Steps.refl _) (argsL := []) (rest := []) (lenOf own_pd_2 rfl) rfl (by show 2 * 0 + _ ≤ _; exact Nat.le_of_eq rfl) (hb hby at_130) (fun _ _ => ⟨rfl, e76, (by decide : 6 + 0 ≤ _), (by decide : 14 + 0 ≤ _)⟩)
        dsimp only [Pt.U, Pt.locs, Pt.cells, Pt.slots] at X80 l80 y80 z80 st80 hQ80
        subst l80 y80 z80
        obtain ⟨hR80, e80, rfl⟩ := hQ80
        have N80 := Fr.app N76 (Fr.nil n0)
        obtain rfl := hR80
        refine own_tr st80 ?_
        show own_E p e below _ T80 (mkF m 133 #[iv p1, iv p2, iv p3, iv p4, iv p5, rv b1, rv b10, rv b14, iv 2, .val (.null), rv b14, iv 0, rv b70, .unset, .unset] [.int 1])
        refine own_st (fun t k => XS.istore X80.here hx rfl (hb hby at_133) rfl (l' := #[iv p1, iv p2, iv p3, iv p4, iv p5, rv b1, rv b10, rv b14, iv 2, .val (.null), rv b14, iv 0, rv b70, iv 1, .unset]) rfl k) ?_
        show own_E p e below _ T80 (mkF m 135 #[iv p1, iv p2, iv p3, iv p4, iv p5, rv b1, rv b10, rv b14, iv 2, .val (.null), rv b14, iv 0, rv b70, iv 1, .unset] [])
        refine own_st (fun t k => XS.iload X80.here hx rfl (hb hby at_135) rfl k) ?_
        show own_E p e below _ T80 (mkF m 137 #[iv p1, iv p2, iv p3, iv p4, iv p5, rv b1, rv b10, rv b14, iv 2, .val (.null), rv b14, iv 0, rv b70, iv 1, .unset] [.int 2])
        refine own_st (fun t k => XS.iconst X80.here hx rfl (hb hby at_137) k) ?_
        show own_E p e below _ T80 (mkF m 138 #[iv p1, iv p2, iv p3, iv p4, iv p5, rv b1, rv b10, rv b14, iv 2, .val (.null), rv b14, iv 0, rv b70, iv 1, .unset] [.int 2, .int 2])
        refine own_st (fun t k => XS.icmpNo X80.here hx rfl (hb hby at_138) rfl (by decide) k) ?_
        show own_E p e below _ T80 (mkF m 141 #[iv p1, iv p2, iv p3, iv p4, iv p5, rv b1, rv b10, rv b14, iv 2, .val (.null), rv b14, iv 0, rv b70, iv 1, .unset] [])
        refine own_st (fun t k => XS.iconst X80.here hx rfl (hb hby at_141) k) ?_
        show own_E p e below _ T80 (mkF m 142 #[iv p1, iv p2, iv p3, iv p4, iv p5, rv b1, rv b10, rv b14, iv 2, .val (.null), rv b14, iv 0, rv b70, iv 1, .unset] [.int 1])
        refine own_st (fun t k => XS.goto X80.here hx rfl (pc0 := 142) (pc' := 146) rfl (hb hby at_142) (by decide) (by decide) k) ?_
        show own_E p e below _ T80 (mkF m 146 #[iv p1, iv p2, iv p3, iv p4, iv p5, rv b1, rv b10, rv b14, iv 2, .val (.null), rv b14, iv 0, rv b70, iv 1, .unset] [.int 1])
        refine own_st (fun t k => XS.istore X80.here hx rfl (hb hby at_146) rfl (l' := #[iv p1, iv p2, iv p3, iv p4, iv p5, rv b1, rv b10, rv b14, iv 2, .val (.null), rv b14, iv 0, rv b70, iv 1, iv 1]) rfl k) ?_
        show own_E p e below _ T80 (mkF m 148 #[iv p1, iv p2, iv p3, iv p4, iv p5, rv b1, rv b10, rv b14, iv 2, .val (.null), rv b14, iv 0, rv b70, iv 1, iv 1] [])
        refine own_st (fun t k => XS.iload X80.here hx rfl (hb hby at_148) rfl k) ?_
        show own_E p e below _ T80 (mkF m 150 #[iv p1, iv p2, iv p3, iv p4, iv p5, rv b1, rv b10, rv b14, iv 2, .val (.null), rv b14, iv 0, rv b70, iv 1, iv 1] [.int 1])
        refine own_st (fun t k => XS.iload X80.here hx rfl (hb hby at_150) rfl k) ?_
        show own_E p e below _ T80 (mkF m 152 #[iv p1, iv p2, iv p3, iv p4, iv p5, rv b1, rv b10, rv b14, iv 2, .val (.null), rv b14, iv 0, rv b70, iv 1, iv 1] [.int 1, .int 1])
        refine own_st (fun t k => XS.icmpYes X80.here hx rfl (pc0 := 152) (pc' := 157) rfl (hb hby at_152) rfl (by decide) (by decide) (by decide) k) ?_
        show own_E p e below _ T80 (mkF m 157 #[iv p1, iv p2, iv p3, iv p4, iv p5, rv b1, rv b10, rv b14, iv 2, .val (.null), rv b14, iv 0, rv b70, iv 1, iv 1] [])
        refine own_st (fun t k => XS.iload X80.here hx rfl (hb hby at_157) rfl k) ?_
        show own_E p e below _ T80 (mkF m 159 #[iv p1, iv p2, iv p3, iv p4, iv p5, rv b1, rv b10, rv b14, iv 2, .val (.null), rv b14, iv 0, rv b70, iv 1, iv 1] [.int 1])
        refine own_st (fun t k => XS.ifNo X80.here hx rfl (hb hby at_159) rfl (by decide) k) ?_
        show own_E p e below _ T80 (mkF m 162 #[iv p1, iv p2, iv p3, iv p4, iv p5, rv b1, rv b10, rv b14, iv 2, .val (.null), rv b14, iv 0, rv b70, iv 1, iv 1] [])
        refine own_st (fun t k => XS.aload X80.here hx rfl (hb hby at_162) rfl rfl k) ?_
        show own_E p e below _ T80 (mkF m 164 #[iv p1, iv p2, iv p3, iv p4, iv p5, rv b1, rv b10, rv b14, iv 2, .val (.null), rv b14, iv 0, rv b70, iv 1, iv 1] [.ref b70])
        obtain ⟨cq81, kq81, q81a, q81b, q81c⟩ := isOf hZ19 e80 P76_0
        obtain ⟨_, _, ⟨T81, L81, k81, n81⟩, -, X81, ⟨Lc81, hQ81, l81, y81, z81⟩, st81⟩ := X80.virtualBack hx (y := own_y4) (z := own_y4) ho19 (mvT hZ19 (own_w hw 59 rfl)) (mvT hZ19 (own_w hw 60 rfl)) (notFace_of_selects (args := #[]) (mvT hZ19 (own_w hw 62 rfl))) (mvT hZ19 (own_w hw 62 rfl)) (mvT hZ19 (own_w hw 61 rfl)) (by decide) (backOf (W := 0) (own_cur01 l Z a0 hw [] b70 b14 T76.heap n0 Z77 P76_1 P76_2) hZ19 (own_w hw 63 rfl) (own_w hw 25 rfl) (by decide) (by decide)) q81a q81c (g := (mkF m 164 #[iv p1, iv p2, iv p3, iv p4, iv p5, rv b1, rv b10, rv b14, iv 2, .val (.null), rv b14, iv 0, rv b70, iv 1, iv 1] [.ref b70])) rfl (by rw [hml]; rfl) (Steps.refl _) (argsL := []) (rest := []) (lenOf own_pd_0 rfl) rfl (by show 2 * 0 + _ ≤ _; exact Nat.le_of_eq rfl) (hb hby at_164) (fun _ _ => ⟨rfl, e80, (by decide : 6 + 0 ≤ _), (by decide : 14 + 0 ≤ _)⟩)
        dsimp only [Pt.U, Pt.locs, Pt.cells, Pt.slots] at X81 l81 y81 z81 st81 hQ81
        subst l81 y81 z81
        obtain ⟨hR81, e81, rfl⟩ := hQ81
        have N81 := Fr.app N80 (Fr.nil n0)
        obtain rfl := hR81
        refine own_tr st81 ?_
        show own_E p e below _ T81 (mkF m 167 #[iv p1, iv p2, iv p3, iv p4, iv p5, rv b1, rv b10, rv b14, iv 2, .val (.null), rv b14, iv 0, rv b70, iv 1, iv 1] [.ref b14])
        refine own_st (fun t k => XS.aload X81.here hx rfl (hb hby at_167) rfl rfl k) ?_
        show own_E p e below _ T81 (mkF m 169 #[iv p1, iv p2, iv p3, iv p4, iv p5, rv b1, rv b10, rv b14, iv 2, .val (.null), rv b14, iv 0, rv b70, iv 1, iv 1] [.ref b14, .ref b14])
        refine own_st (fun t k => Jvm.RoadKit.acmp (g := (mkF m 169 #[iv p1, iv p2, iv p3, iv p4, iv p5, rv b1, rv b10, rv b14, iv 2, .val (.null), rv b14, iv 0, rv b70, iv 1, iv 1] [.ref b14, .ref b14])) X81 hx rfl rfl rfl (pc0 := 169) (pc' := 172) (same := true) rfl (hb hby at_169) rfl (decide_eq_true rfl) (by decide) (by decide) k) ?_
        show own_E p e below _ T81 (mkF m 172 #[iv p1, iv p2, iv p3, iv p4, iv p5, rv b1, rv b10, rv b14, iv 2, .val (.null), rv b14, iv 0, rv b70, iv 1, iv 1] [])
        refine own_st (fun t k => XS.iconst X81.here hx rfl (hb hby at_172) k) ?_
        show own_E p e below _ T81 (mkF m 173 #[iv p1, iv p2, iv p3, iv p4, iv p5, rv b1, rv b10, rv b14, iv 2, .val (.null), rv b14, iv 0, rv b70, iv 1, iv 1] [.int 1])
        refine own_st (fun t k => XS.goto X81.here hx rfl (pc0 := 173) (pc' := 177) rfl (hb hby at_173) (by decide) (by decide) k) ?_
        show own_E p e below _ T81 (mkF m 177 #[iv p1, iv p2, iv p3, iv p4, iv p5, rv b1, rv b10, rv b14, iv 2, .val (.null), rv b14, iv 0, rv b70, iv 1, iv 1] [.int 1])
        refine own_retSW X81 hS19 (by rw [e81]; exact hk78) hx Bd.notSynchronized Bd.returns rfl (by decide) (hb hby at_177) (by decide) (by decide) ?_
        exact ⟨rfl, N81⟩
      · refine own_st (fun t k => XS.ifNo X19.here hx rfl (hb hby at_102) rfl ((if0 _ _).trans (feq hc69).1) k) ?_
        show own_E p e below _ T19 (mkF m 105 #[iv p1, iv p2, iv p3, iv p4, iv p5, rv b1, rv b10, rv b14, iv 2, .val (.null), rv b14, .unset, .unset, .unset, .unset] [])
        refine own_st (fun t k => XS.iconst X19.here hx rfl (hb hby at_105) k) ?_
        show own_E p e below _ T19 (mkF m 106 #[iv p1, iv p2, iv p3, iv p4, iv p5, rv b1, rv b10, rv b14, iv 2, .val (.null), rv b14, .unset, .unset, .unset, .unset] [.int 1])
        refine own_st (fun t k => XS.goto X19.here hx rfl (pc0 := 106) (pc' := 110) rfl (hb hby at_106) (by decide) (by decide) k) ?_
        show own_E p e below _ T19 (mkF m 110 #[iv p1, iv p2, iv p3, iv p4, iv p5, rv b1, rv b10, rv b14, iv 2, .val (.null), rv b14, .unset, .unset, .unset, .unset] [.int 1])
        refine own_st (fun t k => XS.istore X19.here hx rfl (hb hby at_110) rfl (l' := #[iv p1, iv p2, iv p3, iv p4, iv p5, rv b1, rv b10, rv b14, iv 2, .val (.null), rv b14, iv 1, .unset, .unset, .unset]) rfl k) ?_
        show own_E p e below _ T19 (mkF m 112 #[iv p1, iv p2, iv p3, iv p4, iv p5, rv b1, rv b10, rv b14, iv 2, .val (.null), rv b14, iv 1, .unset, .unset, .unset] [])
        obtain ⟨T82, h82, X82, e82, E82, A82, D82, -, st82⟩ := newO X19 hx hZ19 ho19 (own_w hw 23 rfl) (own_w hw 24 rfl) (own_w hw 25 rfl) e19 (g := (mkF m 112 #[iv p1, iv p2, iv p3, iv p4, iv p5, rv b1, rv b10, rv b14, iv 2, .val (.null), rv b14, iv 1, .unset, .unset, .unset] [])) rfl (hb hby at_112) (by decide) (by decide)
        obtain ⟨b82, g82⟩ : ∃ z, z = T19.heap.size := ⟨_, rfl⟩
        rw [← g82] at A82 D82 st82
        have B83 := ((B15.ext E14).keep Kq19 (ninS ne_b1_b14 nin0))
        have ne_b1_b82 : b1 ≠ b82 := Nat.ne_of_lt (Nat.lt_of_lt_of_le B83.lt (Nat.le_of_eq g82.symm))
        have B84 := (B18.keep Kq19 (ninS ne_b10_b14 nin0))
        have ne_b10_b82 : b10 ≠ b82 := Nat.ne_of_lt (Nat.lt_of_lt_of_le B84.lt (Nat.le_of_eq g82.symm))
        have ne_b14_b82 : b14 ≠ b82 := Nat.ne_of_lt (Nat.lt_of_lt_of_le P19_0.lt (Nat.le_of_eq g82.symm))
        have g_b82 : n0 ≤ b82 := Nat.le_trans Z20 (Nat.le_of_eq g82.symm)
        have sz_b82 : h0.size ≤ b82 := Nat.le_trans K21.1 (Nat.le_of_eq g82.symm)
        have Z85 := Nat.le_trans Z20 E82.1
        have hk86 := Nat.le_trans hk19 E82.1
        have K87 : Keep h0 _ [] := K21.ext E82
        have F_limit_b82 : Fld Z h82 b82 "com/example/acquirer/acquirer/PageRequest" "limit" "I" (.int (0 : Int32)) := D82 (Or.inr (own_w hw 36 rfl)) (ty := .int) (by decide)
        have F_startingAfter_b82 : Fld Z h82 b82 "com/example/acquirer/acquirer/PageRequest" "startingAfter" "Ljava/lang/String;" .null := D82 (Or.inr (own_w hw 38 rfl)) (ty := (.object "java/lang/String")) (by decide)
        have F_endingBefore_b82 : Fld Z h82 b82 "com/example/acquirer/acquirer/PageRequest" "endingBefore" "Ljava/lang/String;" .null := D82 (Or.inr (own_w hw 40 rfl)) (ty := (.object "java/lang/String")) (by decide)
        have F_descending_b82 : Fld Z h82 b82 "com/example/acquirer/acquirer/PageRequest" "descending" "Z" (.int (0 : Int32)) := D82 (Or.inr (own_w hw 42 rfl)) (ty := .boolean) (by decide)
        refine own_st st82 ?_
        show own_E p e below _ T82 (mkF m 115 #[iv p1, iv p2, iv p3, iv p4, iv p5, rv b1, rv b10, rv b14, iv 2, .val (.null), rv b14, iv 1, .unset, .unset, .unset] [.ref b82])
        refine own_st (fun t k => XS.dup X82.here hx rfl (hb hby at_115) rfl rfl k) ?_
        show own_E p e below _ T82 (mkF m 116 #[iv p1, iv p2, iv p3, iv p4, iv p5, rv b1, rv b10, rv b14, iv 2, .val (.null), rv b14, iv 1, .unset, .unset, .unset] [.ref b82, .ref b82])
        refine own_st (fun t k => XS.iloadN X82.here hx rfl (hb hby at_116) rfl k) ?_
        show own_E p e below _ T82 (mkF m 117 #[iv p1, iv p2, iv p3, iv p4, iv p5, rv b1, rv b10, rv b14, iv 2, .val (.null), rv b14, iv 1, .unset, .unset, .unset] [.int p1, .ref b82, .ref b82])
        refine own_st (fun t k => XS.aload X82.here hx rfl (hb hby at_117) rfl rfl k) ?_
        show own_E p e below _ T82 (mkF m 119 #[iv p1, iv p2, iv p3, iv p4, iv p5, rv b1, rv b10, rv b14, iv 2, .val (.null), rv b14, iv 1, .unset, .unset, .unset] [.null, .int p1, .ref b82, .ref b82])
        refine own_st (fun t k => XS.aload X82.here hx rfl (hb hby at_119) rfl rfl k) ?_
        show own_E p e below _ T82 (mkF m 121 #[iv p1, iv p2, iv p3, iv p4, iv p5, rv b1, rv b10, rv b14, iv 2, .val (.null), rv b14, iv 1, .unset, .unset, .unset] [.ref b14, .null, .int p1, .ref b82, .ref b82])
        refine own_st (fun t k => XS.iload X82.here hx rfl (hb hby at_121) rfl k) ?_
        show own_E p e below _ T82 (mkF m 123 #[iv p1, iv p2, iv p3, iv p4, iv p5, rv b1, rv b10, rv b14, iv 2, .val (.null), rv b14, iv 1, .unset, .unset, .unset] [.int 1, .ref b14, .null, .int p1, .ref b82, .ref b82])
        obtain ⟨_, _, ⟨T88, L88, k88, n88⟩, -, X88, ⟨Lc88, hQ88, l88, y88, z88⟩, st88⟩ := X82.specialBack hx (y := own_y3) rfl ho19 (mvT hZ19 (own_w hw 26 rfl)) (mvT hZ19 (own_w hw 27 rfl)) (mvT hZ19 (own_w hw 28 rfl)) (by decide) (backOf (W := 1) (own_init011 l Z a0 hw [] b82 b14 p1 h82 n0 Z85 A82 F_limit_b82 F_startingAfter_b82 F_endingBefore_b82 F_descending_b82 g_b82) hZ19 (own_w hw 28 rfl) (own_w hw 25 rfl) (by decide) (by decide)) (g := (mkF m 123 #[iv p1, iv p2, iv p3, iv p4, iv p5, rv b1, rv b10, rv b14, iv 2, .val (.null), rv b14, iv 1, .unset, .unset, .unset] [.int 1, .ref b14, .null, .int p1, .ref b82, .ref b82])) rfl (by rw [hml]; rfl) (Steps.refl _) (a := b82) (argsL := [(.int p1), .null, (.ref b14), (.int (1 : Int32))]) (rest := [(.ref b82)]) (lenOf own_pd_4 rfl) rfl (by show 2 * 0 + _ ≤ _; exact Nat.le_of_eq rfl) (hb hby at_123) (fun _ _ => ⟨rfl, e82, (by decide : 6 + 0 ≤ _), (by decide : 14 + 0 ≤ _)⟩)
        dsimp only [Pt.U, Pt.locs, Pt.cells, Pt.slots] at X88 l88 y88 z88 st88 hQ88
        subst l88 y88 z88
        obtain ⟨rfl, Nq88, Kq88, P88_0, P88_1, P88_2⟩ := hQ88
        have N88 := Fr.app N19 Nq88
        have e88 : T88.heap = T88.heap := rfl
        have Z89 := Nat.le_trans Z85 Kq88.1
        have hk90 := Nat.le_trans hk86 Kq88.1
        have K91 : Keep h0 _ [] := K87.trans Kq88 (allS (P := fun x => x ∈ [] ∨ h0.size ≤ x) (Or.inr sz_b82) all0)
        refine own_tr st88 ?_
        show own_E p e below _ T88 (mkF m 126 #[iv p1, iv p2, iv p3, iv p4, iv p5, rv b1, rv b10, rv b14, iv 2, .val (.null), rv b14, iv 1, .unset, .unset, .unset] [.ref b82])
        refine own_st (fun t k => XS.astore X88.here hx rfl (hb hby at_126) rfl rfl (l' := #[iv p1, iv p2, iv p3, iv p4, iv p5, rv b1, rv b10, rv b14, iv 2, .val (.null), rv b14, iv 1, rv b82, .unset, .unset]) rfl k) ?_
        show own_E p e below _ T88 (mkF m 128 #[iv p1, iv p2, iv p3, iv p4, iv p5, rv b1, rv b10, rv b14, iv 2, .val (.null), rv b14, iv 1, rv b82, .unset, .unset] [])
        refine own_st (fun t k => XS.aload X88.here hx rfl (hb hby at_128) rfl rfl k) ?_
        show own_E p e below _ T88 (mkF m 130 #[iv p1, iv p2, iv p3, iv p4, iv p5, rv b1, rv b10, rv b14, iv 2, .val (.null), rv b14, iv 1, rv b82, .unset, .unset] [.ref b82])
        obtain ⟨cq92, kq92, q92a, q92b, q92c⟩ := isOf hZ19 e88 P88_0
        obtain ⟨_, _, ⟨T92, L92, k92, n92⟩, -, X92, ⟨Lc92, hQ92, l92, y92, z92⟩, st92⟩ := X88.virtualBack hx (y := own_y5) (z := own_y5) ho19 (mvT hZ19 (own_w hw 43 rfl)) (mvT hZ19 (own_w hw 44 rfl)) (notFace_of_selects (args := #[]) (mvT hZ19 (own_w hw 46 rfl))) (mvT hZ19 (own_w hw 46 rfl)) (mvT hZ19 (own_w hw 45 rfl)) (by decide) (backOf (W := 0) (own_bk01 l Z a0 hw [] b82 b14 T88.heap n0 Z89 P88_1 P88_2) hZ19 (own_w hw 47 rfl) (own_w hw 25 rfl) (by decide) (by decide)) q92a q92c (g := (mkF m 130 #[iv p1, iv p2, iv p3, iv p4, iv p5, rv b1, rv b10, rv b14, iv 2, .val (.null), rv b14, iv 1, rv b82, .unset, .unset] [.ref b82])) rfl (by rw [hml]; rfl) (Steps.refl _) (argsL := []) (rest := []) (lenOf own_pd_2 rfl) rfl (by show 2 * 0 + _ ≤ _; exact Nat.le_of_eq rfl) (hb hby at_130) (fun _ _ => ⟨rfl, e88, (by decide : 6 + 0 ≤ _), (by decide : 14 + 0 ≤ _)⟩)
        dsimp only [Pt.U, Pt.locs, Pt.cells, Pt.slots] at X92 l92 y92 z92 st92 hQ92
        subst l92 y92 z92
        obtain ⟨hR92, e92, rfl⟩ := hQ92
        have N92 := Fr.app N88 (Fr.nil n0)
        obtain rfl := hR92
        refine own_tr st92 ?_
        show own_E p e below _ T92 (mkF m 133 #[iv p1, iv p2, iv p3, iv p4, iv p5, rv b1, rv b10, rv b14, iv 2, .val (.null), rv b14, iv 1, rv b82, .unset, .unset] [.int 1])
        refine own_st (fun t k => XS.istore X92.here hx rfl (hb hby at_133) rfl (l' := #[iv p1, iv p2, iv p3, iv p4, iv p5, rv b1, rv b10, rv b14, iv 2, .val (.null), rv b14, iv 1, rv b82, iv 1, .unset]) rfl k) ?_
        show own_E p e below _ T92 (mkF m 135 #[iv p1, iv p2, iv p3, iv p4, iv p5, rv b1, rv b10, rv b14, iv 2, .val (.null), rv b14, iv 1, rv b82, iv 1, .unset] [])
        refine own_st (fun t k => XS.iload X92.here hx rfl (hb hby at_135) rfl k) ?_
        show own_E p e below _ T92 (mkF m 137 #[iv p1, iv p2, iv p3, iv p4, iv p5, rv b1, rv b10, rv b14, iv 2, .val (.null), rv b14, iv 1, rv b82, iv 1, .unset] [.int 2])
        refine own_st (fun t k => XS.iconst X92.here hx rfl (hb hby at_137) k) ?_
        show own_E p e below _ T92 (mkF m 138 #[iv p1, iv p2, iv p3, iv p4, iv p5, rv b1, rv b10, rv b14, iv 2, .val (.null), rv b14, iv 1, rv b82, iv 1, .unset] [.int 2, .int 2])
        refine own_st (fun t k => XS.icmpNo X92.here hx rfl (hb hby at_138) rfl (by decide) k) ?_
        show own_E p e below _ T92 (mkF m 141 #[iv p1, iv p2, iv p3, iv p4, iv p5, rv b1, rv b10, rv b14, iv 2, .val (.null), rv b14, iv 1, rv b82, iv 1, .unset] [])
        refine own_st (fun t k => XS.iconst X92.here hx rfl (hb hby at_141) k) ?_
        show own_E p e below _ T92 (mkF m 142 #[iv p1, iv p2, iv p3, iv p4, iv p5, rv b1, rv b10, rv b14, iv 2, .val (.null), rv b14, iv 1, rv b82, iv 1, .unset] [.int 1])
        refine own_st (fun t k => XS.goto X92.here hx rfl (pc0 := 142) (pc' := 146) rfl (hb hby at_142) (by decide) (by decide) k) ?_
        show own_E p e below _ T92 (mkF m 146 #[iv p1, iv p2, iv p3, iv p4, iv p5, rv b1, rv b10, rv b14, iv 2, .val (.null), rv b14, iv 1, rv b82, iv 1, .unset] [.int 1])
        refine own_st (fun t k => XS.istore X92.here hx rfl (hb hby at_146) rfl (l' := #[iv p1, iv p2, iv p3, iv p4, iv p5, rv b1, rv b10, rv b14, iv 2, .val (.null), rv b14, iv 1, rv b82, iv 1, iv 1]) rfl k) ?_
        show own_E p e below _ T92 (mkF m 148 #[iv p1, iv p2, iv p3, iv p4, iv p5, rv b1, rv b10, rv b14, iv 2, .val (.null), rv b14, iv 1, rv b82, iv 1, iv 1] [])
        refine own_st (fun t k => XS.iload X92.here hx rfl (hb hby at_148) rfl k) ?_
        show own_E p e below _ T92 (mkF m 150 #[iv p1, iv p2, iv p3, iv p4, iv p5, rv b1, rv b10, rv b14, iv 2, .val (.null), rv b14, iv 1, rv b82, iv 1, iv 1] [.int 1])
        refine own_st (fun t k => XS.iload X92.here hx rfl (hb hby at_150) rfl k) ?_
        show own_E p e below _ T92 (mkF m 152 #[iv p1, iv p2, iv p3, iv p4, iv p5, rv b1, rv b10, rv b14, iv 2, .val (.null), rv b14, iv 1, rv b82, iv 1, iv 1] [.int 1, .int 1])
        refine own_st (fun t k => XS.icmpYes X92.here hx rfl (pc0 := 152) (pc' := 157) rfl (hb hby at_152) rfl (by decide) (by decide) (by decide) k) ?_
        show own_E p e below _ T92 (mkF m 157 #[iv p1, iv p2, iv p3, iv p4, iv p5, rv b1, rv b10, rv b14, iv 2, .val (.null), rv b14, iv 1, rv b82, iv 1, iv 1] [])
        refine own_st (fun t k => XS.iload X92.here hx rfl (hb hby at_157) rfl k) ?_
        show own_E p e below _ T92 (mkF m 159 #[iv p1, iv p2, iv p3, iv p4, iv p5, rv b1, rv b10, rv b14, iv 2, .val (.null), rv b14, iv 1, rv b82, iv 1, iv 1] [.int 1])
        refine own_st (fun t k => XS.ifNo X92.here hx rfl (hb hby at_159) rfl (by decide) k) ?_
        show own_E p e below _ T92 (mkF m 162 #[iv p1, iv p2, iv p3, iv p4, iv p5, rv b1, rv b10, rv b14, iv 2, .val (.null), rv b14, iv 1, rv b82, iv 1, iv 1] [])
        refine own_st (fun t k => XS.aload X92.here hx rfl (hb hby at_162) rfl rfl k) ?_
        show own_E p e below _ T92 (mkF m 164 #[iv p1, iv p2, iv p3, iv p4, iv p5, rv b1, rv b10, rv b14, iv 2, .val (.null), rv b14, iv 1, rv b82, iv 1, iv 1] [.ref b82])
        obtain ⟨cq93, kq93, q93a, q93b, q93c⟩ := isOf hZ19 e92 P88_0
        obtain ⟨_, _, ⟨T93, L93, k93, n93⟩, -, X93, ⟨Lc93, hQ93, l93, y93, z93⟩, st93⟩ := X92.virtualBack hx (y := own_y4) (z := own_y4) ho19 (mvT hZ19 (own_w hw 59 rfl)) (mvT hZ19 (own_w hw 60 rfl)) (notFace_of_selects (args := #[]) (mvT hZ19 (own_w hw 62 rfl))) (mvT hZ19 (own_w hw 62 rfl)) (mvT hZ19 (own_w hw 61 rfl)) (by decide) (backOf (W := 0) (own_cur01 l Z a0 hw [] b82 b14 T88.heap n0 Z89 P88_1 P88_2) hZ19 (own_w hw 63 rfl) (own_w hw 25 rfl) (by decide) (by decide)) q93a q93c (g := (mkF m 164 #[iv p1, iv p2, iv p3, iv p4, iv p5, rv b1, rv b10, rv b14, iv 2, .val (.null), rv b14, iv 1, rv b82, iv 1, iv 1] [.ref b82])) rfl (by rw [hml]; rfl) (Steps.refl _) (argsL := []) (rest := []) (lenOf own_pd_0 rfl) rfl (by show 2 * 0 + _ ≤ _; exact Nat.le_of_eq rfl) (hb hby at_164) (fun _ _ => ⟨rfl, e92, (by decide : 6 + 0 ≤ _), (by decide : 14 + 0 ≤ _)⟩)
        dsimp only [Pt.U, Pt.locs, Pt.cells, Pt.slots] at X93 l93 y93 z93 st93 hQ93
        subst l93 y93 z93
        obtain ⟨hR93, e93, rfl⟩ := hQ93
        have N93 := Fr.app N92 (Fr.nil n0)
        obtain rfl := hR93
        refine own_tr st93 ?_
        show own_E p e below _ T93 (mkF m 167 #[iv p1, iv p2, iv p3, iv p4, iv p5, rv b1, rv b10, rv b14, iv 2, .val (.null), rv b14, iv 1, rv b82, iv 1, iv 1] [.ref b14])
        refine own_st (fun t k => XS.aload X93.here hx rfl (hb hby at_167) rfl rfl k) ?_
        show own_E p e below _ T93 (mkF m 169 #[iv p1, iv p2, iv p3, iv p4, iv p5, rv b1, rv b10, rv b14, iv 2, .val (.null), rv b14, iv 1, rv b82, iv 1, iv 1] [.ref b14, .ref b14])
        refine own_st (fun t k => Jvm.RoadKit.acmp (g := (mkF m 169 #[iv p1, iv p2, iv p3, iv p4, iv p5, rv b1, rv b10, rv b14, iv 2, .val (.null), rv b14, iv 1, rv b82, iv 1, iv 1] [.ref b14, .ref b14])) X93 hx rfl rfl rfl (pc0 := 169) (pc' := 172) (same := true) rfl (hb hby at_169) rfl (decide_eq_true rfl) (by decide) (by decide) k) ?_
        show own_E p e below _ T93 (mkF m 172 #[iv p1, iv p2, iv p3, iv p4, iv p5, rv b1, rv b10, rv b14, iv 2, .val (.null), rv b14, iv 1, rv b82, iv 1, iv 1] [])
        refine own_st (fun t k => XS.iconst X93.here hx rfl (hb hby at_172) k) ?_
        show own_E p e below _ T93 (mkF m 173 #[iv p1, iv p2, iv p3, iv p4, iv p5, rv b1, rv b10, rv b14, iv 2, .val (.null), rv b14, iv 1, rv b82, iv 1, iv 1] [.int 1])
        refine own_st (fun t k => XS.goto X93.here hx rfl (pc0 := 173) (pc' := 177) rfl (hb hby at_173) (by decide) (by decide) k) ?_
        show own_E p e below _ T93 (mkF m 177 #[iv p1, iv p2, iv p3, iv p4, iv p5, rv b1, rv b10, rv b14, iv 2, .val (.null), rv b14, iv 1, rv b82, iv 1, iv 1] [.int 1])
        refine own_retSW X93 hS19 (by rw [e93]; exact hk90) hx Bd.notSynchronized Bd.returns rfl (by decide) (hb hby at_177) (by decide) (by decide) ?_
        exact ⟨rfl, N93⟩
  · refine own_st (fun t k => XS.ifNo X10.here hx rfl (hb hby at_36) rfl ((if0 _ _).trans (feq hc13).1) k) ?_
    show own_E p e below _ T10 (mkF m 39 #[iv p1, iv p2, iv p3, iv p4, iv p5, rv b1, rv b10, .unset, .unset, .unset, .unset, .unset, .unset, .unset, .unset] [])
    obtain ⟨T94, h94, X94, e94, E94, A94, D94, -, st94⟩ := newO X10 hx hZ hown (own_w hw 1 rfl) (own_w hw 2 rfl) (own_w hw 3 rfl) e10 (g := (mkF m 39 #[iv p1, iv p2, iv p3, iv p4, iv p5, rv b1, rv b10, .unset, .unset, .unset, .unset, .unset, .unset, .unset, .unset] [])) rfl (hb hby at_39) (by decide) (by decide)
    obtain ⟨b94, g94⟩ : ∃ z, z = h10.size := ⟨_, rfl⟩
    rw [← g94] at A94 D94 st94
    have B95 := (V7.ext E10)
    have ne_b1_b94 : b1 ≠ b94 := Nat.ne_of_lt (Nat.lt_of_lt_of_le B95.lt (Nat.le_of_eq g94.symm))
    have ne_b10_b94 : b10 ≠ b94 := Nat.ne_of_lt (Nat.lt_of_lt_of_le V10.lt (Nat.le_of_eq g94.symm))
    have g_b94 : n0 ≤ b94 := Nat.le_trans Z11 (Nat.le_of_eq g94.symm)
    have sz_b94 : h0.size ≤ b94 := Nat.le_trans K12.1 (Nat.le_of_eq g94.symm)
    have Z96 := Nat.le_trans Z11 E94.1
    have K97 : Keep h0 _ [] := K12.ext E94
    have F_value_b94 : Fld Z h94 b94 "java/lang/String" "value" "[B" .null := D94 (Or.inr (own_w hw 16 rfl)) (ty := (.array .byte)) (by decide)
    have F_coder_b94 : Fld Z h94 b94 "java/lang/String" "coder" "B" (.int (0 : Int32)) := D94 (Or.inr (own_w hw 17 rfl)) (ty := .byte) (by decide)
    refine own_st st94 ?_
    show own_E p e below _ T94 (mkF m 42 #[iv p1, iv p2, iv p3, iv p4, iv p5, rv b1, rv b10, .unset, .unset, .unset, .unset, .unset, .unset, .unset, .unset] [.ref b94])
    refine own_st (fun t k => XS.dup X94.here hx rfl (hb hby at_42) rfl rfl k) ?_
    show own_E p e below _ T94 (mkF m 43 #[iv p1, iv p2, iv p3, iv p4, iv p5, rv b1, rv b10, .unset, .unset, .unset, .unset, .unset, .unset, .unset, .unset] [.ref b94, .ref b94])
    refine own_st (fun t k => XS.aload X94.here hx rfl (hb hby at_43) rfl rfl k) ?_
    show own_E p e below _ T94 (mkF m 45 #[iv p1, iv p2, iv p3, iv p4, iv p5, rv b1, rv b10, .unset, .unset, .unset, .unset, .unset, .unset, .unset, .unset] [.ref b1, .ref b94, .ref b94])
    have B98 := (B95.ext E94)
    have hlat99 : ∀ c ∈ [(((p3 &&& (255 : Int32)).toUInt32.toUInt16.toUInt32.toInt32).toUInt32.toUInt16.toUInt32.toInt32), (((p4 &&& (255 : Int32)).toUInt32.toUInt16.toUInt32.toInt32).toUInt32.toUInt16.toUInt32.toInt32)], ¬ c < 0 ∧ ¬ (255 : Int32) < c := by
      intro c hc
      simp only [List.mem_cons, List.not_mem_nil, or_false] at hc
      rcases hc with rfl | rfl
      · rw [Int32.lt_iff_toInt_lt, Int32.lt_iff_toInt_lt]
        have f100 := rng32 p3
        have f101 : (255 : Int32).toInt = 255 := rfl
        have f102 := rng32 (p3 &&& (255 : Int32))
        have f103 : (p3 &&& (255 : Int32)).toInt = p3.toInt % 256 := c_mask p3 (255 : Int32) 8 (by decide) (by decide)
        have f104 := rng32 ((p3 &&& (255 : Int32)).toUInt32.toUInt16.toUInt32.toInt32)
        have f105 := c_i2c (p3 &&& (255 : Int32))
        have f106 := rng32 (((p3 &&& (255 : Int32)).toUInt32.toUInt16.toUInt32.toInt32).toUInt32.toUInt16.toUInt32.toInt32)
        have f107 := c_i2c ((p3 &&& (255 : Int32)).toUInt32.toUInt16.toUInt32.toInt32)
        have f108 : (0 : Int32).toInt = 0 := rfl
        have f109 : (255 : Int32).toInt = 255 := rfl
        omega
      · rw [Int32.lt_iff_toInt_lt, Int32.lt_iff_toInt_lt]
        have f110 := rng32 p4
        have f111 : (255 : Int32).toInt = 255 := rfl
        have f112 := rng32 (p4 &&& (255 : Int32))
        have f113 : (p4 &&& (255 : Int32)).toInt = p4.toInt % 256 := c_mask p4 (255 : Int32) 8 (by decide) (by decide)
        have f114 := rng32 ((p4 &&& (255 : Int32)).toUInt32.toUInt16.toUInt32.toInt32)
        have f115 := c_i2c (p4 &&& (255 : Int32))
        have f116 := rng32 (((p4 &&& (255 : Int32)).toUInt32.toUInt16.toUInt32.toInt32).toUInt32.toUInt16.toUInt32.toInt32)
        have f117 := c_i2c ((p4 &&& (255 : Int32)).toUInt32.toUInt16.toUInt32.toInt32)
        have f118 : (0 : Int32).toInt = 0 := rfl
        have f119 : (255 : Int32).toInt = 255 := rfl
        omega
    obtain ⟨_, _, ⟨T120, L120, k120, n120⟩, -, X120, ⟨Lc120, hQ120, l120, y120, z120⟩, st120⟩ := X94.specialBack hx (y := own_y1) rfl hown (mvT hZ (own_w hw 4 rfl)) (mvT hZ (own_w hw 5 rfl)) (mvT hZ (own_w hw 6 rfl)) (by decide) (StrChars.Road.backV (W := 1) hZ (own_words hw) (kI := 4) (own_w hw 2 rfl) (cs := [(((p3 &&& (255 : Int32)).toUInt32.toUInt16.toUInt32.toInt32).toUInt32.toUInt16.toUInt32.toInt32), (((p4 &&& (255 : Int32)).toUInt32.toUInt16.toUInt32.toInt32).toUInt32.toUInt16.toUInt32.toInt32)]) (bs := [(((p3 &&& (255 : Int32)).toUInt32.toUInt16.toUInt32.toInt32).toUInt32.toUInt16.toUInt32.toInt32), (((p4 &&& (255 : Int32)).toUInt32.toUInt16.toUInt32.toInt32).toUInt32.toUInt16.toUInt32.toInt32)].map (fun c => c.toInt8.toInt32)) (n := 2) g_b94 Z96 A94 F_value_b94 F_coder_b94 B98 (own_StaK SC K97) hzc rfl rfl (by decide) (by decide) hlat99 rfl (by decide) (by decide)) (g := (mkF m 45 #[iv p1, iv p2, iv p3, iv p4, iv p5, rv b1, rv b10, .unset, .unset, .unset, .unset, .unset, .unset, .unset, .unset] [.ref b1, .ref b94, .ref b94])) rfl (by rw [hml]; rfl) (Steps.refl _) (a := b94) (argsL := [(.ref b1)]) (rest := [(.ref b94)]) (lenOf own_pd_6 rfl) rfl (by show 2 * 0 + _ ≤ _; exact Nat.le_of_eq rfl) (hb hby at_45) (fun _ _ => ⟨rfl, e94, (by decide : 3 + 1 ≤ _), (by decide : 6 + 2 ≤ _)⟩)
    dsimp only [Pt.U, Pt.locs, Pt.cells, Pt.slots] at X120 l120 y120 z120 st120 hQ120
    subst l120 y120 z120
    obtain ⟨rfl, Nq120, Kq120, Ex120, -⟩ := hQ120
    have N120 := Fr.app N7 Nq120
    have e120 : T120.heap = T120.heap := rfl
    have Z121 := Nat.le_trans Z96 Kq120.1
    have K122 : Keep h0 _ [] := K97.trans Kq120 (allS (P := fun x => x ∈ [] ∨ h0.size ≤ x) (Or.inr sz_b94) all0)
    refine own_tr st120 ?_
    show own_E p e below _ T120 (mkF m 48 #[iv p1, iv p2, iv p3, iv p4, iv p5, rv b1, rv b10, .unset, .unset, .unset, .unset, .unset, .unset, .unset, .unset] [.ref b94])
    refine own_st (fun t k => XS.goto X120.here hx rfl (pc0 := 48) (pc' := 60) rfl (hb hby at_48) (by decide) (by decide) k) ?_
    show own_E p e below _ T120 (mkF m 60 #[iv p1, iv p2, iv p3, iv p4, iv p5, rv b1, rv b10, .unset, .unset, .unset, .unset, .unset, .unset, .unset, .unset] [.ref b94])
    refine own_st (fun t k => XS.astore X120.here hx rfl (hb hby at_60) rfl rfl (l' := #[iv p1, iv p2, iv p3, iv p4, iv p5, rv b1, rv b10, rv b94, .unset, .unset, .unset, .unset, .unset, .unset, .unset]) rfl k) ?_
    show own_E p e below _ T120 (mkF m 62 #[iv p1, iv p2, iv p3, iv p4, iv p5, rv b1, rv b10, rv b94, .unset, .unset, .unset, .unset, .unset, .unset, .unset] [])
    refine own_st (fun t k => XS.iloadN X120.here hx rfl (hb hby at_62) rfl k) ?_
    show own_E p e below _ T120 (mkF m 63 #[iv p1, iv p2, iv p3, iv p4, iv p5, rv b1, rv b10, rv b94, .unset, .unset, .unset, .unset, .unset, .unset, .unset] [.int p2])
    refine own_st (X120.ldcInt hx hown (mvT hZ (own_w hw 22 rfl)) (g := (mkF m 63 #[iv p1, iv p2, iv p3, iv p4, iv p5, rv b1, rv b10, rv b94, .unset, .unset, .unset, .unset, .unset, .unset, .unset] [.int p2])) rfl (hb hby at_63)) ?_
    show own_E p e below _ T120 (mkF m 65 #[iv p1, iv p2, iv p3, iv p4, iv p5, rv b1, rv b10, rv b94, .unset, .unset, .unset, .unset, .unset, .unset, .unset] [.int 2147483647, .int p2])
    refine own_st (fun t k => XS.iand X120.here hx rfl (hb hby at_65) rfl k) ?_
    show own_E p e below _ T120 (mkF m 66 #[iv p1, iv p2, iv p3, iv p4, iv p5, rv b1, rv b10, rv b94, .unset, .unset, .unset, .unset, .unset, .unset, .unset] [.int (p2 &&& (2147483647 : Int32))])
    refine own_st (fun t k => XS.iconst X120.here hx rfl (hb hby at_66) k) ?_
    show own_E p e below _ T120 (mkF m 67 #[iv p1, iv p2, iv p3, iv p4, iv p5, rv b1, rv b10, rv b94, .unset, .unset, .unset, .unset, .unset, .unset, .unset] [.int 3, .int (p2 &&& (2147483647 : Int32))])
    refine own_st (fun t k => iremM X120 hx rfl (hb hby at_67) rfl (by decide) k) ?_
    show own_E p e below _ T120 (mkF m 68 #[iv p1, iv p2, iv p3, iv p4, iv p5, rv b1, rv b10, rv b94, .unset, .unset, .unset, .unset, .unset, .unset, .unset] [.int ((p2 &&& (2147483647 : Int32)) % (3 : Int32))])
    refine own_st (fun t k => XS.istore X120.here hx rfl (hb hby at_68) rfl (l' := #[iv p1, iv p2, iv p3, iv p4, iv p5, rv b1, rv b10, rv b94, iv ((p2 &&& (2147483647 : Int32)) % (3 : Int32)), .unset, .unset, .unset, .unset, .unset, .unset]) rfl k) ?_
    show own_E p e below _ T120 (mkF m 70 #[iv p1, iv p2, iv p3, iv p4, iv p5, rv b1, rv b10, rv b94, iv ((p2 &&& (2147483647 : Int32)) % (3 : Int32)), .unset, .unset, .unset, .unset, .unset, .unset] [])
    rcases own_mod3 p2 with hs123 | hs123 | hs123
    · rw [hs123]
      show own_E p e below _ T120 (mkF m 70 #[iv p1, iv p2, iv p3, iv p4, iv p5, rv b1, rv b10, rv b94, iv 0, .unset, .unset, .unset, .unset, .unset, .unset] [])
      refine own_st (fun t k => XS.iload X120.here hx rfl (hb hby at_70) rfl k) ?_
      show own_E p e below _ T120 (mkF m 72 #[iv p1, iv p2, iv p3, iv p4, iv p5, rv b1, rv b10, rv b94, iv 0, .unset, .unset, .unset, .unset, .unset, .unset] [.int 0])
      refine own_st (fun t k => XS.iconst X120.here hx rfl (hb hby at_72) k) ?_
      show own_E p e below _ T120 (mkF m 73 #[iv p1, iv p2, iv p3, iv p4, iv p5, rv b1, rv b10, rv b94, iv 0, .unset, .unset, .unset, .unset, .unset, .unset] [.int 1, .int 0])
      refine own_st (fun t k => XS.icmpYes X120.here hx rfl (pc0 := 73) (pc' := 81) rfl (hb hby at_73) rfl (by decide) (by decide) (by decide) k) ?_
      show own_E p e below _ T120 (mkF m 81 #[iv p1, iv p2, iv p3, iv p4, iv p5, rv b1, rv b10, rv b94, iv 0, .unset, .unset, .unset, .unset, .unset, .unset] [])
      refine own_st (fun t k => XS.aconstNull X120.here hx rfl (hb hby at_81) k) ?_
      show own_E p e below _ T120 (mkF m 82 #[iv p1, iv p2, iv p3, iv p4, iv p5, rv b1, rv b10, rv b94, iv 0, .unset, .unset, .unset, .unset, .unset, .unset] [.null])
      refine own_st (fun t k => XS.astore X120.here hx rfl (hb hby at_82) rfl rfl (l' := #[iv p1, iv p2, iv p3, iv p4, iv p5, rv b1, rv b10, rv b94, iv 0, .val (.null), .unset, .unset, .unset, .unset, .unset]) rfl k) ?_
      show own_E p e below _ T120 (mkF m 84 #[iv p1, iv p2, iv p3, iv p4, iv p5, rv b1, rv b10, rv b94, iv 0, .val (.null), .unset, .unset, .unset, .unset, .unset] [])
      refine own_st (fun t k => XS.iload X120.here hx rfl (hb hby at_84) rfl k) ?_
      show own_E p e below _ T120 (mkF m 86 #[iv p1, iv p2, iv p3, iv p4, iv p5, rv b1, rv b10, rv b94, iv 0, .val (.null), .unset, .unset, .unset, .unset, .unset] [.int 0])
      refine own_st (fun t k => XS.iconst X120.here hx rfl (hb hby at_86) k) ?_
      show own_E p e below _ T120 (mkF m 87 #[iv p1, iv p2, iv p3, iv p4, iv p5, rv b1, rv b10, rv b94, iv 0, .val (.null), .unset, .unset, .unset, .unset, .unset] [.int 2, .int 0])
      refine own_st (fun t k => XS.icmpYes X120.here hx rfl (pc0 := 87) (pc' := 95) rfl (hb hby at_87) rfl (by decide) (by decide) (by decide) k) ?_
      show own_E p e below _ T120 (mkF m 95 #[iv p1, iv p2, iv p3, iv p4, iv p5, rv b1, rv b10, rv b94, iv 0, .val (.null), .unset, .unset, .unset, .unset, .unset] [])
      refine own_st (fun t k => XS.aconstNull X120.here hx rfl (hb hby at_95) k) ?_
      show own_E p e below _ T120 (mkF m 96 #[iv p1, iv p2, iv p3, iv p4, iv p5, rv b1, rv b10, rv b94, iv 0, .val (.null), .unset, .unset, .unset, .unset, .unset] [.null])
      refine own_st (fun t k => XS.astore X120.here hx rfl (hb hby at_96) rfl rfl (l' := #[iv p1, iv p2, iv p3, iv p4, iv p5, rv b1, rv b10, rv b94, iv 0, .val (.null), .val (.null), .unset, .unset, .unset, .unset]) rfl k) ?_
      show own_E p e below _ T120 (mkF m 98 #[iv p1, iv p2, iv p3, iv p4, iv p5, rv b1, rv b10, rv b94, iv 0, .val (.null), .val (.null), .unset, .unset, .unset, .unset] [])
      refine own_st (fun t k => XS.iload X120.here hx rfl (hb hby at_98) rfl k) ?_
      show own_E p e below _ T120 (mkF m 100 #[iv p1, iv p2, iv p3, iv p4, iv p5, rv b1, rv b10, rv b94, iv 0, .val (.null), .val (.null), .unset, .unset, .unset, .unset] [.int p5])
      refine own_st (fun t k => XS.iconst X120.here hx rfl (hb hby at_100) k) ?_
      show own_E p e below _ T120 (mkF m 101 #[iv p1, iv p2, iv p3, iv p4, iv p5, rv b1, rv b10, rv b94, iv 0, .val (.null), .val (.null), .unset, .unset, .unset, .unset] [.int 1, .int p5])
      refine own_st (fun t k => XS.iand X120.here hx rfl (hb hby at_101) rfl k) ?_
      show own_E p e below _ T120 (mkF m 102 #[iv p1, iv p2, iv p3, iv p4, iv p5, rv b1, rv b10, rv b94, iv 0, .val (.null), .val (.null), .unset, .unset, .unset, .unset] [.int (p5 &&& (1 : Int32))])
      by_cases hc124 : (p5 &&& (1 : Int32)) = (0 : Int32)
      · refine own_st (fun t k => XS.ifYes X120.here hx rfl (pc0 := 102) (pc' := 109) rfl (hb hby at_102) rfl ((if0 _ _).trans (teq hc124).1) (by decide) (by decide) k) ?_
        show own_E p e below _ T120 (mkF m 109 #[iv p1, iv p2, iv p3, iv p4, iv p5, rv b1, rv b10, rv b94, iv 0, .val (.null), .val (.null), .unset, .unset, .unset, .unset] [])
        refine own_st (fun t k => XS.iconst X120.here hx rfl (hb hby at_109) k) ?_
        show own_E p e below _ T120 (mkF m 110 #[iv p1, iv p2, iv p3, iv p4, iv p5, rv b1, rv b10, rv b94, iv 0, .val (.null), .val (.null), .unset, .unset, .unset, .unset] [.int 0])
        refine own_st (fun t k => XS.istore X120.here hx rfl (hb hby at_110) rfl (l' := #[iv p1, iv p2, iv p3, iv p4, iv p5, rv b1, rv b10, rv b94, iv 0, .val (.null), .val (.null), iv 0, .unset, .unset, .unset]) rfl k) ?_
        show own_E p e below _ T120 (mkF m 112 #[iv p1, iv p2, iv p3, iv p4, iv p5, rv b1, rv b10, rv b94, iv 0, .val (.null), .val (.null), iv 0, .unset, .unset, .unset] [])
        obtain ⟨T125, h125, X125, e125, E125, A125, D125, -, st125⟩ := newO X120 hx hZ hown (own_w hw 23 rfl) (own_w hw 24 rfl) (own_w hw 25 rfl) e120 (g := (mkF m 112 #[iv p1, iv p2, iv p3, iv p4, iv p5, rv b1, rv b10, rv b94, iv 0, .val (.null), .val (.null), iv 0, .unset, .unset, .unset] [])) rfl (hb hby at_112) (by decide) (by decide)
        obtain ⟨b125, g125⟩ : ∃ z, z = T120.heap.size := ⟨_, rfl⟩
        rw [← g125] at A125 D125 st125
        have B126 := (B98.keep Kq120 (ninS ne_b1_b94 nin0))
        have ne_b1_b125 : b1 ≠ b125 := Nat.ne_of_lt (Nat.lt_of_lt_of_le B126.lt (Nat.le_of_eq g125.symm))
        have B127 := ((V10.ext E94).keep Kq120 (ninS ne_b10_b94 nin0))
        have ne_b10_b125 : b10 ≠ b125 := Nat.ne_of_lt (Nat.lt_of_lt_of_le B127.lt (Nat.le_of_eq g125.symm))
        have ne_b94_b125 : b94 ≠ b125 := Nat.ne_of_lt (Nat.lt_of_lt_of_le Ex120.lt (Nat.le_of_eq g125.symm))
        have g_b125 : n0 ≤ b125 := Nat.le_trans Z121 (Nat.le_of_eq g125.symm)
        have sz_b125 : h0.size ≤ b125 := Nat.le_trans K122.1 (Nat.le_of_eq g125.symm)
        have Z128 := Nat.le_trans Z121 E125.1
        have K129 : Keep h0 _ [] := K122.ext E125
        have F_limit_b125 : Fld Z h125 b125 "com/example/acquirer/acquirer/PageRequest" "limit" "I" (.int (0 : Int32)) := D125 (Or.inr (own_w hw 36 rfl)) (ty := .int) (by decide)
        have F_startingAfter_b125 : Fld Z h125 b125 "com/example/acquirer/acquirer/PageRequest" "startingAfter" "Ljava/lang/String;" .null := D125 (Or.inr (own_w hw 38 rfl)) (ty := (.object "java/lang/String")) (by decide)
        have F_endingBefore_b125 : Fld Z h125 b125 "com/example/acquirer/acquirer/PageRequest" "endingBefore" "Ljava/lang/String;" .null := D125 (Or.inr (own_w hw 40 rfl)) (ty := (.object "java/lang/String")) (by decide)
        have F_descending_b125 : Fld Z h125 b125 "com/example/acquirer/acquirer/PageRequest" "descending" "Z" (.int (0 : Int32)) := D125 (Or.inr (own_w hw 42 rfl)) (ty := .boolean) (by decide)
        refine own_st st125 ?_
        show own_E p e below _ T125 (mkF m 115 #[iv p1, iv p2, iv p3, iv p4, iv p5, rv b1, rv b10, rv b94, iv 0, .val (.null), .val (.null), iv 0, .unset, .unset, .unset] [.ref b125])
        refine own_st (fun t k => XS.dup X125.here hx rfl (hb hby at_115) rfl rfl k) ?_
        show own_E p e below _ T125 (mkF m 116 #[iv p1, iv p2, iv p3, iv p4, iv p5, rv b1, rv b10, rv b94, iv 0, .val (.null), .val (.null), iv 0, .unset, .unset, .unset] [.ref b125, .ref b125])
        refine own_st (fun t k => XS.iloadN X125.here hx rfl (hb hby at_116) rfl k) ?_
        show own_E p e below _ T125 (mkF m 117 #[iv p1, iv p2, iv p3, iv p4, iv p5, rv b1, rv b10, rv b94, iv 0, .val (.null), .val (.null), iv 0, .unset, .unset, .unset] [.int p1, .ref b125, .ref b125])
        refine own_st (fun t k => XS.aload X125.here hx rfl (hb hby at_117) rfl rfl k) ?_
        show own_E p e below _ T125 (mkF m 119 #[iv p1, iv p2, iv p3, iv p4, iv p5, rv b1, rv b10, rv b94, iv 0, .val (.null), .val (.null), iv 0, .unset, .unset, .unset] [.null, .int p1, .ref b125, .ref b125])
        refine own_st (fun t k => XS.aload X125.here hx rfl (hb hby at_119) rfl rfl k) ?_
        show own_E p e below _ T125 (mkF m 121 #[iv p1, iv p2, iv p3, iv p4, iv p5, rv b1, rv b10, rv b94, iv 0, .val (.null), .val (.null), iv 0, .unset, .unset, .unset] [.null, .null, .int p1, .ref b125, .ref b125])
        refine own_st (fun t k => XS.iload X125.here hx rfl (hb hby at_121) rfl k) ?_
        show own_E p e below _ T125 (mkF m 123 #[iv p1, iv p2, iv p3, iv p4, iv p5, rv b1, rv b10, rv b94, iv 0, .val (.null), .val (.null), iv 0, .unset, .unset, .unset] [.int 0, .null, .null, .int p1, .ref b125, .ref b125])
        obtain ⟨_, _, ⟨T130, L130, k130, n130⟩, -, X130, ⟨Lc130, hQ130, l130, y130, z130⟩, st130⟩ := X125.specialBack hx (y := own_y3) rfl hown (mvT hZ (own_w hw 26 rfl)) (mvT hZ (own_w hw 27 rfl)) (mvT hZ (own_w hw 28 rfl)) (by decide) (backOf (W := 1) (own_init000 l Z a0 hw [] b125 p1 h125 n0 Z128 A125 F_limit_b125 F_startingAfter_b125 F_endingBefore_b125 F_descending_b125 g_b125) hZ (own_w hw 28 rfl) (own_w hw 25 rfl) (by decide) (by decide)) (g := (mkF m 123 #[iv p1, iv p2, iv p3, iv p4, iv p5, rv b1, rv b10, rv b94, iv 0, .val (.null), .val (.null), iv 0, .unset, .unset, .unset] [.int 0, .null, .null, .int p1, .ref b125, .ref b125])) rfl (by rw [hml]; rfl) (Steps.refl _) (a := b125) (argsL := [(.int p1), .null, .null, (.int (0 : Int32))]) (rest := [(.ref b125)]) (lenOf own_pd_4 rfl) rfl (by show 2 * 0 + _ ≤ _; exact Nat.le_of_eq rfl) (hb hby at_123) (fun _ _ => ⟨rfl, e125, (by decide : 5 + 0 ≤ _), (by decide : 12 + 0 ≤ _)⟩)
        dsimp only [Pt.U, Pt.locs, Pt.cells, Pt.slots] at X130 l130 y130 z130 st130 hQ130
        subst l130 y130 z130
        obtain ⟨rfl, Nq130, Kq130, P130_0, P130_1, P130_2⟩ := hQ130
        have N130 := Fr.app N120 Nq130
        have e130 : T130.heap = T130.heap := rfl
        have Z131 := Nat.le_trans Z128 Kq130.1
        have K132 : Keep h0 _ [] := K129.trans Kq130 (allS (P := fun x => x ∈ [] ∨ h0.size ≤ x) (Or.inr sz_b125) all0)
        refine own_tr st130 ?_
        show own_E p e below _ T130 (mkF m 126 #[iv p1, iv p2, iv p3, iv p4, iv p5, rv b1, rv b10, rv b94, iv 0, .val (.null), .val (.null), iv 0, .unset, .unset, .unset] [.ref b125])
        refine own_st (fun t k => XS.astore X130.here hx rfl (hb hby at_126) rfl rfl (l' := #[iv p1, iv p2, iv p3, iv p4, iv p5, rv b1, rv b10, rv b94, iv 0, .val (.null), .val (.null), iv 0, rv b125, .unset, .unset]) rfl k) ?_
        show own_E p e below _ T130 (mkF m 128 #[iv p1, iv p2, iv p3, iv p4, iv p5, rv b1, rv b10, rv b94, iv 0, .val (.null), .val (.null), iv 0, rv b125, .unset, .unset] [])
        refine own_st (fun t k => XS.aload X130.here hx rfl (hb hby at_128) rfl rfl k) ?_
        show own_E p e below _ T130 (mkF m 130 #[iv p1, iv p2, iv p3, iv p4, iv p5, rv b1, rv b10, rv b94, iv 0, .val (.null), .val (.null), iv 0, rv b125, .unset, .unset] [.ref b125])
        obtain ⟨cq133, kq133, q133a, q133b, q133c⟩ := isOf hZ e130 P130_0
        obtain ⟨_, _, ⟨T133, L133, k133, n133⟩, -, X133, ⟨Lc133, hQ133, l133, y133, z133⟩, st133⟩ := X130.virtualBack hx (y := own_y5) (z := own_y5) hown (mvT hZ (own_w hw 43 rfl)) (mvT hZ (own_w hw 44 rfl)) (notFace_of_selects (args := #[]) (mvT hZ (own_w hw 46 rfl))) (mvT hZ (own_w hw 46 rfl)) (mvT hZ (own_w hw 45 rfl)) (by decide) (backOf (W := 0) (own_bk00 l Z a0 hw [] b125 T130.heap n0 Z131 P130_1 P130_2) hZ (own_w hw 47 rfl) (own_w hw 25 rfl) (by decide) (by decide)) q133a q133c (g := (mkF m 130 #[iv p1, iv p2, iv p3, iv p4, iv p5, rv b1, rv b10, rv b94, iv 0, .val (.null), .val (.null), iv 0, rv b125, .unset, .unset] [.ref b125])) rfl (by rw [hml]; rfl) (Steps.refl _) (argsL := []) (rest := []) (lenOf own_pd_2 rfl) rfl (by show 2 * 0 + _ ≤ _; exact Nat.le_of_eq rfl) (hb hby at_130) (fun _ _ => ⟨rfl, e130, (by decide : 5 + 0 ≤ _), (by decide : 12 + 0 ≤ _)⟩)
        dsimp only [Pt.U, Pt.locs, Pt.cells, Pt.slots] at X133 l133 y133 z133 st133 hQ133
        subst l133 y133 z133
        obtain ⟨hR133, e133, rfl⟩ := hQ133
        have N133 := Fr.app N130 (Fr.nil n0)
        obtain rfl := hR133
        refine own_tr st133 ?_
        show own_E p e below _ T133 (mkF m 133 #[iv p1, iv p2, iv p3, iv p4, iv p5, rv b1, rv b10, rv b94, iv 0, .val (.null), .val (.null), iv 0, rv b125, .unset, .unset] [.int 0])
        refine own_st (fun t k => XS.istore X133.here hx rfl (hb hby at_133) rfl (l' := #[iv p1, iv p2, iv p3, iv p4, iv p5, rv b1, rv b10, rv b94, iv 0, .val (.null), .val (.null), iv 0, rv b125, iv 0, .unset]) rfl k) ?_
        show own_E p e below _ T133 (mkF m 135 #[iv p1, iv p2, iv p3, iv p4, iv p5, rv b1, rv b10, rv b94, iv 0, .val (.null), .val (.null), iv 0, rv b125, iv 0, .unset] [])
        refine own_st (fun t k => XS.iload X133.here hx rfl (hb hby at_135) rfl k) ?_
        show own_E p e below _ T133 (mkF m 137 #[iv p1, iv p2, iv p3, iv p4, iv p5, rv b1, rv b10, rv b94, iv 0, .val (.null), .val (.null), iv 0, rv b125, iv 0, .unset] [.int 0])
        refine own_st (fun t k => XS.iconst X133.here hx rfl (hb hby at_137) k) ?_
        show own_E p e below _ T133 (mkF m 138 #[iv p1, iv p2, iv p3, iv p4, iv p5, rv b1, rv b10, rv b94, iv 0, .val (.null), .val (.null), iv 0, rv b125, iv 0, .unset] [.int 2, .int 0])
        refine own_st (fun t k => XS.icmpYes X133.here hx rfl (pc0 := 138) (pc' := 145) rfl (hb hby at_138) rfl (by decide) (by decide) (by decide) k) ?_
        show own_E p e below _ T133 (mkF m 145 #[iv p1, iv p2, iv p3, iv p4, iv p5, rv b1, rv b10, rv b94, iv 0, .val (.null), .val (.null), iv 0, rv b125, iv 0, .unset] [])
        refine own_st (fun t k => XS.iconst X133.here hx rfl (hb hby at_145) k) ?_
        show own_E p e below _ T133 (mkF m 146 #[iv p1, iv p2, iv p3, iv p4, iv p5, rv b1, rv b10, rv b94, iv 0, .val (.null), .val (.null), iv 0, rv b125, iv 0, .unset] [.int 0])
        refine own_st (fun t k => XS.istore X133.here hx rfl (hb hby at_146) rfl (l' := #[iv p1, iv p2, iv p3, iv p4, iv p5, rv b1, rv b10, rv b94, iv 0, .val (.null), .val (.null), iv 0, rv b125, iv 0, iv 0]) rfl k) ?_
        show own_E p e below _ T133 (mkF m 148 #[iv p1, iv p2, iv p3, iv p4, iv p5, rv b1, rv b10, rv b94, iv 0, .val (.null), .val (.null), iv 0, rv b125, iv 0, iv 0] [])
        refine own_st (fun t k => XS.iload X133.here hx rfl (hb hby at_148) rfl k) ?_
        show own_E p e below _ T133 (mkF m 150 #[iv p1, iv p2, iv p3, iv p4, iv p5, rv b1, rv b10, rv b94, iv 0, .val (.null), .val (.null), iv 0, rv b125, iv 0, iv 0] [.int 0])
        refine own_st (fun t k => XS.iload X133.here hx rfl (hb hby at_150) rfl k) ?_
        show own_E p e below _ T133 (mkF m 152 #[iv p1, iv p2, iv p3, iv p4, iv p5, rv b1, rv b10, rv b94, iv 0, .val (.null), .val (.null), iv 0, rv b125, iv 0, iv 0] [.int 0, .int 0])
        refine own_st (fun t k => XS.icmpYes X133.here hx rfl (pc0 := 152) (pc' := 157) rfl (hb hby at_152) rfl (by decide) (by decide) (by decide) k) ?_
        show own_E p e below _ T133 (mkF m 157 #[iv p1, iv p2, iv p3, iv p4, iv p5, rv b1, rv b10, rv b94, iv 0, .val (.null), .val (.null), iv 0, rv b125, iv 0, iv 0] [])
        refine own_st (fun t k => XS.iload X133.here hx rfl (hb hby at_157) rfl k) ?_
        show own_E p e below _ T133 (mkF m 159 #[iv p1, iv p2, iv p3, iv p4, iv p5, rv b1, rv b10, rv b94, iv 0, .val (.null), .val (.null), iv 0, rv b125, iv 0, iv 0] [.int 0])
        refine own_st (fun t k => XS.ifYes X133.here hx rfl (pc0 := 159) (pc' := 178) rfl (hb hby at_159) rfl (by decide) (by decide) (by decide) k) ?_
        show own_E p e below _ T133 (mkF m 178 #[iv p1, iv p2, iv p3, iv p4, iv p5, rv b1, rv b10, rv b94, iv 0, .val (.null), .val (.null), iv 0, rv b125, iv 0, iv 0] [])
        refine own_st (fun t k => XS.iconst X133.here hx rfl (hb hby at_178) k) ?_
        show own_E p e below _ T133 (mkF m 179 #[iv p1, iv p2, iv p3, iv p4, iv p5, rv b1, rv b10, rv b94, iv 0, .val (.null), .val (.null), iv 0, rv b125, iv 0, iv 0] [.int 1])
        refine own_retSW X133 (own_since s) (by rw [e133]; exact (Nat.zero_le _)) hx Bd.notSynchronized Bd.returns rfl (by decide) (hb hby at_179) (by decide) (by decide) ?_
        exact ⟨rfl, N133⟩
      · refine own_st (fun t k => XS.ifNo X120.here hx rfl (hb hby at_102) rfl ((if0 _ _).trans (feq hc124).1) k) ?_
        show own_E p e below _ T120 (mkF m 105 #[iv p1, iv p2, iv p3, iv p4, iv p5, rv b1, rv b10, rv b94, iv 0, .val (.null), .val (.null), .unset, .unset, .unset, .unset] [])
        refine own_st (fun t k => XS.iconst X120.here hx rfl (hb hby at_105) k) ?_
        show own_E p e below _ T120 (mkF m 106 #[iv p1, iv p2, iv p3, iv p4, iv p5, rv b1, rv b10, rv b94, iv 0, .val (.null), .val (.null), .unset, .unset, .unset, .unset] [.int 1])
        refine own_st (fun t k => XS.goto X120.here hx rfl (pc0 := 106) (pc' := 110) rfl (hb hby at_106) (by decide) (by decide) k) ?_
        show own_E p e below _ T120 (mkF m 110 #[iv p1, iv p2, iv p3, iv p4, iv p5, rv b1, rv b10, rv b94, iv 0, .val (.null), .val (.null), .unset, .unset, .unset, .unset] [.int 1])
        refine own_st (fun t k => XS.istore X120.here hx rfl (hb hby at_110) rfl (l' := #[iv p1, iv p2, iv p3, iv p4, iv p5, rv b1, rv b10, rv b94, iv 0, .val (.null), .val (.null), iv 1, .unset, .unset, .unset]) rfl k) ?_
        show own_E p e below _ T120 (mkF m 112 #[iv p1, iv p2, iv p3, iv p4, iv p5, rv b1, rv b10, rv b94, iv 0, .val (.null), .val (.null), iv 1, .unset, .unset, .unset] [])
        obtain ⟨T134, h134, X134, e134, E134, A134, D134, -, st134⟩ := newO X120 hx hZ hown (own_w hw 23 rfl) (own_w hw 24 rfl) (own_w hw 25 rfl) e120 (g := (mkF m 112 #[iv p1, iv p2, iv p3, iv p4, iv p5, rv b1, rv b10, rv b94, iv 0, .val (.null), .val (.null), iv 1, .unset, .unset, .unset] [])) rfl (hb hby at_112) (by decide) (by decide)
        obtain ⟨b134, g134⟩ : ∃ z, z = T120.heap.size := ⟨_, rfl⟩
        rw [← g134] at A134 D134 st134
        have B135 := (B98.keep Kq120 (ninS ne_b1_b94 nin0))
        have ne_b1_b134 : b1 ≠ b134 := Nat.ne_of_lt (Nat.lt_of_lt_of_le B135.lt (Nat.le_of_eq g134.symm))
        have B136 := ((V10.ext E94).keep Kq120 (ninS ne_b10_b94 nin0))
        have ne_b10_b134 : b10 ≠ b134 := Nat.ne_of_lt (Nat.lt_of_lt_of_le B136.lt (Nat.le_of_eq g134.symm))
        have ne_b94_b134 : b94 ≠ b134 := Nat.ne_of_lt (Nat.lt_of_lt_of_le Ex120.lt (Nat.le_of_eq g134.symm))
        have g_b134 : n0 ≤ b134 := Nat.le_trans Z121 (Nat.le_of_eq g134.symm)
        have sz_b134 : h0.size ≤ b134 := Nat.le_trans K122.1 (Nat.le_of_eq g134.symm)
        have Z137 := Nat.le_trans Z121 E134.1
        have K138 : Keep h0 _ [] := K122.ext E134
        have F_limit_b134 : Fld Z h134 b134 "com/example/acquirer/acquirer/PageRequest" "limit" "I" (.int (0 : Int32)) := D134 (Or.inr (own_w hw 36 rfl)) (ty := .int) (by decide)
        have F_startingAfter_b134 : Fld Z h134 b134 "com/example/acquirer/acquirer/PageRequest" "startingAfter" "Ljava/lang/String;" .null := D134 (Or.inr (own_w hw 38 rfl)) (ty := (.object "java/lang/String")) (by decide)
        have F_endingBefore_b134 : Fld Z h134 b134 "com/example/acquirer/acquirer/PageRequest" "endingBefore" "Ljava/lang/String;" .null := D134 (Or.inr (own_w hw 40 rfl)) (ty := (.object "java/lang/String")) (by decide)
        have F_descending_b134 : Fld Z h134 b134 "com/example/acquirer/acquirer/PageRequest" "descending" "Z" (.int (0 : Int32)) := D134 (Or.inr (own_w hw 42 rfl)) (ty := .boolean) (by decide)
        refine own_st st134 ?_
        show own_E p e below _ T134 (mkF m 115 #[iv p1, iv p2, iv p3, iv p4, iv p5, rv b1, rv b10, rv b94, iv 0, .val (.null), .val (.null), iv 1, .unset, .unset, .unset] [.ref b134])
        refine own_st (fun t k => XS.dup X134.here hx rfl (hb hby at_115) rfl rfl k) ?_
        show own_E p e below _ T134 (mkF m 116 #[iv p1, iv p2, iv p3, iv p4, iv p5, rv b1, rv b10, rv b94, iv 0, .val (.null), .val (.null), iv 1, .unset, .unset, .unset] [.ref b134, .ref b134])
        refine own_st (fun t k => XS.iloadN X134.here hx rfl (hb hby at_116) rfl k) ?_
        show own_E p e below _ T134 (mkF m 117 #[iv p1, iv p2, iv p3, iv p4, iv p5, rv b1, rv b10, rv b94, iv 0, .val (.null), .val (.null), iv 1, .unset, .unset, .unset] [.int p1, .ref b134, .ref b134])
        refine own_st (fun t k => XS.aload X134.here hx rfl (hb hby at_117) rfl rfl k) ?_
        show own_E p e below _ T134 (mkF m 119 #[iv p1, iv p2, iv p3, iv p4, iv p5, rv b1, rv b10, rv b94, iv 0, .val (.null), .val (.null), iv 1, .unset, .unset, .unset] [.null, .int p1, .ref b134, .ref b134])
        refine own_st (fun t k => XS.aload X134.here hx rfl (hb hby at_119) rfl rfl k) ?_
        show own_E p e below _ T134 (mkF m 121 #[iv p1, iv p2, iv p3, iv p4, iv p5, rv b1, rv b10, rv b94, iv 0, .val (.null), .val (.null), iv 1, .unset, .unset, .unset] [.null, .null, .int p1, .ref b134, .ref b134])
        refine own_st (fun t k => XS.iload X134.here hx rfl (hb hby at_121) rfl k) ?_
        show own_E p e below _ T134 (mkF m 123 #[iv p1, iv p2, iv p3, iv p4, iv p5, rv b1, rv b10, rv b94, iv 0, .val (.null), .val (.null), iv 1, .unset, .unset, .unset] [.int 1, .null, .null, .int p1, .ref b134, .ref b134])
        obtain ⟨_, _, ⟨T139, L139, k139, n139⟩, -, X139, ⟨Lc139, hQ139, l139, y139, z139⟩, st139⟩ := X134.specialBack hx (y := own_y3) rfl hown (mvT hZ (own_w hw 26 rfl)) (mvT hZ (own_w hw 27 rfl)) (mvT hZ (own_w hw 28 rfl)) (by decide) (backOf (W := 1) (own_init001 l Z a0 hw [] b134 p1 h134 n0 Z137 A134 F_limit_b134 F_startingAfter_b134 F_endingBefore_b134 F_descending_b134 g_b134) hZ (own_w hw 28 rfl) (own_w hw 25 rfl) (by decide) (by decide)) (g := (mkF m 123 #[iv p1, iv p2, iv p3, iv p4, iv p5, rv b1, rv b10, rv b94, iv 0, .val (.null), .val (.null), iv 1, .unset, .unset, .unset] [.int 1, .null, .null, .int p1, .ref b134, .ref b134])) rfl (by rw [hml]; rfl) (Steps.refl _) (a := b134) (argsL := [(.int p1), .null, .null, (.int (1 : Int32))]) (rest := [(.ref b134)]) (lenOf own_pd_4 rfl) rfl (by show 2 * 0 + _ ≤ _; exact Nat.le_of_eq rfl) (hb hby at_123) (fun _ _ => ⟨rfl, e134, (by decide : 5 + 0 ≤ _), (by decide : 12 + 0 ≤ _)⟩)
        dsimp only [Pt.U, Pt.locs, Pt.cells, Pt.slots] at X139 l139 y139 z139 st139 hQ139
        subst l139 y139 z139
        obtain ⟨rfl, Nq139, Kq139, P139_0, P139_1, P139_2⟩ := hQ139
        have N139 := Fr.app N120 Nq139
        have e139 : T139.heap = T139.heap := rfl
        have Z140 := Nat.le_trans Z137 Kq139.1
        have K141 : Keep h0 _ [] := K138.trans Kq139 (allS (P := fun x => x ∈ [] ∨ h0.size ≤ x) (Or.inr sz_b134) all0)
        refine own_tr st139 ?_
        show own_E p e below _ T139 (mkF m 126 #[iv p1, iv p2, iv p3, iv p4, iv p5, rv b1, rv b10, rv b94, iv 0, .val (.null), .val (.null), iv 1, .unset, .unset, .unset] [.ref b134])
        refine own_st (fun t k => XS.astore X139.here hx rfl (hb hby at_126) rfl rfl (l' := #[iv p1, iv p2, iv p3, iv p4, iv p5, rv b1, rv b10, rv b94, iv 0, .val (.null), .val (.null), iv 1, rv b134, .unset, .unset]) rfl k) ?_
        show own_E p e below _ T139 (mkF m 128 #[iv p1, iv p2, iv p3, iv p4, iv p5, rv b1, rv b10, rv b94, iv 0, .val (.null), .val (.null), iv 1, rv b134, .unset, .unset] [])
        refine own_st (fun t k => XS.aload X139.here hx rfl (hb hby at_128) rfl rfl k) ?_
        show own_E p e below _ T139 (mkF m 130 #[iv p1, iv p2, iv p3, iv p4, iv p5, rv b1, rv b10, rv b94, iv 0, .val (.null), .val (.null), iv 1, rv b134, .unset, .unset] [.ref b134])
        obtain ⟨cq142, kq142, q142a, q142b, q142c⟩ := isOf hZ e139 P139_0
        obtain ⟨_, _, ⟨T142, L142, k142, n142⟩, -, X142, ⟨Lc142, hQ142, l142, y142, z142⟩, st142⟩ := X139.virtualBack hx (y := own_y5) (z := own_y5) hown (mvT hZ (own_w hw 43 rfl)) (mvT hZ (own_w hw 44 rfl)) (notFace_of_selects (args := #[]) (mvT hZ (own_w hw 46 rfl))) (mvT hZ (own_w hw 46 rfl)) (mvT hZ (own_w hw 45 rfl)) (by decide) (backOf (W := 0) (own_bk00 l Z a0 hw [] b134 T139.heap n0 Z140 P139_1 P139_2) hZ (own_w hw 47 rfl) (own_w hw 25 rfl) (by decide) (by decide)) q142a q142c (g := (mkF m 130 #[iv p1, iv p2, iv p3, iv p4, iv p5, rv b1, rv b10, rv b94, iv 0, .val (.null), .val (.null), iv 1, rv b134, .unset, .unset] [.ref b134])) rfl (by rw [hml]; rfl) (Steps.refl _) (argsL := []) (rest := []) (lenOf own_pd_2 rfl) rfl (by show 2 * 0 + _ ≤ _; exact Nat.le_of_eq rfl) (hb hby at_130) (fun _ _ => ⟨rfl, e139, (by decide : 5 + 0 ≤ _), (by decide : 12 + 0 ≤ _)⟩)
        dsimp only [Pt.U, Pt.locs, Pt.cells, Pt.slots] at X142 l142 y142 z142 st142 hQ142
        subst l142 y142 z142
        obtain ⟨hR142, e142, rfl⟩ := hQ142
        have N142 := Fr.app N139 (Fr.nil n0)
        obtain rfl := hR142
        refine own_tr st142 ?_
        show own_E p e below _ T142 (mkF m 133 #[iv p1, iv p2, iv p3, iv p4, iv p5, rv b1, rv b10, rv b94, iv 0, .val (.null), .val (.null), iv 1, rv b134, .unset, .unset] [.int 0])
        refine own_st (fun t k => XS.istore X142.here hx rfl (hb hby at_133) rfl (l' := #[iv p1, iv p2, iv p3, iv p4, iv p5, rv b1, rv b10, rv b94, iv 0, .val (.null), .val (.null), iv 1, rv b134, iv 0, .unset]) rfl k) ?_
        show own_E p e below _ T142 (mkF m 135 #[iv p1, iv p2, iv p3, iv p4, iv p5, rv b1, rv b10, rv b94, iv 0, .val (.null), .val (.null), iv 1, rv b134, iv 0, .unset] [])
        refine own_st (fun t k => XS.iload X142.here hx rfl (hb hby at_135) rfl k) ?_
        show own_E p e below _ T142 (mkF m 137 #[iv p1, iv p2, iv p3, iv p4, iv p5, rv b1, rv b10, rv b94, iv 0, .val (.null), .val (.null), iv 1, rv b134, iv 0, .unset] [.int 0])
        refine own_st (fun t k => XS.iconst X142.here hx rfl (hb hby at_137) k) ?_
        show own_E p e below _ T142 (mkF m 138 #[iv p1, iv p2, iv p3, iv p4, iv p5, rv b1, rv b10, rv b94, iv 0, .val (.null), .val (.null), iv 1, rv b134, iv 0, .unset] [.int 2, .int 0])
        refine own_st (fun t k => XS.icmpYes X142.here hx rfl (pc0 := 138) (pc' := 145) rfl (hb hby at_138) rfl (by decide) (by decide) (by decide) k) ?_
        show own_E p e below _ T142 (mkF m 145 #[iv p1, iv p2, iv p3, iv p4, iv p5, rv b1, rv b10, rv b94, iv 0, .val (.null), .val (.null), iv 1, rv b134, iv 0, .unset] [])
        refine own_st (fun t k => XS.iconst X142.here hx rfl (hb hby at_145) k) ?_
        show own_E p e below _ T142 (mkF m 146 #[iv p1, iv p2, iv p3, iv p4, iv p5, rv b1, rv b10, rv b94, iv 0, .val (.null), .val (.null), iv 1, rv b134, iv 0, .unset] [.int 0])
        refine own_st (fun t k => XS.istore X142.here hx rfl (hb hby at_146) rfl (l' := #[iv p1, iv p2, iv p3, iv p4, iv p5, rv b1, rv b10, rv b94, iv 0, .val (.null), .val (.null), iv 1, rv b134, iv 0, iv 0]) rfl k) ?_
        show own_E p e below _ T142 (mkF m 148 #[iv p1, iv p2, iv p3, iv p4, iv p5, rv b1, rv b10, rv b94, iv 0, .val (.null), .val (.null), iv 1, rv b134, iv 0, iv 0] [])
        refine own_st (fun t k => XS.iload X142.here hx rfl (hb hby at_148) rfl k) ?_
        show own_E p e below _ T142 (mkF m 150 #[iv p1, iv p2, iv p3, iv p4, iv p5, rv b1, rv b10, rv b94, iv 0, .val (.null), .val (.null), iv 1, rv b134, iv 0, iv 0] [.int 0])
        refine own_st (fun t k => XS.iload X142.here hx rfl (hb hby at_150) rfl k) ?_
        show own_E p e below _ T142 (mkF m 152 #[iv p1, iv p2, iv p3, iv p4, iv p5, rv b1, rv b10, rv b94, iv 0, .val (.null), .val (.null), iv 1, rv b134, iv 0, iv 0] [.int 0, .int 0])
        refine own_st (fun t k => XS.icmpYes X142.here hx rfl (pc0 := 152) (pc' := 157) rfl (hb hby at_152) rfl (by decide) (by decide) (by decide) k) ?_
        show own_E p e below _ T142 (mkF m 157 #[iv p1, iv p2, iv p3, iv p4, iv p5, rv b1, rv b10, rv b94, iv 0, .val (.null), .val (.null), iv 1, rv b134, iv 0, iv 0] [])
        refine own_st (fun t k => XS.iload X142.here hx rfl (hb hby at_157) rfl k) ?_
        show own_E p e below _ T142 (mkF m 159 #[iv p1, iv p2, iv p3, iv p4, iv p5, rv b1, rv b10, rv b94, iv 0, .val (.null), .val (.null), iv 1, rv b134, iv 0, iv 0] [.int 0])
        refine own_st (fun t k => XS.ifYes X142.here hx rfl (pc0 := 159) (pc' := 178) rfl (hb hby at_159) rfl (by decide) (by decide) (by decide) k) ?_
        show own_E p e below _ T142 (mkF m 178 #[iv p1, iv p2, iv p3, iv p4, iv p5, rv b1, rv b10, rv b94, iv 0, .val (.null), .val (.null), iv 1, rv b134, iv 0, iv 0] [])
        refine own_st (fun t k => XS.iconst X142.here hx rfl (hb hby at_178) k) ?_
        show own_E p e below _ T142 (mkF m 179 #[iv p1, iv p2, iv p3, iv p4, iv p5, rv b1, rv b10, rv b94, iv 0, .val (.null), .val (.null), iv 1, rv b134, iv 0, iv 0] [.int 1])
        refine own_retSW X142 (own_since s) (by rw [e142]; exact (Nat.zero_le _)) hx Bd.notSynchronized Bd.returns rfl (by decide) (hb hby at_179) (by decide) (by decide) ?_
        exact ⟨rfl, N142⟩
    · rw [hs123]
      show own_E p e below _ T120 (mkF m 70 #[iv p1, iv p2, iv p3, iv p4, iv p5, rv b1, rv b10, rv b94, iv 1, .unset, .unset, .unset, .unset, .unset, .unset] [])
      refine own_st (fun t k => XS.iload X120.here hx rfl (hb hby at_70) rfl k) ?_
      show own_E p e below _ T120 (mkF m 72 #[iv p1, iv p2, iv p3, iv p4, iv p5, rv b1, rv b10, rv b94, iv 1, .unset, .unset, .unset, .unset, .unset, .unset] [.int 1])
      refine own_st (fun t k => XS.iconst X120.here hx rfl (hb hby at_72) k) ?_
      show own_E p e below _ T120 (mkF m 73 #[iv p1, iv p2, iv p3, iv p4, iv p5, rv b1, rv b10, rv b94, iv 1, .unset, .unset, .unset, .unset, .unset, .unset] [.int 1, .int 1])
      refine own_st (fun t k => XS.icmpNo X120.here hx rfl (hb hby at_73) rfl (by decide) k) ?_
      show own_E p e below _ T120 (mkF m 76 #[iv p1, iv p2, iv p3, iv p4, iv p5, rv b1, rv b10, rv b94, iv 1, .unset, .unset, .unset, .unset, .unset, .unset] [])
      refine own_st (fun t k => XS.aload X120.here hx rfl (hb hby at_76) rfl rfl k) ?_
      show own_E p e below _ T120 (mkF m 78 #[iv p1, iv p2, iv p3, iv p4, iv p5, rv b1, rv b10, rv b94, iv 1, .unset, .unset, .unset, .unset, .unset, .unset] [.ref b94])
      refine own_st (fun t k => XS.goto X120.here hx rfl (pc0 := 78) (pc' := 82) rfl (hb hby at_78) (by decide) (by decide) k) ?_
      show own_E p e below _ T120 (mkF m 82 #[iv p1, iv p2, iv p3, iv p4, iv p5, rv b1, rv b10, rv b94, iv 1, .unset, .unset, .unset, .unset, .unset, .unset] [.ref b94])
      refine own_st (fun t k => XS.astore X120.here hx rfl (hb hby at_82) rfl rfl (l' := #[iv p1, iv p2, iv p3, iv p4, iv p5, rv b1, rv b10, rv b94, iv 1, rv b94, .unset, .unset, .unset, .unset, .unset]) rfl k) ?_
      show own_E p e below _ T120 (mkF m 84 #[iv p1, iv p2, iv p3, iv p4, iv p5, rv b1, rv b10, rv b94, iv 1, rv b94, .unset, .unset, .unset, .unset, .unset] [])
      refine own_st (fun t k => XS.iload X120.here hx rfl (hb hby at_84) rfl k) ?_
      show own_E p e below _ T120 (mkF m 86 #[iv p1, iv p2, iv p3, iv p4, iv p5, rv b1, rv b10, rv b94, iv 1, rv b94, .unset, .unset, .unset, .unset, .unset] [.int 1])
      refine own_st (fun t k => XS.iconst X120.here hx rfl (hb hby at_86) k) ?_
      show own_E p e below _ T120 (mkF m 87 #[iv p1, iv p2, iv p3, iv p4, iv p5, rv b1, rv b10, rv b94, iv 1, rv b94, .unset, .unset, .unset, .unset, .unset] [.int 2, .int 1])
      refine own_st (fun t k => XS.icmpYes X120.here hx rfl (pc0 := 87) (pc' := 95) rfl (hb hby at_87) rfl (by decide) (by decide) (by decide) k) ?_
      show own_E p e below _ T120 (mkF m 95 #[iv p1, iv p2, iv p3, iv p4, iv p5, rv b1, rv b10, rv b94, iv 1, rv b94, .unset, .unset, .unset, .unset, .unset] [])
      refine own_st (fun t k => XS.aconstNull X120.here hx rfl (hb hby at_95) k) ?_
      show own_E p e below _ T120 (mkF m 96 #[iv p1, iv p2, iv p3, iv p4, iv p5, rv b1, rv b10, rv b94, iv 1, rv b94, .unset, .unset, .unset, .unset, .unset] [.null])
      refine own_st (fun t k => XS.astore X120.here hx rfl (hb hby at_96) rfl rfl (l' := #[iv p1, iv p2, iv p3, iv p4, iv p5, rv b1, rv b10, rv b94, iv 1, rv b94, .val (.null), .unset, .unset, .unset, .unset]) rfl k) ?_
      show own_E p e below _ T120 (mkF m 98 #[iv p1, iv p2, iv p3, iv p4, iv p5, rv b1, rv b10, rv b94, iv 1, rv b94, .val (.null), .unset, .unset, .unset, .unset] [])
      refine own_st (fun t k => XS.iload X120.here hx rfl (hb hby at_98) rfl k) ?_
      show own_E p e below _ T120 (mkF m 100 #[iv p1, iv p2, iv p3, iv p4, iv p5, rv b1, rv b10, rv b94, iv 1, rv b94, .val (.null), .unset, .unset, .unset, .unset] [.int p5])
      refine own_st (fun t k => XS.iconst X120.here hx rfl (hb hby at_100) k) ?_
      show own_E p e below _ T120 (mkF m 101 #[iv p1, iv p2, iv p3, iv p4, iv p5, rv b1, rv b10, rv b94, iv 1, rv b94, .val (.null), .unset, .unset, .unset, .unset] [.int 1, .int p5])
      refine own_st (fun t k => XS.iand X120.here hx rfl (hb hby at_101) rfl k) ?_
      show own_E p e below _ T120 (mkF m 102 #[iv p1, iv p2, iv p3, iv p4, iv p5, rv b1, rv b10, rv b94, iv 1, rv b94, .val (.null), .unset, .unset, .unset, .unset] [.int (p5 &&& (1 : Int32))])
      by_cases hc143 : (p5 &&& (1 : Int32)) = (0 : Int32)
      · refine own_st (fun t k => XS.ifYes X120.here hx rfl (pc0 := 102) (pc' := 109) rfl (hb hby at_102) rfl ((if0 _ _).trans (teq hc143).1) (by decide) (by decide) k) ?_
        show own_E p e below _ T120 (mkF m 109 #[iv p1, iv p2, iv p3, iv p4, iv p5, rv b1, rv b10, rv b94, iv 1, rv b94, .val (.null), .unset, .unset, .unset, .unset] [])
        refine own_st (fun t k => XS.iconst X120.here hx rfl (hb hby at_109) k) ?_
        show own_E p e below _ T120 (mkF m 110 #[iv p1, iv p2, iv p3, iv p4, iv p5, rv b1, rv b10, rv b94, iv 1, rv b94, .val (.null), .unset, .unset, .unset, .unset] [.int 0])
        refine own_st (fun t k => XS.istore X120.here hx rfl (hb hby at_110) rfl (l' := #[iv p1, iv p2, iv p3, iv p4, iv p5, rv b1, rv b10, rv b94, iv 1, rv b94, .val (.null), iv 0, .unset, .unset, .unset]) rfl k) ?_
        show own_E p e below _ T120 (mkF m 112 #[iv p1, iv p2, iv p3, iv p4, iv p5, rv b1, rv b10, rv b94, iv 1, rv b94, .val (.null), iv 0, .unset, .unset, .unset] [])
        obtain ⟨T144, h144, X144, e144, E144, A144, D144, -, st144⟩ := newO X120 hx hZ hown (own_w hw 23 rfl) (own_w hw 24 rfl) (own_w hw 25 rfl) e120 (g := (mkF m 112 #[iv p1, iv p2, iv p3, iv p4, iv p5, rv b1, rv b10, rv b94, iv 1, rv b94, .val (.null), iv 0, .unset, .unset, .unset] [])) rfl (hb hby at_112) (by decide) (by decide)
        obtain ⟨b144, g144⟩ : ∃ z, z = T120.heap.size := ⟨_, rfl⟩
        rw [← g144] at A144 D144 st144
        have B145 := (B98.keep Kq120 (ninS ne_b1_b94 nin0))
        have ne_b1_b144 : b1 ≠ b144 := Nat.ne_of_lt (Nat.lt_of_lt_of_le B145.lt (Nat.le_of_eq g144.symm))
        have B146 := ((V10.ext E94).keep Kq120 (ninS ne_b10_b94 nin0))
        have ne_b10_b144 : b10 ≠ b144 := Nat.ne_of_lt (Nat.lt_of_lt_of_le B146.lt (Nat.le_of_eq g144.symm))
        have ne_b94_b144 : b94 ≠ b144 := Nat.ne_of_lt (Nat.lt_of_lt_of_le Ex120.lt (Nat.le_of_eq g144.symm))
        have g_b144 : n0 ≤ b144 := Nat.le_trans Z121 (Nat.le_of_eq g144.symm)
        have sz_b144 : h0.size ≤ b144 := Nat.le_trans K122.1 (Nat.le_of_eq g144.symm)
        have Z147 := Nat.le_trans Z121 E144.1
        have K148 : Keep h0 _ [] := K122.ext E144
        have F_limit_b144 : Fld Z h144 b144 "com/example/acquirer/acquirer/PageRequest" "limit" "I" (.int (0 : Int32)) := D144 (Or.inr (own_w hw 36 rfl)) (ty := .int) (by decide)
        have F_startingAfter_b144 : Fld Z h144 b144 "com/example/acquirer/acquirer/PageRequest" "startingAfter" "Ljava/lang/String;" .null := D144 (Or.inr (own_w hw 38 rfl)) (ty := (.object "java/lang/String")) (by decide)
        have F_endingBefore_b144 : Fld Z h144 b144 "com/example/acquirer/acquirer/PageRequest" "endingBefore" "Ljava/lang/String;" .null := D144 (Or.inr (own_w hw 40 rfl)) (ty := (.object "java/lang/String")) (by decide)
        have F_descending_b144 : Fld Z h144 b144 "com/example/acquirer/acquirer/PageRequest" "descending" "Z" (.int (0 : Int32)) := D144 (Or.inr (own_w hw 42 rfl)) (ty := .boolean) (by decide)
        refine own_st st144 ?_
        show own_E p e below _ T144 (mkF m 115 #[iv p1, iv p2, iv p3, iv p4, iv p5, rv b1, rv b10, rv b94, iv 1, rv b94, .val (.null), iv 0, .unset, .unset, .unset] [.ref b144])
        refine own_st (fun t k => XS.dup X144.here hx rfl (hb hby at_115) rfl rfl k) ?_
        show own_E p e below _ T144 (mkF m 116 #[iv p1, iv p2, iv p3, iv p4, iv p5, rv b1, rv b10, rv b94, iv 1, rv b94, .val (.null), iv 0, .unset, .unset, .unset] [.ref b144, .ref b144])
        refine own_st (fun t k => XS.iloadN X144.here hx rfl (hb hby at_116) rfl k) ?_
        show own_E p e below _ T144 (mkF m 117 #[iv p1, iv p2, iv p3, iv p4, iv p5, rv b1, rv b10, rv b94, iv 1, rv b94, .val (.null), iv 0, .unset, .unset, .unset] [.int p1, .ref b144, .ref b144])
        refine own_st (fun t k => XS.aload X144.here hx rfl (hb hby at_117) rfl rfl k) ?_
        show own_E p e below _ T144 (mkF m 119 #[iv p1, iv p2, iv p3, iv p4, iv p5, rv b1, rv b10, rv b94, iv 1, rv b94, .val (.null), iv 0, .unset, .unset, .unset] [.ref b94, .int p1, .ref b144, .ref b144])
        refine own_st (fun t k => XS.aload X144.here hx rfl (hb hby at_119) rfl rfl k) ?_
        show own_E p e below _ T144 (mkF m 121 #[iv p1, iv p2, iv p3, iv p4, iv p5, rv b1, rv b10, rv b94, iv 1, rv b94, .val (.null), iv 0, .unset, .unset, .unset] [.null, .ref b94, .int p1, .ref b144, .ref b144])
        refine own_st (fun t k => XS.iload X144.here hx rfl (hb hby at_121) rfl k) ?_
        show own_E p e below _ T144 (mkF m 123 #[iv p1, iv p2, iv p3, iv p4, iv p5, rv b1, rv b10, rv b94, iv 1, rv b94, .val (.null), iv 0, .unset, .unset, .unset] [.int 0, .null, .ref b94, .int p1, .ref b144, .ref b144])
        obtain ⟨_, _, ⟨T149, L149, k149, n149⟩, -, X149, ⟨Lc149, hQ149, l149, y149, z149⟩, st149⟩ := X144.specialBack hx (y := own_y3) rfl hown (mvT hZ (own_w hw 26 rfl)) (mvT hZ (own_w hw 27 rfl)) (mvT hZ (own_w hw 28 rfl)) (by decide) (backOf (W := 1) (own_init100 l Z a0 hw [] b144 b94 p1 h144 n0 Z147 A144 F_limit_b144 F_startingAfter_b144 F_endingBefore_b144 F_descending_b144 g_b144) hZ (own_w hw 28 rfl) (own_w hw 25 rfl) (by decide) (by decide)) (g := (mkF m 123 #[iv p1, iv p2, iv p3, iv p4, iv p5, rv b1, rv b10, rv b94, iv 1, rv b94, .val (.null), iv 0, .unset, .unset, .unset] [.int 0, .null, .ref b94, .int p1, .ref b144, .ref b144])) rfl (by rw [hml]; rfl) (Steps.refl _) (a := b144) (argsL := [(.int p1), (.ref b94), .null, (.int (0 : Int32))]) (rest := [(.ref b144)]) (lenOf own_pd_4 rfl) rfl (by show 2 * 0 + _ ≤ _; exact Nat.le_of_eq rfl) (hb hby at_123) (fun _ _ => ⟨rfl, e144, (by decide : 5 + 0 ≤ _), (by decide : 12 + 0 ≤ _)⟩)
        dsimp only [Pt.U, Pt.locs, Pt.cells, Pt.slots] at X149 l149 y149 z149 st149 hQ149
        subst l149 y149 z149
        obtain ⟨rfl, Nq149, Kq149, P149_0, P149_1, P149_2⟩ := hQ149
        have N149 := Fr.app N120 Nq149
        have e149 : T149.heap = T149.heap := rfl
        have Z150 := Nat.le_trans Z147 Kq149.1
        have K151 : Keep h0 _ [] := K148.trans Kq149 (allS (P := fun x => x ∈ [] ∨ h0.size ≤ x) (Or.inr sz_b144) all0)
        refine own_tr st149 ?_
        show own_E p e below _ T149 (mkF m 126 #[iv p1, iv p2, iv p3, iv p4, iv p5, rv b1, rv b10, rv b94, iv 1, rv b94, .val (.null), iv 0, .unset, .unset, .unset] [.ref b144])
        refine own_st (fun t k => XS.astore X149.here hx rfl (hb hby at_126) rfl rfl (l' := #[iv p1, iv p2, iv p3, iv p4, iv p5, rv b1, rv b10, rv b94, iv 1, rv b94, .val (.null), iv 0, rv b144, .unset, .unset]) rfl k) ?_
        show own_E p e below _ T149 (mkF m 128 #[iv p1, iv p2, iv p3, iv p4, iv p5, rv b1, rv b10, rv b94, iv 1, rv b94, .val (.null), iv 0, rv b144, .unset, .unset] [])
        refine own_st (fun t k => XS.aload X149.here hx rfl (hb hby at_128) rfl rfl k) ?_
        show own_E p e below _ T149 (mkF m 130 #[iv p1, iv p2, iv p3, iv p4, iv p5, rv b1, rv b10, rv b94, iv 1, rv b94, .val (.null), iv 0, rv b144, .unset, .unset] [.ref b144])
        obtain ⟨cq152, kq152, q152a, q152b, q152c⟩ := isOf hZ e149 P149_0
        obtain ⟨_, _, ⟨T152, L152, k152, n152⟩, -, X152, ⟨Lc152, hQ152, l152, y152, z152⟩, st152⟩ := X149.virtualBack hx (y := own_y5) (z := own_y5) hown (mvT hZ (own_w hw 43 rfl)) (mvT hZ (own_w hw 44 rfl)) (notFace_of_selects (args := #[]) (mvT hZ (own_w hw 46 rfl))) (mvT hZ (own_w hw 46 rfl)) (mvT hZ (own_w hw 45 rfl)) (by decide) (backOf (W := 0) (own_bk10 l Z a0 hw [] b144 b94 T149.heap n0 Z150 P149_1 P149_2) hZ (own_w hw 47 rfl) (own_w hw 25 rfl) (by decide) (by decide)) q152a q152c (g := (mkF m 130 #[iv p1, iv p2, iv p3, iv p4, iv p5, rv b1, rv b10, rv b94, iv 1, rv b94, .val (.null), iv 0, rv b144, .unset, .unset] [.ref b144])) rfl (by rw [hml]; rfl) (Steps.refl _) (argsL := []) (rest := []) (lenOf own_pd_2 rfl) rfl (by show 2 * 0 + _ ≤ _; exact Nat.le_of_eq rfl) (hb hby at_130) (fun _ _ => ⟨rfl, e149, (by decide : 5 + 0 ≤ _), (by decide : 12 + 0 ≤ _)⟩)
        dsimp only [Pt.U, Pt.locs, Pt.cells, Pt.slots] at X152 l152 y152 z152 st152 hQ152
        subst l152 y152 z152
        obtain ⟨hR152, e152, rfl⟩ := hQ152
        have N152 := Fr.app N149 (Fr.nil n0)
        obtain rfl := hR152
        refine own_tr st152 ?_
        show own_E p e below _ T152 (mkF m 133 #[iv p1, iv p2, iv p3, iv p4, iv p5, rv b1, rv b10, rv b94, iv 1, rv b94, .val (.null), iv 0, rv b144, .unset, .unset] [.int 0])
        refine own_st (fun t k => XS.istore X152.here hx rfl (hb hby at_133) rfl (l' := #[iv p1, iv p2, iv p3, iv p4, iv p5, rv b1, rv b10, rv b94, iv 1, rv b94, .val (.null), iv 0, rv b144, iv 0, .unset]) rfl k) ?_
        show own_E p e below _ T152 (mkF m 135 #[iv p1, iv p2, iv p3, iv p4, iv p5, rv b1, rv b10, rv b94, iv 1, rv b94, .val (.null), iv 0, rv b144, iv 0, .unset] [])
        refine own_st (fun t k => XS.iload X152.here hx rfl (hb hby at_135) rfl k) ?_
        show own_E p e below _ T152 (mkF m 137 #[iv p1, iv p2, iv p3, iv p4, iv p5, rv b1, rv b10, rv b94, iv 1, rv b94, .val (.null), iv 0, rv b144, iv 0, .unset] [.int 1])
        refine own_st (fun t k => XS.iconst X152.here hx rfl (hb hby at_137) k) ?_
        show own_E p e below _ T152 (mkF m 138 #[iv p1, iv p2, iv p3, iv p4, iv p5, rv b1, rv b10, rv b94, iv 1, rv b94, .val (.null), iv 0, rv b144, iv 0, .unset] [.int 2, .int 1])
        refine own_st (fun t k => XS.icmpYes X152.here hx rfl (pc0 := 138) (pc' := 145) rfl (hb hby at_138) rfl (by decide) (by decide) (by decide) k) ?_
        show own_E p e below _ T152 (mkF m 145 #[iv p1, iv p2, iv p3, iv p4, iv p5, rv b1, rv b10, rv b94, iv 1, rv b94, .val (.null), iv 0, rv b144, iv 0, .unset] [])
        refine own_st (fun t k => XS.iconst X152.here hx rfl (hb hby at_145) k) ?_
        show own_E p e below _ T152 (mkF m 146 #[iv p1, iv p2, iv p3, iv p4, iv p5, rv b1, rv b10, rv b94, iv 1, rv b94, .val (.null), iv 0, rv b144, iv 0, .unset] [.int 0])
        refine own_st (fun t k => XS.istore X152.here hx rfl (hb hby at_146) rfl (l' := #[iv p1, iv p2, iv p3, iv p4, iv p5, rv b1, rv b10, rv b94, iv 1, rv b94, .val (.null), iv 0, rv b144, iv 0, iv 0]) rfl k) ?_
        show own_E p e below _ T152 (mkF m 148 #[iv p1, iv p2, iv p3, iv p4, iv p5, rv b1, rv b10, rv b94, iv 1, rv b94, .val (.null), iv 0, rv b144, iv 0, iv 0] [])
        refine own_st (fun t k => XS.iload X152.here hx rfl (hb hby at_148) rfl k) ?_
        show own_E p e below _ T152 (mkF m 150 #[iv p1, iv p2, iv p3, iv p4, iv p5, rv b1, rv b10, rv b94, iv 1, rv b94, .val (.null), iv 0, rv b144, iv 0, iv 0] [.int 0])
        refine own_st (fun t k => XS.iload X152.here hx rfl (hb hby at_150) rfl k) ?_
        show own_E p e below _ T152 (mkF m 152 #[iv p1, iv p2, iv p3, iv p4, iv p5, rv b1, rv b10, rv b94, iv 1, rv b94, .val (.null), iv 0, rv b144, iv 0, iv 0] [.int 0, .int 0])
        refine own_st (fun t k => XS.icmpYes X152.here hx rfl (pc0 := 152) (pc' := 157) rfl (hb hby at_152) rfl (by decide) (by decide) (by decide) k) ?_
        show own_E p e below _ T152 (mkF m 157 #[iv p1, iv p2, iv p3, iv p4, iv p5, rv b1, rv b10, rv b94, iv 1, rv b94, .val (.null), iv 0, rv b144, iv 0, iv 0] [])
        refine own_st (fun t k => XS.iload X152.here hx rfl (hb hby at_157) rfl k) ?_
        show own_E p e below _ T152 (mkF m 159 #[iv p1, iv p2, iv p3, iv p4, iv p5, rv b1, rv b10, rv b94, iv 1, rv b94, .val (.null), iv 0, rv b144, iv 0, iv 0] [.int 0])
        refine own_st (fun t k => XS.ifYes X152.here hx rfl (pc0 := 159) (pc' := 178) rfl (hb hby at_159) rfl (by decide) (by decide) (by decide) k) ?_
        show own_E p e below _ T152 (mkF m 178 #[iv p1, iv p2, iv p3, iv p4, iv p5, rv b1, rv b10, rv b94, iv 1, rv b94, .val (.null), iv 0, rv b144, iv 0, iv 0] [])
        refine own_st (fun t k => XS.iconst X152.here hx rfl (hb hby at_178) k) ?_
        show own_E p e below _ T152 (mkF m 179 #[iv p1, iv p2, iv p3, iv p4, iv p5, rv b1, rv b10, rv b94, iv 1, rv b94, .val (.null), iv 0, rv b144, iv 0, iv 0] [.int 1])
        refine own_retSW X152 (own_since s) (by rw [e152]; exact (Nat.zero_le _)) hx Bd.notSynchronized Bd.returns rfl (by decide) (hb hby at_179) (by decide) (by decide) ?_
        exact ⟨rfl, N152⟩
      · refine own_st (fun t k => XS.ifNo X120.here hx rfl (hb hby at_102) rfl ((if0 _ _).trans (feq hc143).1) k) ?_
        show own_E p e below _ T120 (mkF m 105 #[iv p1, iv p2, iv p3, iv p4, iv p5, rv b1, rv b10, rv b94, iv 1, rv b94, .val (.null), .unset, .unset, .unset, .unset] [])
        refine own_st (fun t k => XS.iconst X120.here hx rfl (hb hby at_105) k) ?_
        show own_E p e below _ T120 (mkF m 106 #[iv p1, iv p2, iv p3, iv p4, iv p5, rv b1, rv b10, rv b94, iv 1, rv b94, .val (.null), .unset, .unset, .unset, .unset] [.int 1])
        refine own_st (fun t k => XS.goto X120.here hx rfl (pc0 := 106) (pc' := 110) rfl (hb hby at_106) (by decide) (by decide) k) ?_
        show own_E p e below _ T120 (mkF m 110 #[iv p1, iv p2, iv p3, iv p4, iv p5, rv b1, rv b10, rv b94, iv 1, rv b94, .val (.null), .unset, .unset, .unset, .unset] [.int 1])
        refine own_st (fun t k => XS.istore X120.here hx rfl (hb hby at_110) rfl (l' := #[iv p1, iv p2, iv p3, iv p4, iv p5, rv b1, rv b10, rv b94, iv 1, rv b94, .val (.null), iv 1, .unset, .unset, .unset]) rfl k) ?_
        show own_E p e below _ T120 (mkF m 112 #[iv p1, iv p2, iv p3, iv p4, iv p5, rv b1, rv b10, rv b94, iv 1, rv b94, .val (.null), iv 1, .unset, .unset, .unset] [])
        obtain ⟨T153, h153, X153, e153, E153, A153, D153, -, st153⟩ := newO X120 hx hZ hown (own_w hw 23 rfl) (own_w hw 24 rfl) (own_w hw 25 rfl) e120 (g := (mkF m 112 #[iv p1, iv p2, iv p3, iv p4, iv p5, rv b1, rv b10, rv b94, iv 1, rv b94, .val (.null), iv 1, .unset, .unset, .unset] [])) rfl (hb hby at_112) (by decide) (by decide)
        obtain ⟨b153, g153⟩ : ∃ z, z = T120.heap.size := ⟨_, rfl⟩
        rw [← g153] at A153 D153 st153
        have B154 := (B98.keep Kq120 (ninS ne_b1_b94 nin0))
        have ne_b1_b153 : b1 ≠ b153 := Nat.ne_of_lt (Nat.lt_of_lt_of_le B154.lt (Nat.le_of_eq g153.symm))
        have B155 := ((V10.ext E94).keep Kq120 (ninS ne_b10_b94 nin0))
        have ne_b10_b153 : b10 ≠ b153 := Nat.ne_of_lt (Nat.lt_of_lt_of_le B155.lt (Nat.le_of_eq g153.symm))
        have ne_b94_b153 : b94 ≠ b153 := Nat.ne_of_lt (Nat.lt_of_lt_of_le Ex120.lt (Nat.le_of_eq g153.symm))
        have g_b153 : n0 ≤ b153 := Nat.le_trans Z121 (Nat.le_of_eq g153.symm)
        have sz_b153 : h0.size ≤ b153 := Nat.le_trans K122.1 (Nat.le_of_eq g153.symm)
        have Z156 := Nat.le_trans Z121 E153.1
        have K157 : Keep h0 _ [] := K122.ext E153
        have F_limit_b153 : Fld Z h153 b153 "com/example/acquirer/acquirer/PageRequest" "limit" "I" (.int (0 : Int32)) := D153 (Or.inr (own_w hw 36 rfl)) (ty := .int) (by decide)
        have F_startingAfter_b153 : Fld Z h153 b153 "com/example/acquirer/acquirer/PageRequest" "startingAfter" "Ljava/lang/String;" .null := D153 (Or.inr (own_w hw 38 rfl)) (ty := (.object "java/lang/String")) (by decide)
        have F_endingBefore_b153 : Fld Z h153 b153 "com/example/acquirer/acquirer/PageRequest" "endingBefore" "Ljava/lang/String;" .null := D153 (Or.inr (own_w hw 40 rfl)) (ty := (.object "java/lang/String")) (by decide)
        have F_descending_b153 : Fld Z h153 b153 "com/example/acquirer/acquirer/PageRequest" "descending" "Z" (.int (0 : Int32)) := D153 (Or.inr (own_w hw 42 rfl)) (ty := .boolean) (by decide)
        refine own_st st153 ?_
        show own_E p e below _ T153 (mkF m 115 #[iv p1, iv p2, iv p3, iv p4, iv p5, rv b1, rv b10, rv b94, iv 1, rv b94, .val (.null), iv 1, .unset, .unset, .unset] [.ref b153])
        refine own_st (fun t k => XS.dup X153.here hx rfl (hb hby at_115) rfl rfl k) ?_
        show own_E p e below _ T153 (mkF m 116 #[iv p1, iv p2, iv p3, iv p4, iv p5, rv b1, rv b10, rv b94, iv 1, rv b94, .val (.null), iv 1, .unset, .unset, .unset] [.ref b153, .ref b153])
        refine own_st (fun t k => XS.iloadN X153.here hx rfl (hb hby at_116) rfl k) ?_
        show own_E p e below _ T153 (mkF m 117 #[iv p1, iv p2, iv p3, iv p4, iv p5, rv b1, rv b10, rv b94, iv 1, rv b94, .val (.null), iv 1, .unset, .unset, .unset] [.int p1, .ref b153, .ref b153])
        refine own_st (fun t k => XS.aload X153.here hx rfl (hb hby at_117) rfl rfl k) ?_
        show own_E p e below _ T153 (mkF m 119 #[iv p1, iv p2, iv p3, iv p4, iv p5, rv b1, rv b10, rv b94, iv 1, rv b94, .val (.null), iv 1, .unset, .unset, .unset] [.ref b94, .int p1, .ref b153, .ref b153])
        refine own_st (fun t k => XS.aload X153.here hx rfl (hb hby at_119) rfl rfl k) ?_
        show own_E p e below _ T153 (mkF m 121 #[iv p1, iv p2, iv p3, iv p4, iv p5, rv b1, rv b10, rv b94, iv 1, rv b94, .val (.null), iv 1, .unset, .unset, .unset] [.null, .ref b94, .int p1, .ref b153, .ref b153])
        refine own_st (fun t k => XS.iload X153.here hx rfl (hb hby at_121) rfl k) ?_
        show own_E p e below _ T153 (mkF m 123 #[iv p1, iv p2, iv p3, iv p4, iv p5, rv b1, rv b10, rv b94, iv 1, rv b94, .val (.null), iv 1, .unset, .unset, .unset] [.int 1, .null, .ref b94, .int p1, .ref b153, .ref b153])
        obtain ⟨_, _, ⟨T158, L158, k158, n158⟩, -, X158, ⟨Lc158, hQ158, l158, y158, z158⟩, st158⟩ := X153.specialBack hx (y := own_y3) rfl hown (mvT hZ (own_w hw 26 rfl)) (mvT hZ (own_w hw 27 rfl)) (mvT hZ (own_w hw 28 rfl)) (by decide) (backOf (W := 1) (own_init101 l Z a0 hw [] b153 b94 p1 h153 n0 Z156 A153 F_limit_b153 F_startingAfter_b153 F_endingBefore_b153 F_descending_b153 g_b153) hZ (own_w hw 28 rfl) (own_w hw 25 rfl) (by decide) (by decide)) (g := (mkF m 123 #[iv p1, iv p2, iv p3, iv p4, iv p5, rv b1, rv b10, rv b94, iv 1, rv b94, .val (.null), iv 1, .unset, .unset, .unset] [.int 1, .null, .ref b94, .int p1, .ref b153, .ref b153])) rfl (by rw [hml]; rfl) (Steps.refl _) (a := b153) (argsL := [(.int p1), (.ref b94), .null, (.int (1 : Int32))]) (rest := [(.ref b153)]) (lenOf own_pd_4 rfl) rfl (by show 2 * 0 + _ ≤ _; exact Nat.le_of_eq rfl) (hb hby at_123) (fun _ _ => ⟨rfl, e153, (by decide : 5 + 0 ≤ _), (by decide : 12 + 0 ≤ _)⟩)
        dsimp only [Pt.U, Pt.locs, Pt.cells, Pt.slots] at X158 l158 y158 z158 st158 hQ158
        subst l158 y158 z158
        obtain ⟨rfl, Nq158, Kq158, P158_0, P158_1, P158_2⟩ := hQ158
        have N158 := Fr.app N120 Nq158
        have e158 : T158.heap = T158.heap := rfl
        have Z159 := Nat.le_trans Z156 Kq158.1
        have K160 : Keep h0 _ [] := K157.trans Kq158 (allS (P := fun x => x ∈ [] ∨ h0.size ≤ x) (Or.inr sz_b153) all0)
        refine own_tr st158 ?_
        show own_E p e below _ T158 (mkF m 126 #[iv p1, iv p2, iv p3, iv p4, iv p5, rv b1, rv b10, rv b94, iv 1, rv b94, .val (.null), iv 1, .unset, .unset, .unset] [.ref b153])
        refine own_st (fun t k => XS.astore X158.here hx rfl (hb hby at_126) rfl rfl (l' := #[iv p1, iv p2, iv p3, iv p4, iv p5, rv b1, rv b10, rv b94, iv 1, rv b94, .val (.null), iv 1, rv b153, .unset, .unset]) rfl k) ?_
        show own_E p e below _ T158 (mkF m 128 #[iv p1, iv p2, iv p3, iv p4, iv p5, rv b1, rv b10, rv b94, iv 1, rv b94, .val (.null), iv 1, rv b153, .unset, .unset] [])
        refine own_st (fun t k => XS.aload X158.here hx rfl (hb hby at_128) rfl rfl k) ?_
        show own_E p e below _ T158 (mkF m 130 #[iv p1, iv p2, iv p3, iv p4, iv p5, rv b1, rv b10, rv b94, iv 1, rv b94, .val (.null), iv 1, rv b153, .unset, .unset] [.ref b153])
        obtain ⟨cq161, kq161, q161a, q161b, q161c⟩ := isOf hZ e158 P158_0
        obtain ⟨_, _, ⟨T161, L161, k161, n161⟩, -, X161, ⟨Lc161, hQ161, l161, y161, z161⟩, st161⟩ := X158.virtualBack hx (y := own_y5) (z := own_y5) hown (mvT hZ (own_w hw 43 rfl)) (mvT hZ (own_w hw 44 rfl)) (notFace_of_selects (args := #[]) (mvT hZ (own_w hw 46 rfl))) (mvT hZ (own_w hw 46 rfl)) (mvT hZ (own_w hw 45 rfl)) (by decide) (backOf (W := 0) (own_bk10 l Z a0 hw [] b153 b94 T158.heap n0 Z159 P158_1 P158_2) hZ (own_w hw 47 rfl) (own_w hw 25 rfl) (by decide) (by decide)) q161a q161c (g := (mkF m 130 #[iv p1, iv p2, iv p3, iv p4, iv p5, rv b1, rv b10, rv b94, iv 1, rv b94, .val (.null), iv 1, rv b153, .unset, .unset] [.ref b153])) rfl (by rw [hml]; rfl) (Steps.refl _) (argsL := []) (rest := []) (lenOf own_pd_2 rfl) rfl (by show 2 * 0 + _ ≤ _; exact Nat.le_of_eq rfl) (hb hby at_130) (fun _ _ => ⟨rfl, e158, (by decide : 5 + 0 ≤ _), (by decide : 12 + 0 ≤ _)⟩)
        dsimp only [Pt.U, Pt.locs, Pt.cells, Pt.slots] at X161 l161 y161 z161 st161 hQ161
        subst l161 y161 z161
        obtain ⟨hR161, e161, rfl⟩ := hQ161
        have N161 := Fr.app N158 (Fr.nil n0)
        obtain rfl := hR161
        refine own_tr st161 ?_
        show own_E p e below _ T161 (mkF m 133 #[iv p1, iv p2, iv p3, iv p4, iv p5, rv b1, rv b10, rv b94, iv 1, rv b94, .val (.null), iv 1, rv b153, .unset, .unset] [.int 0])
        refine own_st (fun t k => XS.istore X161.here hx rfl (hb hby at_133) rfl (l' := #[iv p1, iv p2, iv p3, iv p4, iv p5, rv b1, rv b10, rv b94, iv 1, rv b94, .val (.null), iv 1, rv b153, iv 0, .unset]) rfl k) ?_
        show own_E p e below _ T161 (mkF m 135 #[iv p1, iv p2, iv p3, iv p4, iv p5, rv b1, rv b10, rv b94, iv 1, rv b94, .val (.null), iv 1, rv b153, iv 0, .unset] [])
        refine own_st (fun t k => XS.iload X161.here hx rfl (hb hby at_135) rfl k) ?_
        show own_E p e below _ T161 (mkF m 137 #[iv p1, iv p2, iv p3, iv p4, iv p5, rv b1, rv b10, rv b94, iv 1, rv b94, .val (.null), iv 1, rv b153, iv 0, .unset] [.int 1])
        refine own_st (fun t k => XS.iconst X161.here hx rfl (hb hby at_137) k) ?_
        show own_E p e below _ T161 (mkF m 138 #[iv p1, iv p2, iv p3, iv p4, iv p5, rv b1, rv b10, rv b94, iv 1, rv b94, .val (.null), iv 1, rv b153, iv 0, .unset] [.int 2, .int 1])
        refine own_st (fun t k => XS.icmpYes X161.here hx rfl (pc0 := 138) (pc' := 145) rfl (hb hby at_138) rfl (by decide) (by decide) (by decide) k) ?_
        show own_E p e below _ T161 (mkF m 145 #[iv p1, iv p2, iv p3, iv p4, iv p5, rv b1, rv b10, rv b94, iv 1, rv b94, .val (.null), iv 1, rv b153, iv 0, .unset] [])
        refine own_st (fun t k => XS.iconst X161.here hx rfl (hb hby at_145) k) ?_
        show own_E p e below _ T161 (mkF m 146 #[iv p1, iv p2, iv p3, iv p4, iv p5, rv b1, rv b10, rv b94, iv 1, rv b94, .val (.null), iv 1, rv b153, iv 0, .unset] [.int 0])
        refine own_st (fun t k => XS.istore X161.here hx rfl (hb hby at_146) rfl (l' := #[iv p1, iv p2, iv p3, iv p4, iv p5, rv b1, rv b10, rv b94, iv 1, rv b94, .val (.null), iv 1, rv b153, iv 0, iv 0]) rfl k) ?_
        show own_E p e below _ T161 (mkF m 148 #[iv p1, iv p2, iv p3, iv p4, iv p5, rv b1, rv b10, rv b94, iv 1, rv b94, .val (.null), iv 1, rv b153, iv 0, iv 0] [])
        refine own_st (fun t k => XS.iload X161.here hx rfl (hb hby at_148) rfl k) ?_
        show own_E p e below _ T161 (mkF m 150 #[iv p1, iv p2, iv p3, iv p4, iv p5, rv b1, rv b10, rv b94, iv 1, rv b94, .val (.null), iv 1, rv b153, iv 0, iv 0] [.int 0])
        refine own_st (fun t k => XS.iload X161.here hx rfl (hb hby at_150) rfl k) ?_
        show own_E p e below _ T161 (mkF m 152 #[iv p1, iv p2, iv p3, iv p4, iv p5, rv b1, rv b10, rv b94, iv 1, rv b94, .val (.null), iv 1, rv b153, iv 0, iv 0] [.int 0, .int 0])
        refine own_st (fun t k => XS.icmpYes X161.here hx rfl (pc0 := 152) (pc' := 157) rfl (hb hby at_152) rfl (by decide) (by decide) (by decide) k) ?_
        show own_E p e below _ T161 (mkF m 157 #[iv p1, iv p2, iv p3, iv p4, iv p5, rv b1, rv b10, rv b94, iv 1, rv b94, .val (.null), iv 1, rv b153, iv 0, iv 0] [])
        refine own_st (fun t k => XS.iload X161.here hx rfl (hb hby at_157) rfl k) ?_
        show own_E p e below _ T161 (mkF m 159 #[iv p1, iv p2, iv p3, iv p4, iv p5, rv b1, rv b10, rv b94, iv 1, rv b94, .val (.null), iv 1, rv b153, iv 0, iv 0] [.int 0])
        refine own_st (fun t k => XS.ifYes X161.here hx rfl (pc0 := 159) (pc' := 178) rfl (hb hby at_159) rfl (by decide) (by decide) (by decide) k) ?_
        show own_E p e below _ T161 (mkF m 178 #[iv p1, iv p2, iv p3, iv p4, iv p5, rv b1, rv b10, rv b94, iv 1, rv b94, .val (.null), iv 1, rv b153, iv 0, iv 0] [])
        refine own_st (fun t k => XS.iconst X161.here hx rfl (hb hby at_178) k) ?_
        show own_E p e below _ T161 (mkF m 179 #[iv p1, iv p2, iv p3, iv p4, iv p5, rv b1, rv b10, rv b94, iv 1, rv b94, .val (.null), iv 1, rv b153, iv 0, iv 0] [.int 1])
        refine own_retSW X161 (own_since s) (by rw [e161]; exact (Nat.zero_le _)) hx Bd.notSynchronized Bd.returns rfl (by decide) (hb hby at_179) (by decide) (by decide) ?_
        exact ⟨rfl, N161⟩
    · rw [hs123]
      show own_E p e below _ T120 (mkF m 70 #[iv p1, iv p2, iv p3, iv p4, iv p5, rv b1, rv b10, rv b94, iv 2, .unset, .unset, .unset, .unset, .unset, .unset] [])
      refine own_st (fun t k => XS.iload X120.here hx rfl (hb hby at_70) rfl k) ?_
      show own_E p e below _ T120 (mkF m 72 #[iv p1, iv p2, iv p3, iv p4, iv p5, rv b1, rv b10, rv b94, iv 2, .unset, .unset, .unset, .unset, .unset, .unset] [.int 2])
      refine own_st (fun t k => XS.iconst X120.here hx rfl (hb hby at_72) k) ?_
      show own_E p e below _ T120 (mkF m 73 #[iv p1, iv p2, iv p3, iv p4, iv p5, rv b1, rv b10, rv b94, iv 2, .unset, .unset, .unset, .unset, .unset, .unset] [.int 1, .int 2])
      refine own_st (fun t k => XS.icmpYes X120.here hx rfl (pc0 := 73) (pc' := 81) rfl (hb hby at_73) rfl (by decide) (by decide) (by decide) k) ?_
      show own_E p e below _ T120 (mkF m 81 #[iv p1, iv p2, iv p3, iv p4, iv p5, rv b1, rv b10, rv b94, iv 2, .unset, .unset, .unset, .unset, .unset, .unset] [])
      refine own_st (fun t k => XS.aconstNull X120.here hx rfl (hb hby at_81) k) ?_
      show own_E p e below _ T120 (mkF m 82 #[iv p1, iv p2, iv p3, iv p4, iv p5, rv b1, rv b10, rv b94, iv 2, .unset, .unset, .unset, .unset, .unset, .unset] [.null])
      refine own_st (fun t k => XS.astore X120.here hx rfl (hb hby at_82) rfl rfl (l' := #[iv p1, iv p2, iv p3, iv p4, iv p5, rv b1, rv b10, rv b94, iv 2, .val (.null), .unset, .unset, .unset, .unset, .unset]) rfl k) ?_
      show own_E p e below _ T120 (mkF m 84 #[iv p1, iv p2, iv p3, iv p4, iv p5, rv b1, rv b10, rv b94, iv 2, .val (.null), .unset, .unset, .unset, .unset, .unset] [])
      refine own_st (fun t k => XS.iload X120.here hx rfl (hb hby at_84) rfl k) ?_
      show own_E p e below _ T120 (mkF m 86 #[iv p1, iv p2, iv p3, iv p4, iv p5, rv b1, rv b10, rv b94, iv 2, .val (.null), .unset, .unset, .unset, .unset, .unset] [.int 2])
      refine own_st (fun t k => XS.iconst X120.here hx rfl (hb hby at_86) k) ?_
      show own_E p e below _ T120 (mkF m 87 #[iv p1, iv p2, iv p3, iv p4, iv p5, rv b1, rv b10, rv b94, iv 2, .val (.null), .unset, .unset, .unset, .unset, .unset] [.int 2, .int 2])
      refine own_st (fun t k => XS.icmpNo X120.here hx rfl (hb hby at_87) rfl (by decide) k) ?_
      show own_E p e below _ T120 (mkF m 90 #[iv p1, iv p2, iv p3, iv p4, iv p5, rv b1, rv b10, rv b94, iv 2, .val (.null), .unset, .unset, .unset, .unset, .unset] [])
      refine own_st (fun t k => XS.aload X120.here hx rfl (hb hby at_90) rfl rfl k) ?_
      show own_E p e below _ T120 (mkF m 92 #[iv p1, iv p2, iv p3, iv p4, iv p5, rv b1, rv b10, rv b94, iv 2, .val (.null), .unset, .unset, .unset, .unset, .unset] [.ref b94])
      refine own_st (fun t k => XS.goto X120.here hx rfl (pc0 := 92) (pc' := 96) rfl (hb hby at_92) (by decide) (by decide) k) ?_
      show own_E p e below _ T120 (mkF m 96 #[iv p1, iv p2, iv p3, iv p4, iv p5, rv b1, rv b10, rv b94, iv 2, .val (.null), .unset, .unset, .unset, .unset, .unset] [.ref b94])
      refine own_st (fun t k => XS.astore X120.here hx rfl (hb hby at_96) rfl rfl (l' := #[iv p1, iv p2, iv p3, iv p4, iv p5, rv b1, rv b10, rv b94, iv 2, .val (.null), rv b94, .unset, .unset, .unset, .unset]) rfl k) ?_
      show own_E p e below _ T120 (mkF m 98 #[iv p1, iv p2, iv p3, iv p4, iv p5, rv b1, rv b10, rv b94, iv 2, .val (.null), rv b94, .unset, .unset, .unset, .unset] [])
      refine own_st (fun t k => XS.iload X120.here hx rfl (hb hby at_98) rfl k) ?_
      show own_E p e below _ T120 (mkF m 100 #[iv p1, iv p2, iv p3, iv p4, iv p5, rv b1, rv b10, rv b94, iv 2, .val (.null), rv b94, .unset, .unset, .unset, .unset] [.int p5])
      refine own_st (fun t k => XS.iconst X120.here hx rfl (hb hby at_100) k) ?_
      show own_E p e below _ T120 (mkF m 101 #[iv p1, iv p2, iv p3, iv p4, iv p5, rv b1, rv b10, rv b94, iv 2, .val (.null), rv b94, .unset, .unset, .unset, .unset] [.int 1, .int p5])
      refine own_st (fun t k => XS.iand X120.here hx rfl (hb hby at_101) rfl k) ?_
      show own_E p e below _ T120 (mkF m 102 #[iv p1, iv p2, iv p3, iv p4, iv p5, rv b1, rv b10, rv b94, iv 2, .val (.null), rv b94, .unset, .unset, .unset, .unset] [.int (p5 &&& (1 : Int32))])
      by_cases hc162 : (p5 &&& (1 : Int32)) = (0 : Int32)
      · refine own_st (fun t k => XS.ifYes X120.here hx rfl (pc0 := 102) (pc' := 109) rfl (hb hby at_102) rfl ((if0 _ _).trans (teq hc162).1) (by decide) (by decide) k) ?_
        show own_E p e below _ T120 (mkF m 109 #[iv p1, iv p2, iv p3, iv p4, iv p5, rv b1, rv b10, rv b94, iv 2, .val (.null), rv b94, .unset, .unset, .unset, .unset] [])
        refine own_st (fun t k => XS.iconst X120.here hx rfl (hb hby at_109) k) ?_
        show own_E p e below _ T120 (mkF m 110 #[iv p1, iv p2, iv p3, iv p4, iv p5, rv b1, rv b10, rv b94, iv 2, .val (.null), rv b94, .unset, .unset, .unset, .unset] [.int 0])
        refine own_st (fun t k => XS.istore X120.here hx rfl (hb hby at_110) rfl (l' := #[iv p1, iv p2, iv p3, iv p4, iv p5, rv b1, rv b10, rv b94, iv 2, .val (.null), rv b94, iv 0, .unset, .unset, .unset]) rfl k) ?_
        show own_E p e below _ T120 (mkF m 112 #[iv p1, iv p2, iv p3, iv p4, iv p5, rv b1, rv b10, rv b94, iv 2, .val (.null), rv b94, iv 0, .unset, .unset, .unset] [])
        obtain ⟨T163, h163, X163, e163, E163, A163, D163, -, st163⟩ := newO X120 hx hZ hown (own_w hw 23 rfl) (own_w hw 24 rfl) (own_w hw 25 rfl) e120 (g := (mkF m 112 #[iv p1, iv p2, iv p3, iv p4, iv p5, rv b1, rv b10, rv b94, iv 2, .val (.null), rv b94, iv 0, .unset, .unset, .unset] [])) rfl (hb hby at_112) (by decide) (by decide)
        obtain ⟨b163, g163⟩ : ∃ z, z = T120.heap.size := ⟨_, rfl⟩
        rw [← g163] at A163 D163 st163
        have B164 := (B98.keep Kq120 (ninS ne_b1_b94 nin0))
        have ne_b1_b163 : b1 ≠ b163 := Nat.ne_of_lt (Nat.lt_of_lt_of_le B164.lt (Nat.le_of_eq g163.symm))
        have B165 := ((V10.ext E94).keep Kq120 (ninS ne_b10_b94 nin0))
        have ne_b10_b163 : b10 ≠ b163 := Nat.ne_of_lt (Nat.lt_of_lt_of_le B165.lt (Nat.le_of_eq g163.symm))
        have ne_b94_b163 : b94 ≠ b163 := Nat.ne_of_lt (Nat.lt_of_lt_of_le Ex120.lt (Nat.le_of_eq g163.symm))
        have g_b163 : n0 ≤ b163 := Nat.le_trans Z121 (Nat.le_of_eq g163.symm)
        have sz_b163 : h0.size ≤ b163 := Nat.le_trans K122.1 (Nat.le_of_eq g163.symm)
        have Z166 := Nat.le_trans Z121 E163.1
        have K167 : Keep h0 _ [] := K122.ext E163
        have F_limit_b163 : Fld Z h163 b163 "com/example/acquirer/acquirer/PageRequest" "limit" "I" (.int (0 : Int32)) := D163 (Or.inr (own_w hw 36 rfl)) (ty := .int) (by decide)
        have F_startingAfter_b163 : Fld Z h163 b163 "com/example/acquirer/acquirer/PageRequest" "startingAfter" "Ljava/lang/String;" .null := D163 (Or.inr (own_w hw 38 rfl)) (ty := (.object "java/lang/String")) (by decide)
        have F_endingBefore_b163 : Fld Z h163 b163 "com/example/acquirer/acquirer/PageRequest" "endingBefore" "Ljava/lang/String;" .null := D163 (Or.inr (own_w hw 40 rfl)) (ty := (.object "java/lang/String")) (by decide)
        have F_descending_b163 : Fld Z h163 b163 "com/example/acquirer/acquirer/PageRequest" "descending" "Z" (.int (0 : Int32)) := D163 (Or.inr (own_w hw 42 rfl)) (ty := .boolean) (by decide)
        refine own_st st163 ?_
        show own_E p e below _ T163 (mkF m 115 #[iv p1, iv p2, iv p3, iv p4, iv p5, rv b1, rv b10, rv b94, iv 2, .val (.null), rv b94, iv 0, .unset, .unset, .unset] [.ref b163])
        refine own_st (fun t k => XS.dup X163.here hx rfl (hb hby at_115) rfl rfl k) ?_
        show own_E p e below _ T163 (mkF m 116 #[iv p1, iv p2, iv p3, iv p4, iv p5, rv b1, rv b10, rv b94, iv 2, .val (.null), rv b94, iv 0, .unset, .unset, .unset] [.ref b163, .ref b163])
        refine own_st (fun t k => XS.iloadN X163.here hx rfl (hb hby at_116) rfl k) ?_
        show own_E p e below _ T163 (mkF m 117 #[iv p1, iv p2, iv p3, iv p4, iv p5, rv b1, rv b10, rv b94, iv 2, .val (.null), rv b94, iv 0, .unset, .unset, .unset] [.int p1, .ref b163, .ref b163])
        refine own_st (fun t k => XS.aload X163.here hx rfl (hb hby at_117) rfl rfl k) ?_
        show own_E p e below _ T163 (mkF m 119 #[iv p1, iv p2, iv p3, iv p4, iv p5, rv b1, rv b10, rv b94, iv 2, .val (.null), rv b94, iv 0, .unset, .unset, .unset] [.null, .int p1, .ref b163, .ref b163])
        refine own_st (fun t k => XS.aload X163.here hx rfl (hb hby at_119) rfl rfl k) ?_
        show own_E p e below _ T163 (mkF m 121 #[iv p1, iv p2, iv p3, iv p4, iv p5, rv b1, rv b10, rv b94, iv 2, .val (.null), rv b94, iv 0, .unset, .unset, .unset] [.ref b94, .null, .int p1, .ref b163, .ref b163])
        refine own_st (fun t k => XS.iload X163.here hx rfl (hb hby at_121) rfl k) ?_
        show own_E p e below _ T163 (mkF m 123 #[iv p1, iv p2, iv p3, iv p4, iv p5, rv b1, rv b10, rv b94, iv 2, .val (.null), rv b94, iv 0, .unset, .unset, .unset] [.int 0, .ref b94, .null, .int p1, .ref b163, .ref b163])
        obtain ⟨_, _, ⟨T168, L168, k168, n168⟩, -, X168, ⟨Lc168, hQ168, l168, y168, z168⟩, st168⟩ := X163.specialBack hx (y := own_y3) rfl hown (mvT hZ (own_w hw 26 rfl)) (mvT hZ (own_w hw 27 rfl)) (mvT hZ (own_w hw 28 rfl)) (by decide) (backOf (W := 1) (own_init010 l Z a0 hw [] b163 b94 p1 h163 n0 Z166 A163 F_limit_b163 F_startingAfter_b163 F_endingBefore_b163 F_descending_b163 g_b163) hZ (own_w hw 28 rfl) (own_w hw 25 rfl) (by decide) (by decide)) (g := (mkF m 123 #[iv p1, iv p2, iv p3, iv p4, iv p5, rv b1, rv b10, rv b94, iv 2, .val (.null), rv b94, iv 0, .unset, .unset, .unset] [.int 0, .ref b94, .null, .int p1, .ref b163, .ref b163])) rfl (by rw [hml]; rfl) (Steps.refl _) (a := b163) (argsL := [(.int p1), .null, (.ref b94), (.int (0 : Int32))]) (rest := [(.ref b163)]) (lenOf own_pd_4 rfl) rfl (by show 2 * 0 + _ ≤ _; exact Nat.le_of_eq rfl) (hb hby at_123) (fun _ _ => ⟨rfl, e163, (by decide : 5 + 0 ≤ _), (by decide : 12 + 0 ≤ _)⟩)
        dsimp only [Pt.U, Pt.locs, Pt.cells, Pt.slots] at X168 l168 y168 z168 st168 hQ168
        subst l168 y168 z168
        obtain ⟨rfl, Nq168, Kq168, P168_0, P168_1, P168_2⟩ := hQ168
        have N168 := Fr.app N120 Nq168
        have e168 : T168.heap = T168.heap := rfl
        have Z169 := Nat.le_trans Z166 Kq168.1
        have K170 : Keep h0 _ [] := K167.trans Kq168 (allS (P := fun x => x ∈ [] ∨ h0.size ≤ x) (Or.inr sz_b163) all0)
        refine own_tr st168 ?_
        show own_E p e below _ T168 (mkF m 126 #[iv p1, iv p2, iv p3, iv p4, iv p5, rv b1, rv b10, rv b94, iv 2, .val (.null), rv b94, iv 0, .unset, .unset, .unset] [.ref b163])
        refine own_st (fun t k => XS.astore X168.here hx rfl (hb hby at_126) rfl rfl (l' := #[iv p1, iv p2, iv p3, iv p4, iv p5, rv b1, rv b10, rv b94, iv 2, .val (.null), rv b94, iv 0, rv b163, .unset, .unset]) rfl k) ?_
        show own_E p e below _ T168 (mkF m 128 #[iv p1, iv p2, iv p3, iv p4, iv p5, rv b1, rv b10, rv b94, iv 2, .val (.null), rv b94, iv 0, rv b163, .unset, .unset] [])
        refine own_st (fun t k => XS.aload X168.here hx rfl (hb hby at_128) rfl rfl k) ?_
        show own_E p e below _ T168 (mkF m 130 #[iv p1, iv p2, iv p3, iv p4, iv p5, rv b1, rv b10, rv b94, iv 2, .val (.null), rv b94, iv 0, rv b163, .unset, .unset] [.ref b163])
        obtain ⟨cq171, kq171, q171a, q171b, q171c⟩ := isOf hZ e168 P168_0
        obtain ⟨_, _, ⟨T171, L171, k171, n171⟩, -, X171, ⟨Lc171, hQ171, l171, y171, z171⟩, st171⟩ := X168.virtualBack hx (y := own_y5) (z := own_y5) hown (mvT hZ (own_w hw 43 rfl)) (mvT hZ (own_w hw 44 rfl)) (notFace_of_selects (args := #[]) (mvT hZ (own_w hw 46 rfl))) (mvT hZ (own_w hw 46 rfl)) (mvT hZ (own_w hw 45 rfl)) (by decide) (backOf (W := 0) (own_bk01 l Z a0 hw [] b163 b94 T168.heap n0 Z169 P168_1 P168_2) hZ (own_w hw 47 rfl) (own_w hw 25 rfl) (by decide) (by decide)) q171a q171c (g := (mkF m 130 #[iv p1, iv p2, iv p3, iv p4, iv p5, rv b1, rv b10, rv b94, iv 2, .val (.null), rv b94, iv 0, rv b163, .unset, .unset] [.ref b163])) rfl (by rw [hml]; rfl) (Steps.refl _) (argsL := []) (rest := []) (lenOf own_pd_2 rfl) rfl (by show 2 * 0 + _ ≤ _; exact Nat.le_of_eq rfl) (hb hby at_130) (fun _ _ => ⟨rfl, e168, (by decide : 5 + 0 ≤ _), (by decide : 12 + 0 ≤ _)⟩)
        dsimp only [Pt.U, Pt.locs, Pt.cells, Pt.slots] at X171 l171 y171 z171 st171 hQ171
        subst l171 y171 z171
        obtain ⟨hR171, e171, rfl⟩ := hQ171
        have N171 := Fr.app N168 (Fr.nil n0)
        obtain rfl := hR171
        refine own_tr st171 ?_
        show own_E p e below _ T171 (mkF m 133 #[iv p1, iv p2, iv p3, iv p4, iv p5, rv b1, rv b10, rv b94, iv 2, .val (.null), rv b94, iv 0, rv b163, .unset, .unset] [.int 1])
        refine own_st (fun t k => XS.istore X171.here hx rfl (hb hby at_133) rfl (l' := #[iv p1, iv p2, iv p3, iv p4, iv p5, rv b1, rv b10, rv b94, iv 2, .val (.null), rv b94, iv 0, rv b163, iv 1, .unset]) rfl k) ?_
        show own_E p e below _ T171 (mkF m 135 #[iv p1, iv p2, iv p3, iv p4, iv p5, rv b1, rv b10, rv b94, iv 2, .val (.null), rv b94, iv 0, rv b163, iv 1, .unset] [])
        refine own_st (fun t k => XS.iload X171.here hx rfl (hb hby at_135) rfl k) ?_
        show own_E p e below _ T171 (mkF m 137 #[iv p1, iv p2, iv p3, iv p4, iv p5, rv b1, rv b10, rv b94, iv 2, .val (.null), rv b94, iv 0, rv b163, iv 1, .unset] [.int 2])
        refine own_st (fun t k => XS.iconst X171.here hx rfl (hb hby at_137) k) ?_
        show own_E p e below _ T171 (mkF m 138 #[iv p1, iv p2, iv p3, iv p4, iv p5, rv b1, rv b10, rv b94, iv 2, .val (.null), rv b94, iv 0, rv b163, iv 1, .unset] [.int 2, .int 2])
        refine own_st (fun t k => XS.icmpNo X171.here hx rfl (hb hby at_138) rfl (by decide) k) ?_
        show own_E p e below _ T171 (mkF m 141 #[iv p1, iv p2, iv p3, iv p4, iv p5, rv b1, rv b10, rv b94, iv 2, .val (.null), rv b94, iv 0, rv b163, iv 1, .unset] [])
        refine own_st (fun t k => XS.iconst X171.here hx rfl (hb hby at_141) k) ?_
        show own_E p e below _ T171 (mkF m 142 #[iv p1, iv p2, iv p3, iv p4, iv p5, rv b1, rv b10, rv b94, iv 2, .val (.null), rv b94, iv 0, rv b163, iv 1, .unset] [.int 1])
        refine own_st (fun t k => XS.goto X171.here hx rfl (pc0 := 142) (pc' := 146) rfl (hb hby at_142) (by decide) (by decide) k) ?_
        show own_E p e below _ T171 (mkF m 146 #[iv p1, iv p2, iv p3, iv p4, iv p5, rv b1, rv b10, rv b94, iv 2, .val (.null), rv b94, iv 0, rv b163, iv 1, .unset] [.int 1])
        refine own_st (fun t k => XS.istore X171.here hx rfl (hb hby at_146) rfl (l' := #[iv p1, iv p2, iv p3, iv p4, iv p5, rv b1, rv b10, rv b94, iv 2, .val (.null), rv b94, iv 0, rv b163, iv 1, iv 1]) rfl k) ?_
        show own_E p e below _ T171 (mkF m 148 #[iv p1, iv p2, iv p3, iv p4, iv p5, rv b1, rv b10, rv b94, iv 2, .val (.null), rv b94, iv 0, rv b163, iv 1, iv 1] [])
        refine own_st (fun t k => XS.iload X171.here hx rfl (hb hby at_148) rfl k) ?_
        show own_E p e below _ T171 (mkF m 150 #[iv p1, iv p2, iv p3, iv p4, iv p5, rv b1, rv b10, rv b94, iv 2, .val (.null), rv b94, iv 0, rv b163, iv 1, iv 1] [.int 1])
        refine own_st (fun t k => XS.iload X171.here hx rfl (hb hby at_150) rfl k) ?_
        show own_E p e below _ T171 (mkF m 152 #[iv p1, iv p2, iv p3, iv p4, iv p5, rv b1, rv b10, rv b94, iv 2, .val (.null), rv b94, iv 0, rv b163, iv 1, iv 1] [.int 1, .int 1])
        refine own_st (fun t k => XS.icmpYes X171.here hx rfl (pc0 := 152) (pc' := 157) rfl (hb hby at_152) rfl (by decide) (by decide) (by decide) k) ?_
        show own_E p e below _ T171 (mkF m 157 #[iv p1, iv p2, iv p3, iv p4, iv p5, rv b1, rv b10, rv b94, iv 2, .val (.null), rv b94, iv 0, rv b163, iv 1, iv 1] [])
        refine own_st (fun t k => XS.iload X171.here hx rfl (hb hby at_157) rfl k) ?_
        show own_E p e below _ T171 (mkF m 159 #[iv p1, iv p2, iv p3, iv p4, iv p5, rv b1, rv b10, rv b94, iv 2, .val (.null), rv b94, iv 0, rv b163, iv 1, iv 1] [.int 1])
        refine own_st (fun t k => XS.ifNo X171.here hx rfl (hb hby at_159) rfl (by decide) k) ?_
        show own_E p e below _ T171 (mkF m 162 #[iv p1, iv p2, iv p3, iv p4, iv p5, rv b1, rv b10, rv b94, iv 2, .val (.null), rv b94, iv 0, rv b163, iv 1, iv 1] [])
        refine own_st (fun t k => XS.aload X171.here hx rfl (hb hby at_162) rfl rfl k) ?_
        show own_E p e below _ T171 (mkF m 164 #[iv p1, iv p2, iv p3, iv p4, iv p5, rv b1, rv b10, rv b94, iv 2, .val (.null), rv b94, iv 0, rv b163, iv 1, iv 1] [.ref b163])
        obtain ⟨cq172, kq172, q172a, q172b, q172c⟩ := isOf hZ e171 P168_0
        obtain ⟨_, _, ⟨T172, L172, k172, n172⟩, -, X172, ⟨Lc172, hQ172, l172, y172, z172⟩, st172⟩ := X171.virtualBack hx (y := own_y4) (z := own_y4) hown (mvT hZ (own_w hw 59 rfl)) (mvT hZ (own_w hw 60 rfl)) (notFace_of_selects (args := #[]) (mvT hZ (own_w hw 62 rfl))) (mvT hZ (own_w hw 62 rfl)) (mvT hZ (own_w hw 61 rfl)) (by decide) (backOf (W := 0) (own_cur01 l Z a0 hw [] b163 b94 T168.heap n0 Z169 P168_1 P168_2) hZ (own_w hw 63 rfl) (own_w hw 25 rfl) (by decide) (by decide)) q172a q172c (g := (mkF m 164 #[iv p1, iv p2, iv p3, iv p4, iv p5, rv b1, rv b10, rv b94, iv 2, .val (.null), rv b94, iv 0, rv b163, iv 1, iv 1] [.ref b163])) rfl (by rw [hml]; rfl) (Steps.refl _) (argsL := []) (rest := []) (lenOf own_pd_0 rfl) rfl (by show 2 * 0 + _ ≤ _; exact Nat.le_of_eq rfl) (hb hby at_164) (fun _ _ => ⟨rfl, e171, (by decide : 5 + 0 ≤ _), (by decide : 12 + 0 ≤ _)⟩)
        dsimp only [Pt.U, Pt.locs, Pt.cells, Pt.slots] at X172 l172 y172 z172 st172 hQ172
        subst l172 y172 z172
        obtain ⟨hR172, e172, rfl⟩ := hQ172
        have N172 := Fr.app N171 (Fr.nil n0)
        obtain rfl := hR172
        refine own_tr st172 ?_
        show own_E p e below _ T172 (mkF m 167 #[iv p1, iv p2, iv p3, iv p4, iv p5, rv b1, rv b10, rv b94, iv 2, .val (.null), rv b94, iv 0, rv b163, iv 1, iv 1] [.ref b94])
        refine own_st (fun t k => XS.aload X172.here hx rfl (hb hby at_167) rfl rfl k) ?_
        show own_E p e below _ T172 (mkF m 169 #[iv p1, iv p2, iv p3, iv p4, iv p5, rv b1, rv b10, rv b94, iv 2, .val (.null), rv b94, iv 0, rv b163, iv 1, iv 1] [.ref b94, .ref b94])
        refine own_st (fun t k => Jvm.RoadKit.acmp (g := (mkF m 169 #[iv p1, iv p2, iv p3, iv p4, iv p5, rv b1, rv b10, rv b94, iv 2, .val (.null), rv b94, iv 0, rv b163, iv 1, iv 1] [.ref b94, .ref b94])) X172 hx rfl rfl rfl (pc0 := 169) (pc' := 172) (same := true) rfl (hb hby at_169) rfl (decide_eq_true rfl) (by decide) (by decide) k) ?_
        show own_E p e below _ T172 (mkF m 172 #[iv p1, iv p2, iv p3, iv p4, iv p5, rv b1, rv b10, rv b94, iv 2, .val (.null), rv b94, iv 0, rv b163, iv 1, iv 1] [])
        refine own_st (fun t k => XS.iconst X172.here hx rfl (hb hby at_172) k) ?_
        show own_E p e below _ T172 (mkF m 173 #[iv p1, iv p2, iv p3, iv p4, iv p5, rv b1, rv b10, rv b94, iv 2, .val (.null), rv b94, iv 0, rv b163, iv 1, iv 1] [.int 1])
        refine own_st (fun t k => XS.goto X172.here hx rfl (pc0 := 173) (pc' := 177) rfl (hb hby at_173) (by decide) (by decide) k) ?_
        show own_E p e below _ T172 (mkF m 177 #[iv p1, iv p2, iv p3, iv p4, iv p5, rv b1, rv b10, rv b94, iv 2, .val (.null), rv b94, iv 0, rv b163, iv 1, iv 1] [.int 1])
        refine own_retSW X172 (own_since s) (by rw [e172]; exact (Nat.zero_le _)) hx Bd.notSynchronized Bd.returns rfl (by decide) (hb hby at_177) (by decide) (by decide) ?_
        exact ⟨rfl, N172⟩
      · refine own_st (fun t k => XS.ifNo X120.here hx rfl (hb hby at_102) rfl ((if0 _ _).trans (feq hc162).1) k) ?_
        show own_E p e below _ T120 (mkF m 105 #[iv p1, iv p2, iv p3, iv p4, iv p5, rv b1, rv b10, rv b94, iv 2, .val (.null), rv b94, .unset, .unset, .unset, .unset] [])
        refine own_st (fun t k => XS.iconst X120.here hx rfl (hb hby at_105) k) ?_
        show own_E p e below _ T120 (mkF m 106 #[iv p1, iv p2, iv p3, iv p4, iv p5, rv b1, rv b10, rv b94, iv 2, .val (.null), rv b94, .unset, .unset, .unset, .unset] [.int 1])
        refine own_st (fun t k => XS.goto X120.here hx rfl (pc0 := 106) (pc' := 110) rfl (hb hby at_106) (by decide) (by decide) k) ?_
        show own_E p e below _ T120 (mkF m 110 #[iv p1, iv p2, iv p3, iv p4, iv p5, rv b1, rv b10, rv b94, iv 2, .val (.null), rv b94, .unset, .unset, .unset, .unset] [.int 1])
        refine own_st (fun t k => XS.istore X120.here hx rfl (hb hby at_110) rfl (l' := #[iv p1, iv p2, iv p3, iv p4, iv p5, rv b1, rv b10, rv b94, iv 2, .val (.null), rv b94, iv 1, .unset, .unset, .unset]) rfl k) ?_
        show own_E p e below _ T120 (mkF m 112 #[iv p1, iv p2, iv p3, iv p4, iv p5, rv b1, rv b10, rv b94, iv 2, .val (.null), rv b94, iv 1, .unset, .unset, .unset] [])
        obtain ⟨T173, h173, X173, e173, E173, A173, D173, -, st173⟩ := newO X120 hx hZ hown (own_w hw 23 rfl) (own_w hw 24 rfl) (own_w hw 25 rfl) e120 (g := (mkF m 112 #[iv p1, iv p2, iv p3, iv p4, iv p5, rv b1, rv b10, rv b94, iv 2, .val (.null), rv b94, iv 1, .unset, .unset, .unset] [])) rfl (hb hby at_112) (by decide) (by decide)
        obtain ⟨b173, g173⟩ : ∃ z, z = T120.heap.size := ⟨_, rfl⟩
        rw [← g173] at A173 D173 st173
        have B174 := (B98.keep Kq120 (ninS ne_b1_b94 nin0))
        have ne_b1_b173 : b1 ≠ b173 := Nat.ne_of_lt (Nat.lt_of_lt_of_le B174.lt (Nat.le_of_eq g173.symm))
        have B175 := ((V10.ext E94).keep Kq120 (ninS ne_b10_b94 nin0))
        have ne_b10_b173 : b10 ≠ b173 := Nat.ne_of_lt (Nat.lt_of_lt_of_le B175.lt (Nat.le_of_eq g173.symm))
        have ne_b94_b173 : b94 ≠ b173 := Nat.ne_of_lt (Nat.lt_of_lt_of_le Ex120.lt (Nat.le_of_eq g173.symm))
        have g_b173 : n0 ≤ b173 := Nat.le_trans Z121 (Nat.le_of_eq g173.symm)
        have sz_b173 : h0.size ≤ b173 := Nat.le_trans K122.1 (Nat.le_of_eq g173.symm)
        have Z176 := Nat.le_trans Z121 E173.1
        have K177 : Keep h0 _ [] := K122.ext E173
        have F_limit_b173 : Fld Z h173 b173 "com/example/acquirer/acquirer/PageRequest" "limit" "I" (.int (0 : Int32)) := D173 (Or.inr (own_w hw 36 rfl)) (ty := .int) (by decide)
        have F_startingAfter_b173 : Fld Z h173 b173 "com/example/acquirer/acquirer/PageRequest" "startingAfter" "Ljava/lang/String;" .null := D173 (Or.inr (own_w hw 38 rfl)) (ty := (.object "java/lang/String")) (by decide)
        have F_endingBefore_b173 : Fld Z h173 b173 "com/example/acquirer/acquirer/PageRequest" "endingBefore" "Ljava/lang/String;" .null := D173 (Or.inr (own_w hw 40 rfl)) (ty := (.object "java/lang/String")) (by decide)
        have F_descending_b173 : Fld Z h173 b173 "com/example/acquirer/acquirer/PageRequest" "descending" "Z" (.int (0 : Int32)) := D173 (Or.inr (own_w hw 42 rfl)) (ty := .boolean) (by decide)
        refine own_st st173 ?_
        show own_E p e below _ T173 (mkF m 115 #[iv p1, iv p2, iv p3, iv p4, iv p5, rv b1, rv b10, rv b94, iv 2, .val (.null), rv b94, iv 1, .unset, .unset, .unset] [.ref b173])
        refine own_st (fun t k => XS.dup X173.here hx rfl (hb hby at_115) rfl rfl k) ?_
        show own_E p e below _ T173 (mkF m 116 #[iv p1, iv p2, iv p3, iv p4, iv p5, rv b1, rv b10, rv b94, iv 2, .val (.null), rv b94, iv 1, .unset, .unset, .unset] [.ref b173, .ref b173])
        refine own_st (fun t k => XS.iloadN X173.here hx rfl (hb hby at_116) rfl k) ?_
        show own_E p e below _ T173 (mkF m 117 #[iv p1, iv p2, iv p3, iv p4, iv p5, rv b1, rv b10, rv b94, iv 2, .val (.null), rv b94, iv 1, .unset, .unset, .unset] [.int p1, .ref b173, .ref b173])
        refine own_st (fun t k => XS.aload X173.here hx rfl (hb hby at_117) rfl rfl k) ?_
        show own_E p e below _ T173 (mkF m 119 #[iv p1, iv p2, iv p3, iv p4, iv p5, rv b1, rv b10, rv b94, iv 2, .val (.null), rv b94, iv 1, .unset, .unset, .unset] [.null, .int p1, .ref b173, .ref b173])
        refine own_st (fun t k => XS.aload X173.here hx rfl (hb hby at_119) rfl rfl k) ?_
        show own_E p e below _ T173 (mkF m 121 #[iv p1, iv p2, iv p3, iv p4, iv p5, rv b1, rv b10, rv b94, iv 2, .val (.null), rv b94, iv 1, .unset, .unset, .unset] [.ref b94, .null, .int p1, .ref b173, .ref b173])
        refine own_st (fun t k => XS.iload X173.here hx rfl (hb hby at_121) rfl k) ?_
        show own_E p e below _ T173 (mkF m 123 #[iv p1, iv p2, iv p3, iv p4, iv p5, rv b1, rv b10, rv b94, iv 2, .val (.null), rv b94, iv 1, .unset, .unset, .unset] [.int 1, .ref b94, .null, .int p1, .ref b173, .ref b173])
        obtain ⟨_, _, ⟨T178, L178, k178, n178⟩, -, X178, ⟨Lc178, hQ178, l178, y178, z178⟩, st178⟩ := X173.specialBack hx (y := own_y3) rfl hown (mvT hZ (own_w hw 26 rfl)) (mvT hZ (own_w hw 27 rfl)) (mvT hZ (own_w hw 28 rfl)) (by decide) (backOf (W := 1) (own_init011 l Z a0 hw [] b173 b94 p1 h173 n0 Z176 A173 F_limit_b173 F_startingAfter_b173 F_endingBefore_b173 F_descending_b173 g_b173) hZ (own_w hw 28 rfl) (own_w hw 25 rfl) (by decide) (by decide)) (g := (mkF m 123 #[iv p1, iv p2, iv p3, iv p4, iv p5, rv b1, rv b10, rv b94, iv 2, .val (.null), rv b94, iv 1, .unset, .unset, .unset] [.int 1, .ref b94, .null, .int p1, .ref b173, .ref b173])) rfl (by rw [hml]; rfl) (Steps.refl _) (a := b173) (argsL := [(.int p1), .null, (.ref b94), (.int (1 : Int32))]) (rest := [(.ref b173)]) (lenOf own_pd_4 rfl) rfl (by show 2 * 0 + _ ≤ _; exact Nat.le_of_eq rfl) (hb hby at_123) (fun _ _ => ⟨rfl, e173, (by decide : 5 + 0 ≤ _), (by decide : 12 + 0 ≤ _)⟩)
        dsimp only [Pt.U, Pt.locs, Pt.cells, Pt.slots] at X178 l178 y178 z178 st178 hQ178
        subst l178 y178 z178
        obtain ⟨rfl, Nq178, Kq178, P178_0, P178_1, P178_2⟩ := hQ178
        have N178 := Fr.app N120 Nq178
        have e178 : T178.heap = T178.heap := rfl
        have Z179 := Nat.le_trans Z176 Kq178.1
        have K180 : Keep h0 _ [] := K177.trans Kq178 (allS (P := fun x => x ∈ [] ∨ h0.size ≤ x) (Or.inr sz_b173) all0)
        refine own_tr st178 ?_
        show own_E p e below _ T178 (mkF m 126 #[iv p1, iv p2, iv p3, iv p4, iv p5, rv b1, rv b10, rv b94, iv 2, .val (.null), rv b94, iv 1, .unset, .unset, .unset] [.ref b173])
        refine own_st (fun t k => XS.astore X178.here hx rfl (hb hby at_126) rfl rfl (l' := #[iv p1, iv p2, iv p3, iv p4, iv p5, rv b1, rv b10, rv b94, iv 2, .val (.null), rv b94, iv 1, rv b173, .unset, .unset]) rfl k) ?_
        show own_E p e below _ T178 (mkF m 128 #[iv p1, iv p2, iv p3, iv p4, iv p5, rv b1, rv b10, rv b94, iv 2, .val (.null), rv b94, iv 1, rv b173, .unset, .unset] [])
        refine own_st (fun t k => XS.aload X178.here hx rfl (hb hby at_128) rfl rfl k) ?_
        show own_E p e below _ T178 (mkF m 130 #[iv p1, iv p2, iv p3, iv p4, iv p5, rv b1, rv b10, rv b94, iv 2, .val (.null), rv b94, iv 1, rv b173, .unset, .unset] [.ref b173])
        obtain ⟨cq181, kq181, q181a, q181b, q181c⟩ := isOf hZ e178 P178_0
        obtain ⟨_, _, ⟨T181, L181, k181, n181⟩, -, X181, ⟨Lc181, hQ181, l181, y181, z181⟩, st181⟩ := X178.virtualBack hx (y := own_y5) (z := own_y5) hown (mvT hZ (own_w hw 43 rfl)) (mvT hZ (own_w hw 44 rfl)) (notFace_of_selects (args := #[]) (mvT hZ (own_w hw 46 rfl))) (mvT hZ (own_w hw 46 rfl)) (mvT hZ (own_w hw 45 rfl)) (by decide) (backOf (W := 0) (own_bk01 l Z a0 hw [] b173 b94 T178.heap n0 Z179 P178_1 P178_2) hZ (own_w hw 47 rfl) (own_w hw 25 rfl) (by decide) (by decide)) q181a q181c (g := (mkF m 130 #[iv p1, iv p2, iv p3, iv p4, iv p5, rv b1, rv b10, rv b94, iv 2, .val (.null), rv b94, iv 1, rv b173, .unset, .unset] [.ref b173])) rfl (by rw [hml]; rfl) (Steps.refl _) (argsL := []) (rest := []) (lenOf own_pd_2 rfl) rfl (by show 2 * 0 + _ ≤ _; exact Nat.le_of_eq rfl) (hb hby at_130) (fun _ _ => ⟨rfl, e178, (by decide : 5 + 0 ≤ _), (by decide : 12 + 0 ≤ _)⟩)
        dsimp only [Pt.U, Pt.locs, Pt.cells, Pt.slots] at X181 l181 y181 z181 st181 hQ181
        subst l181 y181 z181
        obtain ⟨hR181, e181, rfl⟩ := hQ181
        have N181 := Fr.app N178 (Fr.nil n0)
        obtain rfl := hR181
        refine own_tr st181 ?_
        show own_E p e below _ T181 (mkF m 133 #[iv p1, iv p2, iv p3, iv p4, iv p5, rv b1, rv b10, rv b94, iv 2, .val (.null), rv b94, iv 1, rv b173, .unset, .unset] [.int 1])
        refine own_st (fun t k => XS.istore X181.here hx rfl (hb hby at_133) rfl (l' := #[iv p1, iv p2, iv p3, iv p4, iv p5, rv b1, rv b10, rv b94, iv 2, .val (.null), rv b94, iv 1, rv b173, iv 1, .unset]) rfl k) ?_
        show own_E p e below _ T181 (mkF m 135 #[iv p1, iv p2, iv p3, iv p4, iv p5, rv b1, rv b10, rv b94, iv 2, .val (.null), rv b94, iv 1, rv b173, iv 1, .unset] [])
        refine own_st (fun t k => XS.iload X181.here hx rfl (hb hby at_135) rfl k) ?_
        show own_E p e below _ T181 (mkF m 137 #[iv p1, iv p2, iv p3, iv p4, iv p5, rv b1, rv b10, rv b94, iv 2, .val (.null), rv b94, iv 1, rv b173, iv 1, .unset] [.int 2])
        refine own_st (fun t k => XS.iconst X181.here hx rfl (hb hby at_137) k) ?_
        show own_E p e below _ T181 (mkF m 138 #[iv p1, iv p2, iv p3, iv p4, iv p5, rv b1, rv b10, rv b94, iv 2, .val (.null), rv b94, iv 1, rv b173, iv 1, .unset] [.int 2, .int 2])
        refine own_st (fun t k => XS.icmpNo X181.here hx rfl (hb hby at_138) rfl (by decide) k) ?_
        show own_E p e below _ T181 (mkF m 141 #[iv p1, iv p2, iv p3, iv p4, iv p5, rv b1, rv b10, rv b94, iv 2, .val (.null), rv b94, iv 1, rv b173, iv 1, .unset] [])
        refine own_st (fun t k => XS.iconst X181.here hx rfl (hb hby at_141) k) ?_
        show own_E p e below _ T181 (mkF m 142 #[iv p1, iv p2, iv p3, iv p4, iv p5, rv b1, rv b10, rv b94, iv 2, .val (.null), rv b94, iv 1, rv b173, iv 1, .unset] [.int 1])
        refine own_st (fun t k => XS.goto X181.here hx rfl (pc0 := 142) (pc' := 146) rfl (hb hby at_142) (by decide) (by decide) k) ?_
        show own_E p e below _ T181 (mkF m 146 #[iv p1, iv p2, iv p3, iv p4, iv p5, rv b1, rv b10, rv b94, iv 2, .val (.null), rv b94, iv 1, rv b173, iv 1, .unset] [.int 1])
        refine own_st (fun t k => XS.istore X181.here hx rfl (hb hby at_146) rfl (l' := #[iv p1, iv p2, iv p3, iv p4, iv p5, rv b1, rv b10, rv b94, iv 2, .val (.null), rv b94, iv 1, rv b173, iv 1, iv 1]) rfl k) ?_
        show own_E p e below _ T181 (mkF m 148 #[iv p1, iv p2, iv p3, iv p4, iv p5, rv b1, rv b10, rv b94, iv 2, .val (.null), rv b94, iv 1, rv b173, iv 1, iv 1] [])
        refine own_st (fun t k => XS.iload X181.here hx rfl (hb hby at_148) rfl k) ?_
        show own_E p e below _ T181 (mkF m 150 #[iv p1, iv p2, iv p3, iv p4, iv p5, rv b1, rv b10, rv b94, iv 2, .val (.null), rv b94, iv 1, rv b173, iv 1, iv 1] [.int 1])
        refine own_st (fun t k => XS.iload X181.here hx rfl (hb hby at_150) rfl k) ?_
        show own_E p e below _ T181 (mkF m 152 #[iv p1, iv p2, iv p3, iv p4, iv p5, rv b1, rv b10, rv b94, iv 2, .val (.null), rv b94, iv 1, rv b173, iv 1, iv 1] [.int 1, .int 1])
        refine own_st (fun t k => XS.icmpYes X181.here hx rfl (pc0 := 152) (pc' := 157) rfl (hb hby at_152) rfl (by decide) (by decide) (by decide) k) ?_
        show own_E p e below _ T181 (mkF m 157 #[iv p1, iv p2, iv p3, iv p4, iv p5, rv b1, rv b10, rv b94, iv 2, .val (.null), rv b94, iv 1, rv b173, iv 1, iv 1] [])
        refine own_st (fun t k => XS.iload X181.here hx rfl (hb hby at_157) rfl k) ?_
        show own_E p e below _ T181 (mkF m 159 #[iv p1, iv p2, iv p3, iv p4, iv p5, rv b1, rv b10, rv b94, iv 2, .val (.null), rv b94, iv 1, rv b173, iv 1, iv 1] [.int 1])
        refine own_st (fun t k => XS.ifNo X181.here hx rfl (hb hby at_159) rfl (by decide) k) ?_
        show own_E p e below _ T181 (mkF m 162 #[iv p1, iv p2, iv p3, iv p4, iv p5, rv b1, rv b10, rv b94, iv 2, .val (.null), rv b94, iv 1, rv b173, iv 1, iv 1] [])
        refine own_st (fun t k => XS.aload X181.here hx rfl (hb hby at_162) rfl rfl k) ?_
        show own_E p e below _ T181 (mkF m 164 #[iv p1, iv p2, iv p3, iv p4, iv p5, rv b1, rv b10, rv b94, iv 2, .val (.null), rv b94, iv 1, rv b173, iv 1, iv 1] [.ref b173])
        obtain ⟨cq182, kq182, q182a, q182b, q182c⟩ := isOf hZ e181 P178_0
        obtain ⟨_, _, ⟨T182, L182, k182, n182⟩, -, X182, ⟨Lc182, hQ182, l182, y182, z182⟩, st182⟩ := X181.virtualBack hx (y := own_y4) (z := own_y4) hown (mvT hZ (own_w hw 59 rfl)) (mvT hZ (own_w hw 60 rfl)) (notFace_of_selects (args := #[]) (mvT hZ (own_w hw 62 rfl))) (mvT hZ (own_w hw 62 rfl)) (mvT hZ (own_w hw 61 rfl)) (by decide) (backOf (W := 0) (own_cur01 l Z a0 hw [] b173 b94 T178.heap n0 Z179 P178_1 P178_2) hZ (own_w hw 63 rfl) (own_w hw 25 rfl) (by decide) (by decide)) q182a q182c (g := (mkF m 164 #[iv p1, iv p2, iv p3, iv p4, iv p5, rv b1, rv b10, rv b94, iv 2, .val (.null), rv b94, iv 1, rv b173, iv 1, iv 1] [.ref b173])) rfl (by rw [hml]; rfl) (Steps.refl _) (argsL := []) (rest := []) (lenOf own_pd_0 rfl) rfl (by show 2 * 0 + _ ≤ _; exact Nat.le_of_eq rfl) (hb hby at_164) (fun _ _ => ⟨rfl, e181, (by decide : 5 + 0 ≤ _), (by decide : 12 + 0 ≤ _)⟩)
        dsimp only [Pt.U, Pt.locs, Pt.cells, Pt.slots] at X182 l182 y182 z182 st182 hQ182
        subst l182 y182 z182
        obtain ⟨hR182, e182, rfl⟩ := hQ182
        have N182 := Fr.app N181 (Fr.nil n0)
        obtain rfl := hR182
        refine own_tr st182 ?_
        show own_E p e below _ T182 (mkF m 167 #[iv p1, iv p2, iv p3, iv p4, iv p5, rv b1, rv b10, rv b94, iv 2, .val (.null), rv b94, iv 1, rv b173, iv 1, iv 1] [.ref b94])
        refine own_st (fun t k => XS.aload X182.here hx rfl (hb hby at_167) rfl rfl k) ?_
        show own_E p e below _ T182 (mkF m 169 #[iv p1, iv p2, iv p3, iv p4, iv p5, rv b1, rv b10, rv b94, iv 2, .val (.null), rv b94, iv 1, rv b173, iv 1, iv 1] [.ref b94, .ref b94])
        refine own_st (fun t k => Jvm.RoadKit.acmp (g := (mkF m 169 #[iv p1, iv p2, iv p3, iv p4, iv p5, rv b1, rv b10, rv b94, iv 2, .val (.null), rv b94, iv 1, rv b173, iv 1, iv 1] [.ref b94, .ref b94])) X182 hx rfl rfl rfl (pc0 := 169) (pc' := 172) (same := true) rfl (hb hby at_169) rfl (decide_eq_true rfl) (by decide) (by decide) k) ?_
        show own_E p e below _ T182 (mkF m 172 #[iv p1, iv p2, iv p3, iv p4, iv p5, rv b1, rv b10, rv b94, iv 2, .val (.null), rv b94, iv 1, rv b173, iv 1, iv 1] [])
        refine own_st (fun t k => XS.iconst X182.here hx rfl (hb hby at_172) k) ?_
        show own_E p e below _ T182 (mkF m 173 #[iv p1, iv p2, iv p3, iv p4, iv p5, rv b1, rv b10, rv b94, iv 2, .val (.null), rv b94, iv 1, rv b173, iv 1, iv 1] [.int 1])
        refine own_st (fun t k => XS.goto X182.here hx rfl (pc0 := 173) (pc' := 177) rfl (hb hby at_173) (by decide) (by decide) k) ?_
        show own_E p e below _ T182 (mkF m 177 #[iv p1, iv p2, iv p3, iv p4, iv p5, rv b1, rv b10, rv b94, iv 2, .val (.null), rv b94, iv 1, rv b173, iv 1, iv 1] [.int 1])
        refine own_retSW X182 (own_since s) (by rw [e182]; exact (Nat.zero_le _)) hx Bd.notSynchronized Bd.returns rfl (by decide) (hb hby at_177) (by decide) (by decide) ?_
        exact ⟨rfl, N182⟩
set_option maxRecDepth 65536 in
set_option maxHeartbeats 40000000 in
theorem comes_1 {Post : Tables → Env → Array Value → State → Outcome → State → Prop} (hpost : ∀ tb e args s v u, (limb_1_1.after args s (.returned v) u = true ∧ limb_1_2.after args s (.returned v) u = true ∧ True) → Jvm.ReturnedEndW s (.returned v) u (Jvm.fieldLocs frame_1_writes args s ++ Jvm.arrayLocs frame_1_arrays args s ++ Jvm.staticLocs frame_1_statics s) 24 1152 → Post tb e args s (.returned v) u) :
    ArmFor flags0 classFile x code maxLocals ret World_1 tables_1 room_1 Calls_1 rest_1 Pre_1 Post := by
  intro l hfl _ _ p e ha hc hk s m args below hf hA hF happ hP
  obtain ⟨hcalls, hrest, hpre⟩ := hP
  obtain ⟨-, -, -, hnamed, -, -, -, hat⟩ := (Spec.applies_iff hf).mp happ
  obtain ⟨hg, hn⟩ := and_e (Cond.before_iff.mp (show (Jvm.Cond.and given_1 narrow_1).before args s = true from hpre))
  obtain ⟨hg0, hg1⟩ := and_e hg
  obtain ⟨hv0, hg2⟩ := and_e hg1
  obtain ⟨hv1, hg3⟩ := and_e hg2
  obtain ⟨hv2, hg4⟩ := and_e hg3
  obtain ⟨hv3, hg5⟩ := and_e hg4
  have hv4 := hg5
  obtain ⟨w0, w1, w2, w3, w4, rfl⟩ : ∃ w0 w1 w2 w3 w4 : Value, args = #[w0, w1, w2, w3, w4] := by
    have hs : args.size = 5 := by simpa [Cond.value, given_1] using hg0
    obtain ⟨L⟩ := args
    match L, hs with
    | [w0, w1, w2, w3, w4], _ => exact ⟨w0, w1, w2, w3, w4, rfl⟩
  have hw := fun d (hd : d ∈ tables_1) => atoms_spec (ws := Jvm.Cond.code x code maxLocals ret :: tables_1) hat d (List.mem_cons_of_mem _ hd)
  have hfit : Fit s := fun {y c} hc i hi => by
    obtain ⟨ha, rfl⟩ := Array.getElem?_eq_some_iff.mp hc
    have q := List.all_eq_true.mp ((Array.all_eq_true_iff_forall_mem.mp hF) _ (Array.getElem_mem ha)) i (List.mem_range.mpr hi)
    simpa [Array.getElem?_eq_getElem hi] using q
  obtain ⟨i0, ev0⟩ := is_v hv0
  obtain rfl : w0 = (.int i0) := Option.some.inj ev0
  obtain ⟨i1, ev1⟩ := is_v hv1
  obtain rfl : w1 = (.int i1) := Option.some.inj ev1
  obtain ⟨i2, ev2⟩ := is_v hv2
  obtain rfl : w2 = (.int i2) := Option.some.inj ev2
  obtain ⟨i3, ev3⟩ := is_v hv3
  obtain rfl : w3 = (.int i3) := Option.some.inj ev3
  obtain ⟨i4, ev4⟩ := is_v hv4
  obtain rfl : w4 = (.int i4) := Option.some.inj ev4
  have hsets := (atoms_of jdkStatics_1 (own := restOwn_1) (by rw [← rest_1_c_eq]; exact hrest)).1
  obtain ⟨zc, evc⟩ := is_v (Cond.before_iff.mp (hsets _ (List.mem_of_getElem? (i := 1) rfl)))
  have SC := Sta.start evc (Or.inl (hsets _ (List.mem_of_getElem? (i := 0) rfl)))
  have hzc : ¬ zc = 0 := fun h => by
    subst h
    have q := not_v (Cond.before_iff.mp (hsets _ (List.mem_of_getElem? (i := 2) rfl)))
    rw [eq_i evc (Term.int_eval 0) rfl] at q
    cases q
  have hheld : Jvm.Lit.constHeld s "java/lang/String" 7 := hcalls.1 ("java/lang/String", 7) (by simp [consts_1])
  have hO : Ext s.heap s.heap := ⟨Nat.le_refl _, fun _ _ q => q⟩
  have hcw := hsets _ (List.mem_of_getElem? (i := 2) rfl)
  obtain ⟨n, o, h1, h2, h3, _, L, rfl, ⟨rfl, N⟩, hq⟩ := own_law l s _ hw tables_1 zc i0 i1 i2 i3 i4 s.heap s.heap.size (Nat.le_refl _) hO hheld hcw SC hzc p e ha hc hk s m _ below hf ((Spec.applies_iff_loose hf).mp happ).1 ⟨rfl, State.Warmed39.refl s, IB.start, rfl⟩ trivial
  refine ⟨n, _, h1, h2, h3, hpost _ _ _ _ _ _ ⟨Cond.after_iff.mpr rfl, Cond.after_iff.mpr (eq_i res_at (Term.int_eval (1)) rfl), trivial⟩ ⟨hq.1, hq.2.1, hq.2.2.1, (hq.2.2.2.sift fun y hy => Or.inr (N y hy)).mono (by decide) (by decide)⟩⟩
theorem main_1_1 : Claimed_1_1 := comes_1 fun _ _ _ _ _ _ h hF => ⟨h.1, hF⟩
theorem main_1_2 : Claimed_1_2 := comes_1 fun _ _ _ _ _ _ h hF => ⟨h.2.1, hF⟩
end Jvm.Pilot.@@N@@
namespace Jvm.Pilot.@@N@@
open Jvm Jvm.ClassFile Sem Op Lib Jvm.Free Jvm.Stand Jvm.Pilot.@@N@@.Jvm.D
/-! MADE BY PROGRAM (witnessworld.py) out of the Statement's table words and the real class files: 21 classes; the members and pool entries that the words name. The judged class is class 1, her method 1. -/
namespace start1
open Jvm.ClassFile
def u (s : String) : CpInfo := .utf8 (stringToUtf16 s)
/-- a pool by its gaps: so many unusable entries, then the entry; so many at the end -/
def gap : Nat → List CpInfo → List CpInfo
  | 0, r => r
  | n + 1, r => .unusable :: gap n r
def poolList (es : List (Nat × CpInfo)) (last : Nat) : List CpInfo := es.foldr (fun e r => gap e.1 (e.2 :: r)) (gap last [])
def pool (es : List (Nat × CpInfo)) (last : Nat) : Array CpInfo := ⟨poolList es last⟩
def fileOf (pool : Array CpInfo) (this : Nat) (attrs : Array Attribute := #[]) (ms : Array MethodInfo := #[]) (fl : Nat := 33) (sup : Nat := 0) (ifs : Array Nat := #[]) (fds : Array FieldInfo := #[]) : ClassFile where
  minorVersion := 0
  majorVersion := 65
  constantPool := pool
  accessFlags := fl
  thisClass := this
  superClass := sup
  interfaces := ifs
  fields := fds
  methods := ms
  attributes := attrs
def plain (name : String) (sup : Option ClassId) : Class where
  name := name
  kind := .ordinary
  loader := none
  accessFlags := 33
  super := sup
  interfaces := #[]
  cf := none
  fields := #[]
  methods := #[]
  instanceTypes := #[]
  staticTypes := #[]
  resolved := #[]
  callSites := []
  init := .initialized
  statics := none
  mirror := none

def pool0 : Array CpInfo := pool [(5, u "<init>"), (0, u "()V"), (1, .class_ 10), (1, u "java/lang/Object")] 113

def k0c0 : Code := { maxStack := 0, maxLocals := 1, code := object_method_1_code, exceptionTable := #[], attributes := #[] }
def k0m0 : Method := { name := "<init>", desc := "()V", sig := { parameters := [], returnType := none }, accessFlags := 1, code := some k0c0 }
/-- java/lang/Object -/
def k0 : Class := { plain "java/lang/Object" none with
  accessFlags := 33
  interfaces := #[]
  cf := some (fileOf pool0 8 #[] #[{ accessFlags := 1, nameIndex := 5, descriptorIndex := 6, attributes := #[] }] 33 0 #[] #[])
  fields := #[]
  methods := #[k0m0]
  instanceTypes := #[]
  staticTypes := #[]
  resolved := Array.replicate 124 none
  statics := none }

def pool1 : Array CpInfo := pool [(2, .class_ 4), (1, u "java/lang/Object"), (0, u "<init>"), (0, u "()V"), (0, .class_ 8), (0, u "java/lang/String"), (0, .methodref 7 10), (0, .nameAndType 5 11), (0, u "([C)V"), (0, .integer 2147483647), (0, .class_ 14), (0, u "com/example/acquirer/acquirer/PageRequest"), (0, .methodref 13 16), (0, .nameAndType 5 17), (0, u "(ILjava/lang/String;Ljava/lang/String;Z)V"), (0, .methodref 13 19), (0, .nameAndType 20 21), (0, u "backwards"), (0, u "()Z"), (0, .methodref 13 23), (0, .nameAndType 24 25), (0, u "cursor"), (0, u "()Ljava/lang/String;"), (0, .class_ 27), (0, u "com/example/acquirer/acquirer/PageRequestBackwardsPinLaw"), (2, u "law"), (0, u "(IIIII)Z")] 5

def k1m0 : Method := { name := "<init>", desc := "()V", sig := { parameters := [], returnType := none }, accessFlags := 1, code := none }
def k1c1 : Code := { maxStack := 6, maxLocals := 15, code := code, exceptionTable := #[], attributes := #[] }
def k1m1 : Method := { name := "law", desc := "(IIIII)Z", sig := { parameters := [.int, .int, .int, .int, .int], returnType := some .boolean }, accessFlags := 9, code := some k1c1 }
/-- com/example/acquirer/acquirer/PageRequestBackwardsPinLaw -/
def k1 : Class := { plain "com/example/acquirer/acquirer/PageRequestBackwardsPinLaw" (some 0) with
  accessFlags := 49
  interfaces := #[]
  cf := some (fileOf pool1 26 #[] #[{ accessFlags := 1, nameIndex := 5, descriptorIndex := 6, attributes := #[] }, { accessFlags := 9, nameIndex := 30, descriptorIndex := 31, attributes := #[] }] 49 2 #[] #[])
  fields := #[]
  methods := #[k1m0, k1m1]
  instanceTypes := #[]
  staticTypes := #[]
  resolved := Array.replicate 37 none
  statics := none }

def pool2 : Array CpInfo := pool [(1, .class_ 2), (0, u "java/io/Serializable"), (0, .class_ 4), (0, u "java/lang/Object")] 2

/-- java/io/Serializable -/
def k2 : Class := { plain "java/io/Serializable" (some 0) with
  accessFlags := 1537
  interfaces := #[]
  cf := some (fileOf pool2 1 #[] #[] 1537 3 #[] #[])
  fields := #[]
  methods := #[]
  instanceTypes := #[]
  staticTypes := #[]
  resolved := Array.replicate 7 none
  statics := none }

def pool3 : Array CpInfo := pool [(1, .class_ 2), (0, u "java/lang/Comparable"), (0, .class_ 4), (0, u "java/lang/Object")] 7

/-- java/lang/Comparable -/
def k3 : Class := { plain "java/lang/Comparable" (some 0) with
  accessFlags := 1537
  interfaces := #[]
  cf := some (fileOf pool3 1 #[] #[] 1537 3 #[] #[])
  fields := #[]
  methods := #[]
  instanceTypes := #[]
  staticTypes := #[]
  resolved := Array.replicate 12 none
  statics := none }

def pool4 : Array CpInfo := pool [(2, .class_ 4), (1, u "java/lang/CharSequence"), (42, .class_ 48), (0, u "java/lang/CharSequence$1CodePointIterator"), (10, .class_ 60), (0, u "java/lang/CharSequence$1CharIterator"), (5, .class_ 67), (0, u "java/lang/Object")] 63

/-- java/lang/CharSequence -/
def k4 : Class := { plain "java/lang/CharSequence" (some 0) with
  accessFlags := 1537
  interfaces := #[]
  cf := some (fileOf pool4 2 #[.nestMembers #[47, 59]] #[] 1537 66 #[] #[])
  fields := #[]
  methods := #[]
  instanceTypes := #[]
  staticTypes := #[]
  resolved := Array.replicate 131 none
  statics := none }

def pool5 : Array CpInfo := pool [(1, .class_ 2), (0, u "java/lang/constant/Constable"), (0, .class_ 4), (0, u "java/lang/Object")] 6

/-- java/lang/constant/Constable -/
def k5 : Class := { plain "java/lang/constant/Constable" (some 0) with
  accessFlags := 1537
  interfaces := #[]
  cf := some (fileOf pool5 1 #[] #[] 1537 3 #[] #[])
  fields := #[]
  methods := #[]
  instanceTypes := #[]
  staticTypes := #[]
  resolved := Array.replicate 11 none
  statics := none }

def pool6 : Array CpInfo := pool [(1, .class_ 2), (0, u "java/lang/constant/ConstantDesc"), (0, .class_ 4), (0, u "java/lang/Object")] 32

/-- java/lang/constant/ConstantDesc -/
def k6 : Class := { plain "java/lang/constant/ConstantDesc" (some 0) with
  accessFlags := 1537
  interfaces := #[]
  cf := some (fileOf pool6 1 #[] #[] 1537 3 #[] #[])
  fields := #[]
  methods := #[]
  instanceTypes := #[]
  staticTypes := #[]
  resolved := Array.replicate 37 none
  statics := none }

def pool7 : Array CpInfo := pool [(1, .methodref 2 3), (0, .class_ 4), (0, .nameAndType 5 6), (0, u "java/lang/Object"), (0, u "<init>"), (0, u "()V"), (0, .string 8), (0, u ""), (0, .fieldref 10 11), (0, .class_ 12), (0, .nameAndType 13 14), (0, u "java/lang/String"), (0, u "value"), (0, u "[B"), (0, .fieldref 10 16), (0, .nameAndType 17 18), (0, u "coder"), (0, u "B"), (2, u "hash"), (0, u "I"), (2, u "hashIsZero"), (0, u "Z"), (0, .methodref 10 28), (0, .nameAndType 5 29), (0, u "([CIILjava/lang/Void;)V"), (8, .fieldref 10 39), (0, .nameAndType 40 26), (0, u "COMPACT_STRINGS"), (1, .class_ 44), (1, u "java/lang/StringUTF16"), (0, u "compress"), (1, .methodref 42 48), (0, .nameAndType 49 50), (0, u "coderFromArrayLen"), (0, u "([BI)B"), (126, .methodref 42 178), (0, .nameAndType 45 179), (0, u "([CII)[B"), (395, .class_ 576), (0, u "java/lang/CharSequence"), (22, u "CASE_INSENSITIVE_ORDER"), (0, u "Ljava/util/Comparator;"), (409, u "([C)V"), (90, u "serialPersistentFields"), (0, u "[Ljava/io/ObjectStreamField;"), (0, .class_ 1104), (0, u "java/lang/String$CaseInsensitiveComparator"), (1, .class_ 1107), (0, u "java/io/Serializable"), (0, .class_ 1109), (0, u "java/lang/Comparable"), (0, .class_ 1111), (0, u "java/lang/constant/Constable"), (0, .class_ 1113), (0, u "java/lang/constant/ConstantDesc"), (2, u "serialVersionUID"), (0, u "J"), (3, u "REPL"), (0, u "C"), (2, u "LATIN1"), (1, u "UTF16")] 323

def k7m0 : Method := { name := "<init>", desc := "()V", sig := { parameters := [], returnType := none }, accessFlags := 1, code := none }
def k7c1 : Code := { maxStack := 5, maxLocals := 2, code := jdk_42_method_3_code, exceptionTable := #[], attributes := #[] }
def k7m1 : Method := { name := "<init>", desc := "([C)V", sig := { parameters := [(.array .char)], returnType := none }, accessFlags := 1, code := some k7c1 }
def k7c2 : Code := { maxStack := 4, maxLocals := 6, code := jdk_42_method_149_code, exceptionTable := #[], attributes := #[] }
def k7m2 : Method := { name := "<init>", desc := "([CIILjava/lang/Void;)V", sig := { parameters := [(.array .char), .int, .int, (.object "java/lang/Void")], returnType := none }, accessFlags := 2, code := some k7c2 }
/-- java/lang/String -/
def k7 : Class := { plain "java/lang/String" (some 0) with
  accessFlags := 49
  interfaces := #[2, 3, 4, 5, 6]
  cf := some (fileOf pool7 10 #[.nestMembers #[1103]] #[{ accessFlags := 1, nameIndex := 5, descriptorIndex := 6, attributes := #[] }, { accessFlags := 1, nameIndex := 5, descriptorIndex := 1010, attributes := #[] }, { accessFlags := 2, nameIndex := 5, descriptorIndex := 29, attributes := #[] }] 49 2 #[1106, 1108, 575, 1110, 1112] #[{ accessFlags := 18, nameIndex := 13, descriptorIndex := 14, attributes := #[] }, { accessFlags := 18, nameIndex := 17, descriptorIndex := 18, attributes := #[] }, { accessFlags := 2, nameIndex := 21, descriptorIndex := 22, attributes := #[] }, { accessFlags := 2, nameIndex := 25, descriptorIndex := 26, attributes := #[] }, { accessFlags := 26, nameIndex := 1116, descriptorIndex := 1117, attributes := #[] }, { accessFlags := 24, nameIndex := 40, descriptorIndex := 26, attributes := #[] }, { accessFlags := 26, nameIndex := 1101, descriptorIndex := 1102, attributes := #[] }, { accessFlags := 26, nameIndex := 1121, descriptorIndex := 1122, attributes := #[] }, { accessFlags := 25, nameIndex := 599, descriptorIndex := 600, attributes := #[] }, { accessFlags := 24, nameIndex := 1125, descriptorIndex := 18, attributes := #[] }, { accessFlags := 24, nameIndex := 1127, descriptorIndex := 18, attributes := #[] }])
  fields := #[{ name := "value", type := (.array .byte), accessFlags := 18, slot := 0, constantValue := 0 }, { name := "coder", type := .byte, accessFlags := 18, slot := 1, constantValue := 0 }, { name := "hash", type := .int, accessFlags := 2, slot := 2, constantValue := 0 }, { name := "hashIsZero", type := .boolean, accessFlags := 2, slot := 3, constantValue := 0 }, { name := "serialVersionUID", type := .long, accessFlags := 26, slot := 0, constantValue := 0 }, { name := "COMPACT_STRINGS", type := .boolean, accessFlags := 24, slot := 1, constantValue := 0 }, { name := "serialPersistentFields", type := (.array (.object "java/io/ObjectStreamField")), accessFlags := 26, slot := 2, constantValue := 0 }, { name := "REPL", type := .char, accessFlags := 26, slot := 3, constantValue := 0 }, { name := "CASE_INSENSITIVE_ORDER", type := (.object "java/util/Comparator"), accessFlags := 25, slot := 4, constantValue := 0 }, { name := "LATIN1", type := .byte, accessFlags := 24, slot := 5, constantValue := 0 }, { name := "UTF16", type := .byte, accessFlags := 24, slot := 6, constantValue := 0 }]
  methods := #[k7m0, k7m1, k7m2]
  instanceTypes := #[(.array .byte), .byte, .int, .boolean]
  staticTypes := #[.long, .boolean, (.array (.object "java/io/ObjectStreamField")), .char, (.object "java/util/Comparator"), .byte, .byte]
  resolved := Array.replicate 1451 none
  statics := some 0 }

def pool8 : Array CpInfo := pool [(1, .methodref 2 3), (0, .class_ 4), (0, .nameAndType 5 6), (0, u "java/lang/Object"), (0, u "<init>"), (0, u "()V"), (0, .class_ 8), (0, u "java/lang/Record")] 13

def k8c0 : Code := { maxStack := 1, maxLocals := 1, code := jdk_30_method_1_code, exceptionTable := #[], attributes := #[] }
def k8m0 : Method := { name := "<init>", desc := "()V", sig := { parameters := [], returnType := none }, accessFlags := 4, code := some k8c0 }
/-- java/lang/Record -/
def k8 : Class := { plain "java/lang/Record" (some 0) with
  accessFlags := 1057
  interfaces := #[]
  cf := some (fileOf pool8 7 #[] #[{ accessFlags := 4, nameIndex := 5, descriptorIndex := 6, attributes := #[] }] 1057 2 #[] #[])
  fields := #[]
  methods := #[k8m0]
  instanceTypes := #[]
  staticTypes := #[]
  resolved := Array.replicate 22 none
  statics := none }

def pool9 : Array CpInfo := pool [(1, .methodref 2 3), (0, .class_ 4), (0, .nameAndType 5 6), (0, u "java/lang/Record"), (0, u "<init>"), (0, u "()V"), (0, .fieldref 8 9), (0, .class_ 10), (0, .nameAndType 11 12), (0, u "com/example/acquirer/acquirer/PageRequest"), (0, u "limit"), (0, u "I"), (0, .fieldref 8 14), (0, .nameAndType 15 16), (0, u "startingAfter"), (0, u "Ljava/lang/String;"), (0, .fieldref 8 18), (0, .nameAndType 19 16), (0, u "endingBefore"), (0, .fieldref 8 21), (0, .nameAndType 22 23), (0, u "descending"), (0, u "Z"), (2, u "backwards"), (0, u "()Z"), (37, u "STARTING_AFTER"), (1, u "ENDING_BEFORE"), (0, u "(ILjava/lang/String;Ljava/lang/String;Z)V"), (3, u "cursor"), (0, u "()Ljava/lang/String;")] 38

def k9c0 : Code := { maxStack := 2, maxLocals := 5, code := prog_19_method_1_code, exceptionTable := #[], attributes := #[] }
def k9m0 : Method := { name := "<init>", desc := "(ILjava/lang/String;Ljava/lang/String;Z)V", sig := { parameters := [.int, (.object "java/lang/String"), (.object "java/lang/String"), .boolean], returnType := none }, accessFlags := 1, code := some k9c0 }
def k9c1 : Code := { maxStack := 1, maxLocals := 1, code := prog_19_method_2_code, exceptionTable := #[], attributes := #[] }
def k9m1 : Method := { name := "cursor", desc := "()Ljava/lang/String;", sig := { parameters := [], returnType := some (.object "java/lang/String") }, accessFlags := 1, code := some k9c1 }
def k9c2 : Code := { maxStack := 1, maxLocals := 1, code := prog_19_method_3_code, exceptionTable := #[], attributes := #[] }
def k9m2 : Method := { name := "backwards", desc := "()Z", sig := { parameters := [], returnType := some .boolean }, accessFlags := 1, code := some k9c2 }
/-- com/example/acquirer/acquirer/PageRequest -/
def k9 : Class := { plain "com/example/acquirer/acquirer/PageRequest" (some 8) with
  accessFlags := 49
  interfaces := #[]
  cf := some (fileOf pool9 8 #[] #[{ accessFlags := 1, nameIndex := 5, descriptorIndex := 68, attributes := #[] }, { accessFlags := 1, nameIndex := 72, descriptorIndex := 73, attributes := #[] }, { accessFlags := 1, nameIndex := 26, descriptorIndex := 27, attributes := #[] }] 49 2 #[] #[{ accessFlags := 18, nameIndex := 11, descriptorIndex := 12, attributes := #[] }, { accessFlags := 18, nameIndex := 15, descriptorIndex := 16, attributes := #[] }, { accessFlags := 18, nameIndex := 19, descriptorIndex := 16, attributes := #[] }, { accessFlags := 18, nameIndex := 22, descriptorIndex := 23, attributes := #[] }, { accessFlags := 25, nameIndex := 65, descriptorIndex := 16, attributes := #[] }, { accessFlags := 25, nameIndex := 67, descriptorIndex := 16, attributes := #[] }])
  fields := #[{ name := "limit", type := .int, accessFlags := 18, slot := 0, constantValue := 0 }, { name := "startingAfter", type := (.object "java/lang/String"), accessFlags := 18, slot := 1, constantValue := 0 }, { name := "endingBefore", type := (.object "java/lang/String"), accessFlags := 18, slot := 2, constantValue := 0 }, { name := "descending", type := .boolean, accessFlags := 18, slot := 3, constantValue := 0 }, { name := "STARTING_AFTER", type := (.object "java/lang/String"), accessFlags := 25, slot := 0, constantValue := 0 }, { name := "ENDING_BEFORE", type := (.object "java/lang/String"), accessFlags := 25, slot := 1, constantValue := 0 }]
  methods := #[k9m0, k9m1, k9m2]
  instanceTypes := #[.int, (.object "java/lang/String"), (.object "java/lang/String"), .boolean]
  staticTypes := #[(.object "java/lang/String"), (.object "java/lang/String")]
  resolved := Array.replicate 112 none
  statics := none }

def pool10 : Array CpInfo := pool [(6, .class_ 8), (1, u "java/lang/Object"), (0, u "<init>"), (0, u "()V"), (1, .class_ 14), (1, u "java/lang/StringUTF16"), (31, u "$assertionsDisabled"), (0, u "Z"), (13, u "HI_BYTE_SHIFT"), (0, u "I"), (2, u "LO_BYTE_SHIFT"), (49, .methodref 12 116), (0, .nameAndType 117 118), (0, u "compress"), (0, u "([CI[BII)I"), (3, u "([CII)[B"), (138, u "coderFromArrayLen"), (0, u "([BI)B"), (106, .class_ 371), (1, u "java/lang/StringUTF16$LinesSpliterator"), (58, u "MAX_LENGTH"), (196, .class_ 628), (0, u "java/lang/StringUTF16$CodePointsSpliterator"), (0, .class_ 630), (0, u "java/lang/StringUTF16$CharsSpliterator")] 4

def k10m0 : Method := { name := "<init>", desc := "()V", sig := { parameters := [], returnType := none }, accessFlags := 0, code := none }
def k10c1 : Code := { maxStack := 2, maxLocals := 2, code := jdk_52_method_15_code, exceptionTable := #[], attributes := #[] }
def k10m1 : Method := { name := "coderFromArrayLen", desc := "([BI)B", sig := { parameters := [(.array .byte), .int], returnType := some .byte }, accessFlags := 8, code := some k10c1 }
def k10c2 : Code := { maxStack := 5, maxLocals := 6, code := jdk_52_method_16_code, exceptionTable := #[], attributes := #[] }
def k10m2 : Method := { name := "compress", desc := "([CII)[B", sig := { parameters := [(.array .char), .int, .int], returnType := some (.array .byte) }, accessFlags := 9, code := some k10c2 }
def k10c3 : Code := { maxStack := 3, maxLocals := 7, code := jdk_52_method_21_code, exceptionTable := #[], attributes := #[] }
def k10m3 : Method := { name := "compress", desc := "([CI[BII)I", sig := { parameters := [(.array .char), .int, (.array .byte), .int, .int], returnType := some .int }, accessFlags := 9, code := some k10c3 }
/-- java/lang/StringUTF16 -/
def k10 : Class := { plain "java/lang/StringUTF16" (some 0) with
  accessFlags := 48
  interfaces := #[]
  cf := some (fileOf pool10 12 #[.nestMembers #[627, 629, 369]] #[{ accessFlags := 0, nameIndex := 9, descriptorIndex := 10, attributes := #[] }, { accessFlags := 8, nameIndex := 261, descriptorIndex := 262, attributes := #[] }, { accessFlags := 9, nameIndex := 117, descriptorIndex := 122, attributes := #[] }, { accessFlags := 9, nameIndex := 117, descriptorIndex := 118, attributes := #[] }] 48 6 #[] #[{ accessFlags := 26, nameIndex := 61, descriptorIndex := 62, attributes := #[] }, { accessFlags := 26, nameIndex := 65, descriptorIndex := 62, attributes := #[] }, { accessFlags := 24, nameIndex := 430, descriptorIndex := 62, attributes := #[] }, { accessFlags := 4120, nameIndex := 46, descriptorIndex := 47, attributes := #[] }])
  fields := #[{ name := "HI_BYTE_SHIFT", type := .int, accessFlags := 26, slot := 0, constantValue := 0 }, { name := "LO_BYTE_SHIFT", type := .int, accessFlags := 26, slot := 1, constantValue := 0 }, { name := "MAX_LENGTH", type := .int, accessFlags := 24, slot := 2, constantValue := 0 }, { name := "$assertionsDisabled", type := .boolean, accessFlags := 4120, slot := 3, constantValue := 0 }]
  methods := #[k10m0, k10m1, k10m2, k10m3]
  instanceTypes := #[]
  staticTypes := #[.int, .int, .int, .boolean]
  resolved := Array.replicate 635 none
  statics := none }

def pool11 : Array CpInfo := pool [(4, .class_ 6), (1, u "java/lang/Object"), (0, u "<init>"), (0, u "()V"), (5, .class_ 16), (1, u "java/lang/StringLatin1"), (104, u "$assertionsDisabled"), (0, u "Z"), (98, .class_ 223), (1, u "java/lang/StringLatin1$LinesSpliterator"), (166, .class_ 391), (0, u "java/lang/StringLatin1$CharsSpliterator")] 3

def k11m0 : Method := { name := "<init>", desc := "()V", sig := { parameters := [], returnType := none }, accessFlags := 0, code := none }
/-- java/lang/StringLatin1 -/
def k11 : Class := { plain "java/lang/StringLatin1" (some 0) with
  accessFlags := 48
  interfaces := #[]
  cf := some (fileOf pool11 14 #[.nestMembers #[390, 221]] #[{ accessFlags := 0, nameIndex := 7, descriptorIndex := 8, attributes := #[] }] 48 4 #[] #[{ accessFlags := 4120, nameIndex := 121, descriptorIndex := 122, attributes := #[] }])
  fields := #[{ name := "$assertionsDisabled", type := .boolean, accessFlags := 4120, slot := 0, constantValue := 0 }]
  methods := #[k11m0]
  instanceTypes := #[]
  staticTypes := #[.boolean]
  resolved := Array.replicate 395 none
  statics := none }

def pool12 : Array CpInfo := pool [(2, .class_ 4), (1, u "java/lang/Object"), (0, u "<init>"), (0, u "()V"), (17, .class_ 26), (1, u "jdk/internal/util/Preconditions"), (28, .class_ 56), (0, u "jdk/internal/util/Preconditions$4"), (57, .class_ 115), (0, u "jdk/internal/util/Preconditions$1"), (7, u "SIOOBE_FORMATTER"), (0, u "Ljava/util/function/BiFunction;"), (0, .class_ 126), (0, u "jdk/internal/util/Preconditions$2"), (3, u "AIOOBE_FORMATTER"), (0, .class_ 132), (0, u "jdk/internal/util/Preconditions$3"), (3, u "IOOBE_FORMATTER")] 57

def k12m0 : Method := { name := "<init>", desc := "()V", sig := { parameters := [], returnType := none }, accessFlags := 1, code := none }
/-- jdk/internal/util/Preconditions -/
def k12 : Class := { plain "jdk/internal/util/Preconditions" (some 0) with
  accessFlags := 33
  interfaces := #[]
  cf := some (fileOf pool12 24 #[.nestMembers #[55, 131, 125, 114]] #[{ accessFlags := 1, nameIndex := 5, descriptorIndex := 6, attributes := #[] }] 33 2 #[] #[{ accessFlags := 25, nameIndex := 123, descriptorIndex := 124, attributes := #[] }, { accessFlags := 25, nameIndex := 130, descriptorIndex := 124, attributes := #[] }, { accessFlags := 25, nameIndex := 136, descriptorIndex := 124, attributes := #[] }])
  fields := #[{ name := "SIOOBE_FORMATTER", type := (.object "java/util/function/BiFunction"), accessFlags := 25, slot := 0, constantValue := 0 }, { name := "AIOOBE_FORMATTER", type := (.object "java/util/function/BiFunction"), accessFlags := 25, slot := 1, constantValue := 0 }, { name := "IOOBE_FORMATTER", type := (.object "java/util/function/BiFunction"), accessFlags := 25, slot := 2, constantValue := 0 }]
  methods := #[k12m0]
  instanceTypes := #[]
  staticTypes := #[(.object "java/util/function/BiFunction"), (.object "java/util/function/BiFunction"), (.object "java/util/function/BiFunction")]
  resolved := Array.replicate 194 none
  statics := some 1 }

def pool13 : Array CpInfo := pool [(9, u "<init>"), (6, .class_ 18), (1, u "java/lang/Object"), (0, u "()V"), (1, .class_ 23), (1, u "jdk/internal/util/ArraysSupport"), (0, u "LOG2_ARRAY_LONG_INDEX_SCALE"), (0, u "I"), (2, u "U"), (0, u "Ljdk/internal/misc/Unsafe;"), (8, u "BIG_ENDIAN"), (0, u "Z"), (8, u "LOG2_BYTE_BIT_SIZE"), (4, u "LOG2_ARRAY_INT_INDEX_SCALE"), (54, u "JLA"), (0, u "Ljdk/internal/access/JavaLangAccess;"), (11, u "LOG2_ARRAY_BOOLEAN_INDEX_SCALE"), (9, u "LOG2_ARRAY_BYTE_INDEX_SCALE"), (5, u "LOG2_ARRAY_CHAR_INDEX_SCALE"), (5, u "LOG2_ARRAY_SHORT_INDEX_SCALE"), (18, u "LOG2_ARRAY_FLOAT_INDEX_SCALE"), (24, u "LOG2_ARRAY_DOUBLE_INDEX_SCALE"), (89, u "T_BOOLEAN"), (2, u "T_CHAR"), (1, u "T_FLOAT"), (1, u "T_DOUBLE"), (1, u "T_BYTE"), (1, u "T_SHORT"), (1, u "T_INT"), (1, u "T_LONG"), (1, u "SOFT_MAX_ARRAY_LENGTH")] 83

def k13m0 : Method := { name := "<init>", desc := "()V", sig := { parameters := [], returnType := none }, accessFlags := 2, code := none }
/-- jdk/internal/util/ArraysSupport -/
def k13 : Class := { plain "jdk/internal/util/ArraysSupport" (some 0) with
  accessFlags := 33
  interfaces := #[]
  cf := some (fileOf pool13 21 #[] #[{ accessFlags := 2, nameIndex := 9, descriptorIndex := 19, attributes := #[] }] 33 16 #[] #[{ accessFlags := 24, nameIndex := 28, descriptorIndex := 29, attributes := #[] }, { accessFlags := 26, nameIndex := 38, descriptorIndex := 39, attributes := #[] }, { accessFlags := 25, nameIndex := 121, descriptorIndex := 25, attributes := #[] }, { accessFlags := 25, nameIndex := 131, descriptorIndex := 25, attributes := #[] }, { accessFlags := 25, nameIndex := 137, descriptorIndex := 25, attributes := #[] }, { accessFlags := 25, nameIndex := 143, descriptorIndex := 25, attributes := #[] }, { accessFlags := 25, nameIndex := 53, descriptorIndex := 25, attributes := #[] }, { accessFlags := 25, nameIndex := 24, descriptorIndex := 25, attributes := #[] }, { accessFlags := 25, nameIndex := 162, descriptorIndex := 25, attributes := #[] }, { accessFlags := 25, nameIndex := 187, descriptorIndex := 25, attributes := #[] }, { accessFlags := 26, nameIndex := 48, descriptorIndex := 25, attributes := #[] }, { accessFlags := 25, nameIndex := 277, descriptorIndex := 25, attributes := #[] }, { accessFlags := 25, nameIndex := 280, descriptorIndex := 25, attributes := #[] }, { accessFlags := 25, nameIndex := 282, descriptorIndex := 25, attributes := #[] }, { accessFlags := 25, nameIndex := 284, descriptorIndex := 25, attributes := #[] }, { accessFlags := 25, nameIndex := 286, descriptorIndex := 25, attributes := #[] }, { accessFlags := 25, nameIndex := 288, descriptorIndex := 25, attributes := #[] }, { accessFlags := 25, nameIndex := 290, descriptorIndex := 25, attributes := #[] }, { accessFlags := 25, nameIndex := 292, descriptorIndex := 25, attributes := #[] }, { accessFlags := 26, nameIndex := 108, descriptorIndex := 109, attributes := #[] }, { accessFlags := 25, nameIndex := 294, descriptorIndex := 25, attributes := #[] }])
  fields := #[{ name := "U", type := (.object "jdk/internal/misc/Unsafe"), accessFlags := 24, slot := 0, constantValue := 0 }, { name := "BIG_ENDIAN", type := .boolean, accessFlags := 26, slot := 1, constantValue := 0 }, { name := "LOG2_ARRAY_BOOLEAN_INDEX_SCALE", type := .int, accessFlags := 25, slot := 2, constantValue := 0 }, { name := "LOG2_ARRAY_BYTE_INDEX_SCALE", type := .int, accessFlags := 25, slot := 3, constantValue := 0 }, { name := "LOG2_ARRAY_CHAR_INDEX_SCALE", type := .int, accessFlags := 25, slot := 4, constantValue := 0 }, { name := "LOG2_ARRAY_SHORT_INDEX_SCALE", type := .int, accessFlags := 25, slot := 5, constantValue := 0 }, { name := "LOG2_ARRAY_INT_INDEX_SCALE", type := .int, accessFlags := 25, slot := 6, constantValue := 0 }, { name := "LOG2_ARRAY_LONG_INDEX_SCALE", type := .int, accessFlags := 25, slot := 7, constantValue := 0 }, { name := "LOG2_ARRAY_FLOAT_INDEX_SCALE", type := .int, accessFlags := 25, slot := 8, constantValue := 0 }, { name := "LOG2_ARRAY_DOUBLE_INDEX_SCALE", type := .int, accessFlags := 25, slot := 9, constantValue := 0 }, { name := "LOG2_BYTE_BIT_SIZE", type := .int, accessFlags := 26, slot := 10, constantValue := 0 }, { name := "T_BOOLEAN", type := .int, accessFlags := 25, slot := 11, constantValue := 0 }, { name := "T_CHAR", type := .int, accessFlags := 25, slot := 12, constantValue := 0 }, { name := "T_FLOAT", type := .int, accessFlags := 25, slot := 13, constantValue := 0 }, { name := "T_DOUBLE", type := .int, accessFlags := 25, slot := 14, constantValue := 0 }, { name := "T_BYTE", type := .int, accessFlags := 25, slot := 15, constantValue := 0 }, { name := "T_SHORT", type := .int, accessFlags := 25, slot := 16, constantValue := 0 }, { name := "T_INT", type := .int, accessFlags := 25, slot := 17, constantValue := 0 }, { name := "T_LONG", type := .int, accessFlags := 25, slot := 18, constantValue := 0 }, { name := "JLA", type := (.object "jdk/internal/access/JavaLangAccess"), accessFlags := 26, slot := 19, constantValue := 0 }, { name := "SOFT_MAX_ARRAY_LENGTH", type := .int, accessFlags := 25, slot := 20, constantValue := 0 }]
  methods := #[k13m0]
  instanceTypes := #[]
  staticTypes := #[(.object "jdk/internal/misc/Unsafe"), .boolean, .int, .int, .int, .int, .int, .int, .int, .int, .int, .int, .int, .int, .int, .int, .int, .int, .int, (.object "jdk/internal/access/JavaLangAccess"), .int]
  resolved := Array.replicate 378 none
  statics := none }

def pool14 : Array CpInfo := pool [(1, u "java/lang/Cloneable"), (0, .class_ 1), (0, u "java/lang/Object"), (0, .class_ 3)] 3

/-- java/lang/Cloneable -/
def k14 : Class := { plain "java/lang/Cloneable" (some 0) with
  accessFlags := 1537
  interfaces := #[]
  cf := some (fileOf pool14 2 #[] #[] 1537 4 #[] #[])
  fields := #[]
  methods := #[]
  instanceTypes := #[]
  staticTypes := #[]
  resolved := Array.replicate 8 none
  statics := none }

/-- the primitive byte -/
def k15 : Class := { plain "byte" none with kind := .primitive 'B', accessFlags := 0x411 }
/-- [B -/
def k16 : Class := { plain "[B" (some 0) with kind := .array 15 .byte, interfaces := #[14, 2], accessFlags := 1041 }

/-- the primitive char -/
def k17 : Class := { plain "char" none with kind := .primitive 'C', accessFlags := 0x411 }
/-- [C -/
def k18 : Class := { plain "[C" (some 0) with kind := .array 17 .char, interfaces := #[14, 2], accessFlags := 1041 }

/-- the primitive int -/
def k19 : Class := { plain "int" none with kind := .primitive 'I', accessFlags := 0x411 }
/-- [I -/
def k20 : Class := { plain "[I" (some 0) with kind := .array 19 .int, interfaces := #[14, 2], accessFlags := 1041 }

def heap : Heap := #[{ cls := 7, slots := #[.long 0, .int 1, .null, .int 0, .null, .int 0, .int 0], vm := .statics 7 },
  { cls := 12, slots := #[.null, .null, .null], vm := .statics 12 }]
def classes : Array Class := #[k0, k1, k2, k3, k4, k5, k6, k7, k8, k9, k10, k11, k12, k13, k14, k15, k16, k17, k18, k19, k20]
def interned : List (Array UInt16 × Addr) := []
def slotsUsed : Nat := 10
def theMethod : MethodId := ⟨1, 1⟩
def args0 : Array Value := #[.int 1, .int 2, .int 3, .int 4, .int 5]
def aboutOver (below : List Frame) : State where
  vm := { classes := classes, interned := interned.toArray }
  heap := heap
  slotsUsed := slotsUsed
  threads := #[{ frames := .invoking theMethod args0 :: below }]
def below0 : List Frame := [.native { method := ⟨0, 0⟩, args := #[] }]
def about1 : State := aboutOver below0
def p0 : Program := .bare "" "" ""
def e0 : Env := launch0.env 0 0 0
theorem w_frames : about1.frames = Frame.invoking theMethod args0 :: below0 := rfl
set_option maxRecDepth 65536 in
theorem w_args : argsFit about1.vm theMethod args0 = true := by decide +kernel
set_option maxRecDepth 65536 in
theorem w_heap : heapFits about1 = true := by decide +kernel
set_option maxRecDepth 65536 in
theorem w_runnable : about1.curStatus? = some .runnable := by decide +kernel
set_option maxRecDepth 65536 in
theorem w_alone : about1.alone = true := by decide +kernel
set_option maxRecDepth 65536 in
theorem w_named : about1.methodNamed? x = some theMethod := by decide +kernel
set_option maxRecDepth 65536 in
theorem w_hears : about1.hears theMethod below0 = true := by decide +kernel
set_option maxRecDepth 65536 in
theorem w_ripe : about1.ripe theMethod args0 below0 = true := by decide +kernel
theorem w_running : about1.status = .running := rfl
set_option maxRecDepth 65536 in
theorem w_room : about1.hasRoom e0.platform room_1 = true :=
  launch0.hasRoom_least _ room_1 (by decide +kernel) (by decide +kernel) (by decide +kernel) (by decide +kernel) (by decide +kernel) (by decide +kernel)
theorem allAtoms_all (ts : List Jvm.Cond) (a : Array Jvm.Value) (st : Jvm.State) : (allAtoms ts).before a st = ts.all (fun c => c.before a st) := by
  induction ts with
  | nil => rfl
  | cons c t ih =>
    show (Jvm.Cond.and c (allAtoms t)).before a st = _
    rw [Jvm.Cond.before_and, ih, List.all_cons]
def words1 : List Jvm.Cond := Jvm.Cond.code x code maxLocals ret :: tables_1
/-- a 'code' word, met by the world's own term for the bytes: nothing is compared byte by byte -/
theorem code_word {y : MethodName} {bytes : ByteArray} {mx : Nat} {rt : Option FieldType} {a : Array Value} {s : State} {m : MethodId} {meth : Method} {c : Code} (h1 : s.methodNamed? y = some m) (h2 : s.vm.method? m = some meth) (h3 : meth.code = some c) (h4 : c.code = bytes)
    (h5 : (c.maxLocals == mx && c.exceptionTable.isEmpty && decide (c.maxStack ≤ mostOperands) && decide (meth.sig.returnType = rt) && !meth.locks && decide (parseMethodDescriptor y.desc = some meth.sig)) = true) : (Jvm.Cond.code y bytes mx rt).before a s = true := by
  simp only [Bool.and_eq_true, beq_iff_eq, Bool.not_eq_true', decide_eq_true_eq] at h5
  obtain ⟨⟨⟨⟨⟨g1, g2⟩, g3⟩, g4⟩, g5⟩, g6⟩ := h5
  simp [Cond.before, Cond.holds, Cond.value, h1, h2, h3, h4, g1, g2, g3, g4, g5, g6]
def isCode : Jvm.Cond → Bool
  | .code _ _ _ _ => true
  | _ => false
theorem all_split {L : List Jvm.Cond} {P : Jvm.Cond → Bool} (h1 : L.all (fun c => isCode c || P c) = true) (h2 : ∀ c ∈ L.filter isCode, P c = true) : L.all P = true := by
  refine List.all_eq_true.mpr fun c hc => ?_
  have h := List.all_eq_true.mp h1 c hc
  rcases Bool.eq_false_or_eq_true (isCode c) with hi | hi
  · exact h2 c (List.mem_filter.mpr ⟨hc, hi⟩)
  · simpa [hi] using h
set_option maxRecDepth 65536 in
theorem w_c0 : (Jvm.Cond.code x code maxLocals ret).before args0 about1 = true := code_word (m := ⟨1, 1⟩) (meth := k1m1) (c := k1c1) (by decide +kernel) rfl rfl rfl (by decide +kernel)
set_option maxRecDepth 65536 in
theorem w_c1 : (Jvm.Cond.code ({ cls := "java/lang/String", name := "<init>", desc := "([C)V" } : Jvm.MethodName) jdk_42_method_3_code (2 : Nat) (Option.none : Option Jvm.ClassFile.FieldType)).before args0 about1 = true := code_word (m := ⟨7, 1⟩) (meth := k7m1) (c := k7c1) (by decide +kernel) rfl rfl rfl (by decide +kernel)
set_option maxRecDepth 65536 in
theorem w_c2 : (Jvm.Cond.code ({ cls := "java/lang/String", name := "<init>", desc := "([CIILjava/lang/Void;)V" } : Jvm.MethodName) jdk_42_method_149_code (6 : Nat) (Option.none : Option Jvm.ClassFile.FieldType)).before args0 about1 = true := code_word (m := ⟨7, 2⟩) (meth := k7m2) (c := k7c2) (by decide +kernel) rfl rfl rfl (by decide +kernel)
set_option maxRecDepth 65536 in
theorem w_c3 : (Jvm.Cond.code ({ cls := "java/lang/Object", name := "<init>", desc := "()V" } : Jvm.MethodName) object_method_1_code (1 : Nat) (Option.none : Option Jvm.ClassFile.FieldType)).before args0 about1 = true := code_word (m := ⟨0, 0⟩) (meth := k0m0) (c := k0c0) (by decide +kernel) rfl rfl rfl (by decide +kernel)
set_option maxRecDepth 65536 in
theorem w_c4 : (Jvm.Cond.code ({ cls := "com/example/acquirer/acquirer/PageRequest", name := "<init>", desc := "(ILjava/lang/String;Ljava/lang/String;Z)V" } : Jvm.MethodName) prog_19_method_1_code (5 : Nat) (Option.none : Option Jvm.ClassFile.FieldType)).before args0 about1 = true := code_word (m := ⟨9, 0⟩) (meth := k9m0) (c := k9c0) (by decide +kernel) rfl rfl rfl (by decide +kernel)
set_option maxRecDepth 65536 in
theorem w_c5 : (Jvm.Cond.code ({ cls := "java/lang/Record", name := "<init>", desc := "()V" } : Jvm.MethodName) jdk_30_method_1_code (1 : Nat) (Option.none : Option Jvm.ClassFile.FieldType)).before args0 about1 = true := code_word (m := ⟨8, 0⟩) (meth := k8m0) (c := k8c0) (by decide +kernel) rfl rfl rfl (by decide +kernel)
set_option maxRecDepth 65536 in
theorem w_c6 : (Jvm.Cond.code ({ cls := "com/example/acquirer/acquirer/PageRequest", name := "backwards", desc := "()Z" } : Jvm.MethodName) prog_19_method_3_code (1 : Nat) (Option.some Jvm.ClassFile.FieldType.boolean)).before args0 about1 = true := code_word (m := ⟨9, 2⟩) (meth := k9m2) (c := k9c2) (by decide +kernel) rfl rfl rfl (by decide +kernel)
set_option maxRecDepth 65536 in
theorem w_c7 : (Jvm.Cond.code ({ cls := "java/lang/StringUTF16", name := "compress", desc := "([CII)[B" } : Jvm.MethodName) jdk_52_method_16_code (6 : Nat) (Option.some (Jvm.ClassFile.FieldType.array Jvm.ClassFile.FieldType.byte))).before args0 about1 = true := code_word (m := ⟨10, 2⟩) (meth := k10m2) (c := k10c2) (by decide +kernel) rfl rfl rfl (by decide +kernel)
set_option maxRecDepth 65536 in
theorem w_c8 : (Jvm.Cond.code ({ cls := "java/lang/StringUTF16", name := "compress", desc := "([CI[BII)I" } : Jvm.MethodName) jdk_52_method_21_code (7 : Nat) (Option.some Jvm.ClassFile.FieldType.int)).before args0 about1 = true := code_word (m := ⟨10, 3⟩) (meth := k10m3) (c := k10c3) (by decide +kernel) rfl rfl rfl (by decide +kernel)
set_option maxRecDepth 65536 in
theorem w_c9 : (Jvm.Cond.code ({ cls := "java/lang/StringUTF16", name := "coderFromArrayLen", desc := "([BI)B" } : Jvm.MethodName) jdk_52_method_15_code (2 : Nat) (Option.some Jvm.ClassFile.FieldType.byte)).before args0 about1 = true := code_word (m := ⟨10, 1⟩) (meth := k10m1) (c := k10c1) (by decide +kernel) rfl rfl rfl (by decide +kernel)
set_option maxRecDepth 65536 in
theorem w_c10 : (Jvm.Cond.code ({ cls := "com/example/acquirer/acquirer/PageRequest", name := "cursor", desc := "()Ljava/lang/String;" } : Jvm.MethodName) prog_19_method_2_code (1 : Nat) (Option.some (Jvm.ClassFile.FieldType.object "java/lang/String"))).before args0 about1 = true := code_word (m := ⟨9, 1⟩) (meth := k9m1) (c := k9c1) (by decide +kernel) rfl rfl rfl (by decide +kernel)
def codes1 : List Jvm.Cond := [Jvm.Cond.code x code maxLocals ret, Jvm.Cond.code ({ cls := "java/lang/String", name := "<init>", desc := "([C)V" } : Jvm.MethodName) jdk_42_method_3_code (2 : Nat) (Option.none : Option Jvm.ClassFile.FieldType), Jvm.Cond.code ({ cls := "java/lang/String", name := "<init>", desc := "([CIILjava/lang/Void;)V" } : Jvm.MethodName) jdk_42_method_149_code (6 : Nat) (Option.none : Option Jvm.ClassFile.FieldType), Jvm.Cond.code ({ cls := "java/lang/Object", name := "<init>", desc := "()V" } : Jvm.MethodName) object_method_1_code (1 : Nat) (Option.none : Option Jvm.ClassFile.FieldType), Jvm.Cond.code ({ cls := "com/example/acquirer/acquirer/PageRequest", name := "<init>", desc := "(ILjava/lang/String;Ljava/lang/String;Z)V" } : Jvm.MethodName) prog_19_method_1_code (5 : Nat) (Option.none : Option Jvm.ClassFile.FieldType), Jvm.Cond.code ({ cls := "java/lang/Record", name := "<init>", desc := "()V" } : Jvm.MethodName) jdk_30_method_1_code (1 : Nat) (Option.none : Option Jvm.ClassFile.FieldType), Jvm.Cond.code ({ cls := "com/example/acquirer/acquirer/PageRequest", name := "backwards", desc := "()Z" } : Jvm.MethodName) prog_19_method_3_code (1 : Nat) (Option.some Jvm.ClassFile.FieldType.boolean), Jvm.Cond.code ({ cls := "java/lang/StringUTF16", name := "compress", desc := "([CII)[B" } : Jvm.MethodName) jdk_52_method_16_code (6 : Nat) (Option.some (Jvm.ClassFile.FieldType.array Jvm.ClassFile.FieldType.byte)), Jvm.Cond.code ({ cls := "java/lang/StringUTF16", name := "compress", desc := "([CI[BII)I" } : Jvm.MethodName) jdk_52_method_21_code (7 : Nat) (Option.some Jvm.ClassFile.FieldType.int), Jvm.Cond.code ({ cls := "java/lang/StringUTF16", name := "coderFromArrayLen", desc := "([BI)B" } : Jvm.MethodName) jdk_52_method_15_code (2 : Nat) (Option.some Jvm.ClassFile.FieldType.byte), Jvm.Cond.code ({ cls := "com/example/acquirer/acquirer/PageRequest", name := "cursor", desc := "()Ljava/lang/String;" } : Jvm.MethodName) prog_19_method_2_code (1 : Nat) (Option.some (Jvm.ClassFile.FieldType.object "java/lang/String"))]
set_option maxRecDepth 65536 in
theorem codes_eq : words1.filter isCode = codes1 := rfl
theorem w_codes : ∀ c ∈ words1.filter isCode, c.before args0 about1 = true := by
  rw [codes_eq]
  intro c hc
  simp only [codes1, List.mem_cons, List.not_mem_nil, or_false] at hc
  rcases hc with rfl | rfl | rfl | rfl | rfl | rfl | rfl | rfl | rfl | rfl | rfl
  · exact w_c0
  · exact w_c1
  · exact w_c2
  · exact w_c3
  · exact w_c4
  · exact w_c5
  · exact w_c6
  · exact w_c7
  · exact w_c8
  · exact w_c9
  · exact w_c10
set_option maxRecDepth 65536 in
theorem w_t1 : (words1.take 24).all (fun c => isCode c || c.before args0 about1) = true := by decide +kernel
set_option maxRecDepth 65536 in
theorem w_t2 : ((words1.drop 24).take 24).all (fun c => isCode c || c.before args0 about1) = true := by decide +kernel
set_option maxRecDepth 65536 in
theorem w_t3 : ((words1.drop 24).drop 24).all (fun c => isCode c || c.before args0 about1) = true := by decide +kernel
theorem w_tables : (allAtoms (Jvm.Cond.code x code maxLocals ret :: tables_1)).before args0 about1 = true := by
  rw [allAtoms_all]
  show words1.all (fun c => c.before args0 about1) = true
  refine all_split ?_ w_codes
  rw [← List.take_append_drop 24 words1, List.all_append, w_t1, ← List.take_append_drop 24 (words1.drop 24), List.all_append, w_t2, w_t3]
  rfl
set_option maxRecDepth 65536 in
theorem w_rest : rest_1_c.before args0 about1 = true := by decide +kernel
set_option maxRecDepth 65536 in
theorem w_case : (Jvm.Cond.and given_1 narrow_1).before args0 about1 = true := by decide +kernel
set_option maxRecDepth 65536 in
theorem w_consts : constsHeld consts_1 about1 := Jvm.Lit.constsHeldB_iff.mp (by decide +kernel)
theorem w_applies : (headSpec (Jvm.Cond.code x code maxLocals ret :: tables_1) room_1).applies x e0.platform about1 = true :=
  (Spec.applies_iff w_frames).mpr ⟨w_running, w_runnable, w_alone, w_named, w_hears, w_ripe, w_room, w_tables⟩
theorem atStart : AtStart classFile x code maxLocals ret World_1 tables_1 room_1 Calls_1 rest_1 Pre_1 launch0 p0 e0 about1 theMethod args0 below0 :=
  ⟨lists_1, trivial, launch0.admits_env _ _ _, launch0.least_env, fairChoices_fair.cas, fairChoices_fair.clock, w_frames, w_args, w_heap, w_applies, ⟨w_consts, trivial⟩, w_rest, w_case⟩
end start1
theorem witness_1 : WitnessClaimed_1 := ⟨start1.p0, start1.e0, start1.about1, start1.theMethod, start1.args0, start1.below0, start1.atStart⟩
end Jvm.Pilot.@@N@@
