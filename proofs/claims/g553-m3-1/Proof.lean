import JvmDerived
import JvmDerived.Pilot.@@N@@Statement
import JvmDerived.Pilot.@@N@@Code
set_option linter.unusedVariables false
set_option linter.unusedSimpArgs false
/- laws to paste: Road.backV (cut by pick.py; bodies as the Statement names them) -/
namespace Jvm.Pilot.@@N@@
namespace StrChars
open Jvm Sem ClassFile Op Lib Jvm.Stand Jvm.Free.XT Jvm.Free.ALB Jvm.Free.JM Jvm.Free
open Jvm.Lib.Cold (StaticIs)
/-- a char array whose places are chars -/
def Ch (a : Addr) (A : Cell) (U : State) : Prop := Arr .char a A U ∧ Typed .char A
theorem Ch.mv {a : Addr} {A : Cell} {U U' : State} (h : Ch a A U) (hal : U.vm.Alike U'.vm) (hh : U'.heap = U.heap) : Ch a A U' := ⟨h.1.mv hal hh, h.2⟩
theorem Ch.keep {a : Addr} {A : Cell} {U U' : State} (h : Ch a A U) (hal : U.vm.Alike U'.vm) (hk : U'.heap[a]? = some A) : Ch a A U' := ⟨h.1.keep hal hk, h.2⟩
/-- what place i of a char[]'s cell holds -/
def cv (A : Cell) (i : Nat) : Int32 := match A.slots[i]? with | some (.int x) => x | _ => 0
theorem Ch.get {a : Addr} {A : Cell} {U : State} (h : Ch a A U) {i : Nat} (hi : i < A.slots.size) : A.slots[i]? = some (.int (cv A i)) := by
  have e := Array.getElem?_eq_getElem hi
  have f := h.2 i _ e
  unfold cv; rw [e]
  generalize A.slots[i] = v at f
  cases v <;> simp [fits] at f ⊢
/-- the byte that i2b leaves of a char -/
def lo8 (x : Int32) : Int32 := x.toInt8.toInt32
theorem fits_lo8 (y : Int32) : fits .byte (.int (lo8 y)) = true := by
  have h1 := y.toInt8.le_toInt
  have h2 := y.toInt8.toInt_lt
  simp only [lo8, fits, Bool.and_eq_true, decide_eq_true_eq, Int32.le_iff_toInt_le, Int8.toInt_toInt32, show (-128 : Int32).toInt = -128 from by decide, show (127 : Int32).toInt = 127 from by decide]
  omega
/-- A' is A but that each place j of lo .. hi - 1 holds f j -/
def Laid (A A' : Cell) (lo hi : Nat) (f : Nat → Value) : Prop := A'.cls = A.cls ∧ A'.vm = A.vm ∧ A'.slots.size = A.slots.size ∧ ∀ i, A'.slots[i]? = if lo ≤ i ∧ i < hi then some (f i) else A.slots[i]?
theorem Laid.zero (A : Cell) (lo : Nat) (f : Nat → Value) : Laid A A lo (lo + 0) f := ⟨rfl, rfl, rfl, fun i => by rw [if_neg (by omega)]⟩
theorem Laid.step {A Ak : Cell} {lo k : Nat} {f : Nat → Value} {v : Value} (h : Laid A Ak lo k f) (hlo : lo ≤ k) (hk : k < Ak.slots.size) (hv : v = f k) : Laid A (Ak.setSlot k v) lo (k + 1) f := by
  refine ⟨h.1, h.2.1, by simpa [Cell.setSlot] using h.2.2.1, fun i => ?_⟩
  by_cases e : k = i
  · subst e; rw [Cell.slots_setSlot_self v hk, if_pos (by omega), hv]
  · rw [Cell.slots_setSlot_ne v e, h.2.2.2 i]
    by_cases q : lo ≤ i ∧ i < k
    · rw [if_pos q, if_pos (by omega)]
    · rw [if_neg q, if_neg (by omega)]
def U16 : String := "java/lang/StringUTF16"
namespace Cmp5
def yN : MethodName := ⟨"java/lang/StringUTF16", "compress", "([CI[BII)I"⟩
abbrev yB : ByteArray := jdk_52_method_21_code
theorem d0 : decode yB 0 = .ok (.iconst 0, 1) := by decide +kernel
theorem d1 : decode yB 1 = .ok (.istore 5, 2) := by decide +kernel
theorem d3 : decode yB 3 = .ok (.iload 5, 2) := by decide +kernel
theorem d5 : decode yB 5 = .ok (.iload 4, 2) := by decide +kernel
theorem d7 : decode yB 7 = .ok (.if_icmp (.ge) 37, 3) := by decide +kernel
theorem d10 : decode yB 10 = .ok (.aload_n 0, 1) := by decide +kernel
theorem d11 : decode yB 11 = .ok (.iload_n 1, 1) := by decide +kernel
theorem d12 : decode yB 12 = .ok (.caload, 1) := by decide +kernel
theorem d13 : decode yB 13 = .ok (.istore 6, 2) := by decide +kernel
theorem d15 : decode yB 15 = .ok (.iload 6, 2) := by decide +kernel
theorem d17 : decode yB 17 = .ok (.sipush 255, 3) := by decide +kernel
theorem d20 : decode yB 20 = .ok (.if_icmp (.le) 6, 3) := by decide +kernel
theorem d26 : decode yB 26 = .ok (.aload_n 2, 1) := by decide +kernel
theorem d27 : decode yB 27 = .ok (.iload_n 3, 1) := by decide +kernel
theorem d28 : decode yB 28 = .ok (.iload 6, 2) := by decide +kernel
theorem d30 : decode yB 30 = .ok (.i2b, 1) := by decide +kernel
theorem d31 : decode yB 31 = .ok (.bastore, 1) := by decide +kernel
theorem d32 : decode yB 32 = .ok (.iinc 1 1, 3) := by decide +kernel
theorem d35 : decode yB 35 = .ok (.iinc 3 1, 3) := by decide +kernel
theorem d38 : decode yB 38 = .ok (.iinc 5 1, 3) := by decide +kernel
theorem d41 : decode yB 41 = .ok (.goto (-38), 3) := by decide +kernel
theorem d44 : decode yB 44 = .ok (.iload 4, 2) := by decide +kernel
theorem d46 : decode yB 46 = .ok (.ireturn, 1) := by decide +kernel
def site : List Cond := []
def tab : Cond := tabOf yN yB 7 (some .int) site
def P (b : Addr) (A : Cell) (d : Addr) (B : Cell) (o q len : Nat) (args : Array Value) (s : State) : Prop := args = #[.ref b, .int (Int32.ofNat o), .ref d, .int (Int32.ofNat q), .int (Int32.ofNat len)] ∧ Ch b A s ∧ Arr .byte d B s ∧ b ≠ d ∧ o + len ≤ A.slots.size ∧ q + len ≤ B.slots.size ∧ ∀ i, i < len → ¬ 255 < cv A (o + i)
def E (b : Addr) (A : Cell) (d : Addr) (B : Cell) (o q len : Nat) (r : Option Value) (s u : State) : Prop := r = some (.int (Int32.ofNat len)) ∧ ∃ B', Put d B' s u ∧ Laid B B' q (q + len) (fun j => Value.int (lo8 (cv A (o + (j - q)))))
/-- no char of the range above 255: len; the places written hold each char's low byte -/
theorem law (l : Launch) (b : Addr) (A : Cell) (d : Addr) (B : Cell) (o q len : Nat) : Law l yN 5 5 0 0 yB 7 (some .int) site (P b A d B o q len) (E b A d B o q len) (copyLocs d q len) 0 0 := by
  refine Law.of_walk (plainFor_of_name (by decide +kernel)) (by decide +kernel) (by decide +kernel) (by decide) (fun _ _ h => by rw [h.1]; rfl) (fun _ U U' hal hh h => ⟨h.1, h.2.1.mv hal hh, h.2.2.1.mv hal hh, h.2.2.2⟩) (fun r U U' V V' h1 hal h2 h => ⟨h.1, h.2.elim fun B' q => ⟨B', q.1.mv h1 h2, q.2⟩⟩) ?_
  intro p e s m args below meth c s₁ X0 hexec hbytes hml hret hlk hnm hown hh0 W hP
  obtain ⟨rfl, hA, hB, hne, l1, l2, hp⟩ := hP
  have c1 : Steps p.tables e below (s₁.setTop (entryFrame m #[.ref b, .int (Int32.ofNat o), .ref d, .int (Int32.ofNat q), .int (Int32.ofNat len)] 7)) (s₁.setTop (mkF m 0 #[.val (.ref b), .val (.int (Int32.ofNat o)), .val (.ref d), .val (.int (Int32.ofNat q)), .val (.int (Int32.ofNat len)), .unset, .unset] [])) := entry rfl
  have hA0 := hA.1.mv X0.warmed.alike hh0
  have hB0 := hB.mv X0.warmed.alike hh0
  have a31 := hA.1.2.2.2
  have c2 : Steps p.tables e below (s₁.setTop (entryFrame m #[.ref b, .int (Int32.ofNat o), .ref d, .int (Int32.ofNat q), .int (Int32.ofNat len)] 7)) (s₁.setTop (mkF m 3 #[.val (.ref b), .val (.int (Int32.ofNat o)), .val (.ref d), .val (.int (Int32.ofNat q)), .val (.int (Int32.ofNat len)), .val (.int 0), .unset] [])) := c1.trans (by
    refine iconstV X0.here hexec rfl 0 (hb hbytes d0) (by decide) ?_
    refine XS.istore X0.here hexec rfl (hb hbytes d1) rfl rfl ?_
    exact Steps.refl _)
  have loop : ∀ (r i : Nat), i + r = len → ∀ (z : Slot), (z = .unset ∨ ∃ w, z = .val w ∧ w.category = 1) → ∀ (Tl : State) (Bk : Cell), Stand p l e { frames := 0, locals := 0, cells := 0, slots := 0 } s m #[.ref b, .int (Int32.ofNat o), .ref d, .int (Int32.ofNat q), .int (Int32.ofNat len)] below meth c Tl ([] ++ copyLocs d q i) 0 0 → Put d Bk s₁ Tl → Laid B Bk q (q + i) (fun j => Value.int (lo8 (cv A (o + (j - q))))) →
      Steps p.tables e below (s₁.setTop (entryFrame m #[.ref b, .int (Int32.ofNat o), .ref d, .int (Int32.ofNat q), .int (Int32.ofNat len)] 7)) (Tl.setTop (mkF m 3 #[.val (.ref b), .val (.int (Int32.ofNat (o + i))), .val (.ref d), .val (.int (Int32.ofNat (q + i))), .val (.int (Int32.ofNat len)), .val (.int (Int32.ofNat i)), z] [])) → ∃ (T' : State) (B' : Cell) (z' : Slot), Stand p l e { frames := 0, locals := 0, cells := 0, slots := 0 } s m #[.ref b, .int (Int32.ofNat o), .ref d, .int (Int32.ofNat q), .int (Int32.ofNat len)] below meth c T' ([] ++ copyLocs d q len) 0 0 ∧ Put d B' s₁ T' ∧ Laid B B' q (q + len) (fun j => Value.int (lo8 (cv A (o + (j - q))))) ∧
      Steps p.tables e below (s₁.setTop (entryFrame m #[.ref b, .int (Int32.ofNat o), .ref d, .int (Int32.ofNat q), .int (Int32.ofNat len)] 7)) (T'.setTop (mkF m 3 #[.val (.ref b), .val (.int (Int32.ofNat (o + len))), .val (.ref d), .val (.int (Int32.ofNat (q + len))), .val (.int (Int32.ofNat len)), .val (.int (Int32.ofNat len)), z'] [])) := by
    intro r
    induction r with
    | zero =>
      intro i hi z hz Tl Bk Xl pl fl cl
      have hil : i = len := by omega
      rw [hil] at Xl fl cl
      exact ⟨Tl, Bk, z, Xl, pl, fl, cl⟩
    | succ r ih =>
      intro i hi z hz Tl Bk Xl pl fl cl
      have all := X0.warmed.alike.symm.trans Xl.warmed.alike
      have hAl := hA0.keep all (pl.other hne hA0.1)
      have hBk := hB0.like all pl.1 fl.1 fl.2.1 fl.2.2.1
      have hlt : q + i < Bk.slots.size := by rw [fl.2.2.1]; omega
      have c3 : Steps p.tables e below (s₁.setTop (entryFrame m #[.ref b, .int (Int32.ofNat o), .ref d, .int (Int32.ofNat q), .int (Int32.ofNat len)] 7)) (Tl.setTop (mkF m 12 #[.val (.ref b), .val (.int (Int32.ofNat (o + i))), .val (.ref d), .val (.int (Int32.ofNat (q + i))), .val (.int (Int32.ofNat len)), .val (.int (Int32.ofNat i)), z] [.int (Int32.ofNat (o + i)), .ref b])) := cl.trans (by
        refine XS.iload Xl.here hexec rfl (hb hbytes d3) rfl ?_
        refine XS.iload Xl.here hexec rfl (hb hbytes d5) rfl ?_
        refine XS.icmpNo Xl.here hexec rfl (hb hbytes d7) rfl (ii_ge_f (lt32 (by omega) (by omega))) ?_
        refine XS.aloadN Xl.here hexec rfl (hb hbytes d10) rfl rfl ?_
        refine XS.iloadN Xl.here hexec rfl (hb hbytes d11) rfl ?_
        exact Steps.refl _)
      have c4 : Steps p.tables e below (s₁.setTop (entryFrame m #[.ref b, .int (Int32.ofNat o), .ref d, .int (Int32.ofNat q), .int (Int32.ofNat len)] 7)) (Tl.setTop (mkF m 13 #[.val (.ref b), .val (.int (Int32.ofNat (o + i))), .val (.ref d), .val (.int (Int32.ofNat (q + i))), .val (.int (Int32.ofNat len)), .val (.int (Int32.ofNat i)), z] [.int (cv A (o + i))])) := c3.trans (by
        refine Xl.aget hexec hAl rfl (hA.get (i := o + i) (by omega)) rfl rfl (hb hbytes d12) ?_
        exact Steps.refl _)
      have c5 : Steps p.tables e below (s₁.setTop (entryFrame m #[.ref b, .int (Int32.ofNat o), .ref d, .int (Int32.ofNat q), .int (Int32.ofNat len)] 7)) (Tl.setTop (mkF m 15 #[.val (.ref b), .val (.int (Int32.ofNat (o + i))), .val (.ref d), .val (.int (Int32.ofNat (q + i))), .val (.int (Int32.ofNat len)), .val (.int (Int32.ofNat i)), .val (.int (cv A (o + i)))] [])) := c4.trans (by
        refine XS.istoreS Xl.here hexec rfl (hb hbytes d13) rfl rfl hz ?_
        exact Steps.refl _)
      have c6 : Steps p.tables e below (s₁.setTop (entryFrame m #[.ref b, .int (Int32.ofNat o), .ref d, .int (Int32.ofNat q), .int (Int32.ofNat len)] 7)) (Tl.setTop (mkF m 31 #[.val (.ref b), .val (.int (Int32.ofNat (o + i))), .val (.ref d), .val (.int (Int32.ofNat (q + i))), .val (.int (Int32.ofNat len)), .val (.int (Int32.ofNat i)), .val (.int (cv A (o + i)))] [.int (lo8 (cv A (o + i))), .int (Int32.ofNat (q + i)), .ref d])) := c5.trans (by
        refine XS.iload Xl.here hexec rfl (hb hbytes d15) rfl ?_
        refine sipushV Xl.here hexec rfl 255 (hb hbytes d17) (by decide) ?_
        refine XS.icmpYes Xl.here hexec rfl (pc0 := 20) rfl (hb hbytes d20) rfl (ii_le_t (hp i (by omega))) (by decide) rfl ?_
        refine XS.aloadN Xl.here hexec rfl (hb hbytes d26) rfl rfl ?_
        refine XS.iloadN Xl.here hexec rfl (hb hbytes d27) rfl ?_
        refine XS.iload Xl.here hexec rfl (hb hbytes d28) rfl ?_
        refine i2b Xl.here hexec rfl (hb hbytes d30) rfl ?_
        exact Steps.refl _)
      obtain ⟨T7, X7, p7, st7⟩ := Xl.aput hexec hBk rfl hlt rfl (fits_lo8 (cv A (o + i))) (g := (mkF m 31 #[.val (.ref b), .val (.int (Int32.ofNat (o + i))), .val (.ref d), .val (.int (Int32.ofNat (q + i))), .val (.int (Int32.ofNat len)), .val (.int (Int32.ofNat i)), .val (.int (cv A (o + i)))] [.int (lo8 (cv A (o + i))), .int (Int32.ofNat (q + i)), .ref d])) rfl (rest := []) rfl (hb hbytes d31)
      have c8 : Steps p.tables e below (s₁.setTop (entryFrame m #[.ref b, .int (Int32.ofNat o), .ref d, .int (Int32.ofNat q), .int (Int32.ofNat len)] 7)) (T7.setTop (mkF m 32 #[.val (.ref b), .val (.int (Int32.ofNat (o + i))), .val (.ref d), .val (.int (Int32.ofNat (q + i))), .val (.int (Int32.ofNat len)), .val (.int (Int32.ofNat i)), .val (.int (cv A (o + i)))] [])) := c6.trans (st7 _ (Steps.refl _))
      have c9 : Steps p.tables e below (s₁.setTop (entryFrame m #[.ref b, .int (Int32.ofNat o), .ref d, .int (Int32.ofNat q), .int (Int32.ofNat len)] 7)) (T7.setTop (mkF m 3 #[.val (.ref b), .val (.int (Int32.ofNat (o + i) + 1)), .val (.ref d), .val (.int (Int32.ofNat (q + i) + 1)), .val (.int (Int32.ofNat len)), .val (.int (Int32.ofNat i + 1)), .val (.int (cv A (o + i)))] [])) := c8.trans (by
        refine iincV X7.here hexec rfl 1 (hb hbytes d32) (by decide) rfl rfl ?_
        refine iincV X7.here hexec rfl 1 (hb hbytes d35) (by decide) rfl rfl ?_
        refine iincV X7.here hexec rfl 1 (hb hbytes d38) (by decide) rfl rfl ?_
        refine XS.goto X7.here hexec rfl (pc0 := 41) rfl (hb hbytes d41) (by decide) rfl ?_
        exact Steps.refl _)
      have c10 : Steps p.tables e below (s₁.setTop (entryFrame m #[.ref b, .int (Int32.ofNat o), .ref d, .int (Int32.ofNat q), .int (Int32.ofNat len)] 7)) (T7.setTop (mkF m 3 #[.val (.ref b), .val (.int (Int32.ofNat (o + (i + 1)))), .val (.ref d), .val (.int (Int32.ofNat (q + (i + 1)))), .val (.int (Int32.ofNat len)), .val (.int (Int32.ofNat (i + 1))), .val (.int (cv A (o + i)))] [])) := by
        have := c9
        rw [succ32, succ32, succ32] at this
        exact this
      exact ih (i + 1) (by omega) _ (Or.inr ⟨_, rfl, rfl⟩) T7 _ (by rw [copyLocs_step, ← List.append_assoc]; exact X7) (pl.trans p7) (fl.step (by omega) hlt (by simp)) c10
  obtain ⟨T9, B9, z9, X9, p9, f9, g9⟩ := loop len 0 (by omega) .unset (Or.inl rfl) s₁ B (by simpa [copyLocs] using X0) ⟨hB0.1, fun _ _ => rfl, rfl⟩ (Laid.zero _ _ _) c2
  have c11 : Steps p.tables e below (s₁.setTop (entryFrame m #[.ref b, .int (Int32.ofNat o), .ref d, .int (Int32.ofNat q), .int (Int32.ofNat len)] 7)) (T9.setTop (mkF m 46 #[.val (.ref b), .val (.int (Int32.ofNat (o + len))), .val (.ref d), .val (.int (Int32.ofNat (q + len))), .val (.int (Int32.ofNat len)), .val (.int (Int32.ofNat len)), z9] [.int (Int32.ofNat len)])) := g9.trans (by
    refine XS.iload X9.here hexec rfl (hb hbytes d3) rfl ?_
    refine XS.iload X9.here hexec rfl (hb hbytes d5) rfl ?_
    refine XS.icmpYes X9.here hexec rfl (pc0 := 7) rfl (hb hbytes d7) rfl (ii_ge_t (nlt32 (by omega) (Nat.le_refl _))) (by decide) rfl ?_
    refine XS.iload X9.here hexec rfl (hb hbytes d44) rfl ?_
    exact Steps.refl _)
  exact ⟨T9, some (.int (Int32.ofNat len)), _, _, _, X9, by simp, rfl, rfl, (fun h => by cases h), ⟨rfl, B9, p9.from hh0, f9⟩, fun fs hl => c11.trans (X9.ireturnOut hexec hret rfl (Or.inl rfl) (hb hbytes d46) hl)⟩
end Cmp5
namespace Cmp3
def yN : MethodName := ⟨"java/lang/StringUTF16", "compress", "([CII)[B"⟩
abbrev yB : ByteArray := jdk_52_method_16_code
theorem d0 : decode yB 0 = .ok (.iload_n 2, 1) := by decide +kernel
theorem d1 : decode yB 1 = .ok (.newarray .byte, 2) := by decide +kernel
theorem d3 : decode yB 3 = .ok (.astore_n 3, 1) := by decide +kernel
theorem d4 : decode yB 4 = .ok (.aload_n 0, 1) := by decide +kernel
theorem d5 : decode yB 5 = .ok (.iload_n 1, 1) := by decide +kernel
theorem d6 : decode yB 6 = .ok (.aload_n 3, 1) := by decide +kernel
theorem d7 : decode yB 7 = .ok (.iconst 0, 1) := by decide +kernel
theorem d8 : decode yB 8 = .ok (.iload_n 2, 1) := by decide +kernel
theorem d9 : decode yB 9 = .ok (.invokestatic 115, 3) := by decide +kernel
theorem d12 : decode yB 12 = .ok (.istore 4, 2) := by decide +kernel
theorem d14 : decode yB 14 = .ok (.iload 4, 2) := by decide +kernel
theorem d16 : decode yB 16 = .ok (.iload_n 2, 1) := by decide +kernel
theorem d17 : decode yB 17 = .ok (.if_icmp (.eq) 40, 3) := by decide +kernel
theorem d57 : decode yB 57 = .ok (.aload_n 3, 1) := by decide +kernel
theorem d58 : decode yB 58 = .ok (.areturn, 1) := by decide +kernel
def site : List Cond := [.arrayClass .byte, Cmp5.tab] ++ staticW U16 115 Cmp5.yN
def tab : Cond := tabOf yN yB 6 (some (.array .byte)) site
def P (b : Addr) (A : Cell) (o len : Nat) (args : Array Value) (s : State) : Prop := args = #[.ref b, .int (Int32.ofNat o), .int (Int32.ofNat len)] ∧ Ch b A s ∧ o + len ≤ A.slots.size ∧ len ≤ 536870912 ∧ ∀ i, i < len → ¬ 255 < cv A (o + i)
def E (b : Addr) (A : Cell) (o len : Nat) (r : Option Value) (s u : State) : Prop := NewArr .byte "[B" len (fun j => .int (lo8 (cv A (o + j)))) r s u ∧ u.heap.size = s.heap.size + 1
/-- no char of the range above 255: a new byte[] of their low bytes -/
theorem law (l : Launch) (b : Addr) (A : Cell) (o len : Nat) : Law l yN 3 3 1 18 yB 6 (some (.array .byte)) site (P b A o len) (E b A o len) [] 1 len := by
  refine Law.of_walk (plainFor_of_name (by decide +kernel)) (by decide +kernel) (by decide +kernel) (by decide) (fun _ _ h => by rw [h.1]; rfl) (fun _ U U' hal hh h => ⟨h.1, h.2.1.mv hal hh, h.2.2⟩) (fun r U U' V V' h1 hal h2 h => ⟨NewArr.mv r U U' V V' h1 hal h2 h.1, by rw [h1, h2]; exact h.2⟩) ?_
  intro p e s m args below meth c s₁ X0 hexec hbytes hml hret hlk hnm hown hh0 W hP
  obtain ⟨rfl, hA, l1, l2, hp⟩ := hP
  have a31 := hA.1.2.2.2
  have c1 : Steps p.tables e below (s₁.setTop (entryFrame m #[.ref b, .int (Int32.ofNat o), .int (Int32.ofNat len)] 6)) (s₁.setTop (mkF m 0 #[.val (.ref b), .val (.int (Int32.ofNat o)), .val (.int (Int32.ofNat len)), .unset, .unset, .unset] [])) := entry rfl
  have c2 : Steps p.tables e below (s₁.setTop (entryFrame m #[.ref b, .int (Int32.ofNat o), .int (Int32.ofNat len)] 6)) (s₁.setTop (mkF m 1 #[.val (.ref b), .val (.int (Int32.ofNat o)), .val (.int (Int32.ofNat len)), .unset, .unset, .unset] [.int (Int32.ofNat len)])) := c1.trans (by
    refine XS.iloadN X0.here hexec rfl (hb hbytes d0) rfl ?_
    exact Steps.refl _)
  obtain ⟨T3, B3, X3, ba3, bs3, bv3, bh3, bf3, st3⟩ := X0.anew hexec (atype := .byte) (wk W (.arrayClass .byte)) rfl (by show len * 1 ≤ _; omega) (by omega) (g := (mkF m 1 #[.val (.ref b), .val (.int (Int32.ofNat o)), .val (.int (Int32.ofNat len)), .unset, .unset, .unset] [.int (Int32.ofNat len)])) rfl (hb hbytes d1) (rest := []) rfl (Nat.le_refl _) (by show 0 + len ≤ len; omega)
  rw [hh0] at ba3 st3
  have kp3 : XT.Kept s T3 := (XT.Kept.of_eq hh0).push bh3
  have hA3 := hA.keep X3.warmed.alike (kp3 _ _ hA.1.1)
  have hne : b ≠ s.heap.size := hA.1.ne
  have c4 : Steps p.tables e below (s₁.setTop (entryFrame m #[.ref b, .int (Int32.ofNat o), .int (Int32.ofNat len)] 6)) (T3.setTop (mkF m 3 #[.val (.ref b), .val (.int (Int32.ofNat o)), .val (.int (Int32.ofNat len)), .unset, .unset, .unset] [.ref s.heap.size])) := c2.trans (st3 _ (Steps.refl _))
  have c5 : Steps p.tables e below (s₁.setTop (entryFrame m #[.ref b, .int (Int32.ofNat o), .int (Int32.ofNat len)] 6)) (T3.setTop (mkF m 9 #[.val (.ref b), .val (.int (Int32.ofNat o)), .val (.int (Int32.ofNat len)), .val (.ref s.heap.size), .unset, .unset] [.int (Int32.ofNat len), .int 0, .ref s.heap.size, .int (Int32.ofNat o), .ref b])) := c4.trans (by
    refine XS.astoreN X3.here hexec rfl (hb hbytes d3) rfl rfl rfl ?_
    refine XS.aloadN X3.here hexec rfl (hb hbytes d4) rfl rfl ?_
    refine XS.iloadN X3.here hexec rfl (hb hbytes d5) rfl ?_
    refine XS.aloadN X3.here hexec rfl (hb hbytes d6) rfl rfl ?_
    refine iconstV X3.here hexec rfl 0 (hb hbytes d7) (by decide) ?_
    refine XS.iloadN X3.here hexec rfl (hb hbytes d8) rfl ?_
    exact Steps.refl _)
  obtain ⟨v6, T6, X6, E6, g6⟩ := X3.callS hexec (Cmp5.law l b A s.heap.size B3 o 0 len) hown (wks W (staticW U16 115 Cmp5.yN)) (wk W Cmp5.tab) (W := 0) (Nat.le_of_ble_eq_true rfl) (Nat.le_of_ble_eq_true rfl) (Nat.le_refl _) (by show 0 + len + 0 ≤ len; omega) (g := (mkF m 9 #[.val (.ref b), .val (.int (Int32.ofNat o)), .val (.int (Int32.ofNat len)), .val (.ref s.heap.size), .unset, .unset] [.int (Int32.ofNat len), .int (Int32.ofNat 0), .ref s.heap.size, .int (Int32.ofNat o), .ref b])) rfl (by rw [hml]; rfl) c5 (argsL := [.ref b, .int (Int32.ofNat o), .ref s.heap.size, .int (Int32.ofNat 0), .int (Int32.ofNat len)]) (rest := []) rfl rfl (by show 2 * 0 + 0 ≤ _; decide) (hb hbytes d9) (⟨rfl, hA3, ba3, hne, l1, by rw [bs3]; simp, hp⟩)
  obtain ⟨rfl, B6, p6, f6⟩ := E6
  have c7 : Steps p.tables e below (s₁.setTop (entryFrame m #[.ref b, .int (Int32.ofNat o), .int (Int32.ofNat len)] 6)) (T6.setTop (mkF m 12 #[.val (.ref b), .val (.int (Int32.ofNat o)), .val (.int (Int32.ofNat len)), .val (.ref s.heap.size), .unset, .unset] [.int (Int32.ofNat len)])) := g6
  have c8 : Steps p.tables e below (s₁.setTop (entryFrame m #[.ref b, .int (Int32.ofNat o), .int (Int32.ofNat len)] 6)) (T6.setTop (mkF m 58 #[.val (.ref b), .val (.int (Int32.ofNat o)), .val (.int (Int32.ofNat len)), .val (.ref s.heap.size), .val (.int (Int32.ofNat len)), .unset] [.ref s.heap.size])) := c7.trans (by
    refine XS.istore X6.here hexec rfl (hb hbytes d12) rfl rfl ?_
    refine XS.iload X6.here hexec rfl (hb hbytes d14) rfl ?_
    refine XS.iloadN X6.here hexec rfl (hb hbytes d16) rfl ?_
    refine XS.icmpYes X6.here hexec rfl (pc0 := 17) rfl (hb hbytes d17) rfl (ii_eq_t rfl) (by decide) rfl ?_
    refine XS.aloadN X6.here hexec rfl (hb hbytes d57) rfl rfl ?_
    exact Steps.refl _)
  have X8 := X6.wide (L' := []) (cells' := 1) (slots' := len) (fun x hx hlt => by
    simp only [List.nil_append, copyLocs, List.mem_map, List.mem_range] at hx
    obtain ⟨i, -, rfl⟩ := hx
    exact absurd hlt (Nat.lt_irrefl _)) (Nat.le_refl _) (by omega)
  exact ⟨T6, some (.ref s.heap.size), _, _, _, X8, rfl, rfl, rfl, (fun h => by cases h), ⟨⟨rfl, B6, ba3.like (X3.warmed.alike.symm.trans X6.warmed.alike) p6.1 f6.1 f6.2.1 f6.2.2.1, f6.2.1.trans bv3, by rw [X6.warmed.alike.findClass, f6.1]; exact bf3, by rw [f6.2.2.1, bs3]; simp, fun j hj => by rw [f6.2.2.2 j, if_pos (by omega)]; rfl, kp3.put p6 (Nat.le_refl _)⟩, by rw [p6.2.2, bh3, hh0]; simp⟩, fun fs hl => c8.trans (X8.areturnOut hexec rfl hret rfl (hb hbytes d58) hl)⟩
end Cmp3
namespace CodL
def yN : MethodName := ⟨"java/lang/StringUTF16", "coderFromArrayLen", "([BI)B"⟩
abbrev yB : ByteArray := jdk_52_method_15_code
theorem d0 : decode yB 0 = .ok (.iload_n 1, 1) := by decide +kernel
theorem d1 : decode yB 1 = .ok (.aload_n 0, 1) := by decide +kernel
theorem d2 : decode yB 2 = .ok (.arraylength, 1) := by decide +kernel
theorem d3 : decode yB 3 = .ok (.isub, 1) := by decide +kernel
theorem d4 : decode yB 4 = .ok (.bipush 31, 2) := by decide +kernel
theorem d6 : decode yB 6 = .ok (.iushr, 1) := by decide +kernel
theorem d7 : decode yB 7 = .ok (.i2b, 1) := by decide +kernel
theorem d8 : decode yB 8 = .ok (.ireturn, 1) := by decide +kernel
def site : List Cond := []
def tab : Cond := tabOf yN yB 2 (some .byte) site
def P (d : Addr) (B : Cell) (args : Array Value) (s : State) : Prop := args = #[.ref d, .int (Int32.ofNat B.slots.size)] ∧ Arr .byte d B s
def E (r : Option Value) (s u : State) : Prop := XT.PureE (some (.int 0)) r s u
/-- an array as long as the number of chars: LATIN1 -/
theorem law (l : Launch) (d : Addr) (B : Cell) : Law l yN 2 2 0 0 yB 2 (some .byte) site (P d B) E [] 0 0 := by
  refine Law.of_walk (plainFor_of_name (by decide +kernel)) (by decide +kernel) (by decide +kernel) (by decide) (fun _ _ h => by rw [h.1]; rfl) (fun _ U U' hal hh h => ⟨h.1, h.2.mv hal hh⟩) (fun r U U' V V' h1 hal h2 h => XT.PureE.mv r U U' V V' h1 hal h2 h) ?_
  intro p e s m args below meth c s₁ X0 hexec hbytes hml hret hlk hnm hown hh0 W hP
  obtain ⟨rfl, hB⟩ := hP
  have hB0 := hB.mv X0.warmed.alike hh0
  have c1 : Steps p.tables e below (s₁.setTop (entryFrame m #[.ref d, .int (Int32.ofNat B.slots.size)] 2)) (s₁.setTop (mkF m 0 #[.val (.ref d), .val (.int (Int32.ofNat B.slots.size))] [])) := entry rfl
  have c2 : Steps p.tables e below (s₁.setTop (entryFrame m #[.ref d, .int (Int32.ofNat B.slots.size)] 2)) (s₁.setTop (mkF m 2 #[.val (.ref d), .val (.int (Int32.ofNat B.slots.size))] [.ref d, .int (Int32.ofNat B.slots.size)])) := c1.trans (by
    refine XS.iloadN X0.here hexec rfl (hb hbytes d0) rfl ?_
    refine XS.aloadN X0.here hexec rfl (hb hbytes d1) rfl rfl ?_
    exact Steps.refl _)
  have c3 : Steps p.tables e below (s₁.setTop (entryFrame m #[.ref d, .int (Int32.ofNat B.slots.size)] 2)) (s₁.setTop (mkF m 8 #[.val (.ref d), .val (.int (Int32.ofNat B.slots.size))] [.int (lo8 (ushr (Int32.ofNat B.slots.size - Int32.ofNat B.slots.size) 31))])) := c2.trans (by
    refine X0.alen hexec hB0 rfl rfl (hb hbytes d2) ?_
    refine XS.isub X0.here hexec rfl (hb hbytes d3) rfl ?_
    refine bipushV X0.here hexec rfl 31 (hb hbytes d4) (by decide) ?_
    refine iushr X0.here hexec rfl (hb hbytes d6) rfl ?_
    refine i2b X0.here hexec rfl (hb hbytes d7) rfl ?_
    exact Steps.refl _)
  have e0 : lo8 (ushr (Int32.ofNat B.slots.size - Int32.ofNat B.slots.size) 31) = 0 := by rw [Int32.sub_self]; decide
  rw [e0] at c3
  exact ⟨s₁, some (.int 0), _, _, _, X0, rfl, rfl, rfl, (fun h => by cases h), ⟨rfl, hh0⟩, fun fs hl => c3.trans (X0.ireturnOut hexec hret rfl (Or.inr (Or.inr (Or.inl rfl))) (hb hbytes d8) hl)⟩
end CodL
/-- the String at a is Latin-1 over a new byte[] (the heap's one new cell): the low bytes of the len chars of A from o on; every cell but a is kept -/
def Got (a : Addr) (D : Cell) (fV fC : Field) (A : Cell) (o len : Nat) (r : Option Value) (s u : State) : Prop := r = none ∧ ∃ D' V : Cell, Blank "java/lang/String" a D' u ∧ Same D D' [fV.slot, fC.slot] ∧ D'.slots[fV.slot]? = some (.ref s.heap.size) ∧ D'.slots[fC.slot]? = some (.int 0) ∧ Arr .byte s.heap.size V u ∧ V.vm = .none ∧ u.vm.findClass "[B" = some V.cls ∧ V.slots.size = len ∧ (∀ j, j < len → V.slots[j]? = some (.int (lo8 (cv A (o + j))))) ∧ (∀ (y : Addr) (c : Cell), y ≠ a → s.heap[y]? = some c → u.heap[y]? = some c) ∧ u.heap.size = s.heap.size + 1
theorem Got.mv {a : Addr} {D A : Cell} {fV fC : Field} {o len : Nat} : ∀ r (U U' V V' : State), U'.heap = U.heap → V.vm.Alike V'.vm → V'.heap = V.heap → Got a D fV fC A o len r U V → Got a D fV fC A o len r U' V' :=
  fun r U U' V V' h1 hal h2 ⟨e0, D', X, a1, a2, a3, a4, a5, a6, a7, a8, a9, a10, a11⟩ => ⟨e0, D', X, a1.mv hal h2, a2, by rw [h1]; exact a3, a4, by rw [h1]; exact a5.mv hal h2, a6, by rw [hal.findClass]; exact a7, a8, a9, by rw [h1, h2]; exact a10, by rw [h1, h2]; exact a11⟩
namespace New4
def yN : MethodName := ⟨"java/lang/String", "<init>", "([CIILjava/lang/Void;)V"⟩
abbrev yB : ByteArray := jdk_42_method_149_code
theorem d0 : decode yB 0 = .ok (.aload_n 0, 1) := by decide +kernel
theorem d1 : decode yB 1 = .ok (.invokespecial 1, 3) := by decide +kernel
theorem d4 : decode yB 4 = .ok (.iload_n 3, 1) := by decide +kernel
theorem d5 : decode yB 5 = .ok (.ifCond (.ne) 22, 3) := by decide +kernel
theorem d27 : decode yB 27 = .ok (.getstatic 38, 3) := by decide +kernel
theorem d30 : decode yB 30 = .ok (.ifCond (.eq) 28, 3) := by decide +kernel
theorem d33 : decode yB 33 = .ok (.aload_n 1, 1) := by decide +kernel
theorem d34 : decode yB 34 = .ok (.iload_n 2, 1) := by decide +kernel
theorem d35 : decode yB 35 = .ok (.iload_n 3, 1) := by decide +kernel
theorem d36 : decode yB 36 = .ok (.invokestatic 177, 3) := by decide +kernel
theorem d39 : decode yB 39 = .ok (.astore 5, 2) := by decide +kernel
theorem d41 : decode yB 41 = .ok (.aload_n 0, 1) := by decide +kernel
theorem d42 : decode yB 42 = .ok (.aload 5, 2) := by decide +kernel
theorem d44 : decode yB 44 = .ok (.iload_n 3, 1) := by decide +kernel
theorem d45 : decode yB 45 = .ok (.invokestatic 47, 3) := by decide +kernel
theorem d48 : decode yB 48 = .ok (.putfield 15, 3) := by decide +kernel
theorem d51 : decode yB 51 = .ok (.aload_n 0, 1) := by decide +kernel
theorem d52 : decode yB 52 = .ok (.aload 5, 2) := by decide +kernel
theorem d54 : decode yB 54 = .ok (.putfield 9, 3) := by decide +kernel
theorem d57 : decode yB 57 = .ok (.return_, 1) := by decide +kernel
def site : List Cond := [.fieldLink "java/lang/String" 38 "java/lang/String" "COMPACT_STRINGS" "Z", Cmp3.tab, CodL.tab, .laysFinal "java/lang/String" "java/lang/String" "value" "[B", .fieldLink "java/lang/String" 9 "java/lang/String" "value" "[B", .laysFinal "java/lang/String" "java/lang/String" "coder" "B", .fieldLink "java/lang/String" 15 "java/lang/String" "coder" "B"] ++ objW "java/lang/String" 1 ++ staticW "java/lang/String" 177 Cmp3.yN ++ staticW "java/lang/String" 47 CodL.yN
def tab : Cond := tabOf yN yB 6 none site
def P (a : Addr) (D : Cell) (fV fC : Field) (b : Addr) (A : Cell) (z : Int32) (o len : Nat) (args : Array Value) (s : State) : Prop := args = #[.ref a, .ref b, .int (Int32.ofNat o), .int (Int32.ofNat len), .null] ∧ Blank "java/lang/String" a D s ∧ Found "java/lang/String" "value" "[B" fV s ∧ Found "java/lang/String" "coder" "B" fC s ∧ Ch b A s ∧ StaticIs s "java/lang/String" "COMPACT_STRINGS" "Z" (.int z) ∧ ¬ z = 0 ∧ 0 < len ∧ o + len ≤ A.slots.size ∧ len ≤ 536870912 ∧ ∀ i, i < len → ¬ 255 < cv A (o + i)
def E (a : Addr) (D : Cell) (fV fC : Field) (A : Cell) (o len : Nat) (r : Option Value) (s u : State) : Prop := Got a D fV fC A o len r s u
/-- len > 0, no char of the range above 255: a Latin-1 String of their low bytes -/
theorem law (l : Launch) (a : Addr) (D : Cell) (fV fC : Field) (b : Addr) (A : Cell) (z : Int32) (o len : Nat) : Law l yN 5 4 2 35 yB 6 none site (P a D fV fC b A z o len) (E a D fV fC A o len) [⟨a, fC.slot⟩, ⟨a, fV.slot⟩] 1 len := by
  refine Law.of_walk (plainFor_of_name (by decide +kernel)) (by decide +kernel) (by decide +kernel) (by decide) (fun _ _ h => by rw [h.1]; rfl) (fun _ U U' hal hh h => ⟨h.1, h.2.1.mv hal hh, h.2.2.1.al hal, h.2.2.2.1.al hal, h.2.2.2.2.1.mv hal hh, h.2.2.2.2.2.1.there hal hh, h.2.2.2.2.2.2⟩) (fun r U U' V V' h1 hal h2 h => Got.mv r U U' V V' h1 hal h2 h) ?_
  intro p e s m args below meth c s₁ X0 hexec hbytes hml hret hlk hnm hown hh0 W hP
  obtain ⟨rfl, hB, f1, f2, hA, s1, hz, l0, l1, l2, hp⟩ := hP
  have a31 := hA.1.2.2.2
  have c1 : Steps p.tables e below (s₁.setTop (entryFrame m #[.ref a, .ref b, .int (Int32.ofNat o), .int (Int32.ofNat len), .null] 6)) (s₁.setTop (mkF m 0 #[.val (.ref a), .val (.ref b), .val (.int (Int32.ofNat o)), .val (.int (Int32.ofNat len)), .val .null, .unset] [])) := entry rfl
  have c2 : Steps p.tables e below (s₁.setTop (entryFrame m #[.ref a, .ref b, .int (Int32.ofNat o), .int (Int32.ofNat len), .null] 6)) (s₁.setTop (mkF m 1 #[.val (.ref a), .val (.ref b), .val (.int (Int32.ofNat o)), .val (.int (Int32.ofNat len)), .val .null, .unset] [.ref a])) := c1.trans (by
    refine XS.aloadN X0.here hexec rfl (hb hbytes d0) rfl rfl ?_
    exact Steps.refl _)
  obtain ⟨T3, X3, q3, st3⟩ := X0.oinit hexec hown (wks W (objW "java/lang/String" 1)) (g := (mkF m 1 #[.val (.ref a), .val (.ref b), .val (.int (Int32.ofNat o)), .val (.int (Int32.ofNat len)), .val .null, .unset] [.ref a])) rfl (by rw [hml]; rfl) (rest := []) rfl (hb hbytes d1) (W := 0) (by show 2 * 0 + 0 ≤ _; decide) (Nat.le_of_ble_eq_true rfl) (Nat.le_of_ble_eq_true rfl)
  have hh3 := q3.trans hh0
  have c4 : Steps p.tables e below (s₁.setTop (entryFrame m #[.ref a, .ref b, .int (Int32.ofNat o), .int (Int32.ofNat len), .null] 6)) (T3.setTop (mkF m 27 #[.val (.ref a), .val (.ref b), .val (.int (Int32.ofNat o)), .val (.int (Int32.ofNat len)), .val .null, .unset] [])) := (c2.trans (st3 _ (Steps.refl _))).trans (by
    refine XS.iloadN X3.here hexec rfl (hb hbytes d4) rfl ?_
    refine XS.ifYes X3.here hexec rfl (pc0 := 5) rfl (hb hbytes d5) rfl (i0_ne_t (nz32 (by omega) l0)) (by decide) rfl ?_
    exact Steps.refl _)
  obtain ⟨T5, X5, q5, st5⟩ := X3.sget hexec hown (wk W (.fieldLink "java/lang/String" 38 "java/lang/String" "COMPACT_STRINGS" "Z")) s1 (fun _ _ h => by rw [hh3]; exact h) (g := (mkF m 27 #[.val (.ref a), .val (.ref b), .val (.int (Int32.ofNat o)), .val (.int (Int32.ofNat len)), .val .null, .unset] [])) rfl (hb hbytes d27)
  have hh5 := q5.trans hh3
  have c6 : Steps p.tables e below (s₁.setTop (entryFrame m #[.ref a, .ref b, .int (Int32.ofNat o), .int (Int32.ofNat len), .null] 6)) (T5.setTop (mkF m 30 #[.val (.ref a), .val (.ref b), .val (.int (Int32.ofNat o)), .val (.int (Int32.ofNat len)), .val .null, .unset] [.int z])) := c4.trans (st5 _ (Steps.refl _))
  have c7 : Steps p.tables e below (s₁.setTop (entryFrame m #[.ref a, .ref b, .int (Int32.ofNat o), .int (Int32.ofNat len), .null] 6)) (T5.setTop (mkF m 36 #[.val (.ref a), .val (.ref b), .val (.int (Int32.ofNat o)), .val (.int (Int32.ofNat len)), .val .null, .unset] [.int (Int32.ofNat len), .int (Int32.ofNat o), .ref b])) := c6.trans (by
    refine XS.ifNo X5.here hexec rfl (hb hbytes d30) rfl (i0_eq_f hz) ?_
    refine XS.aloadN X5.here hexec rfl (hb hbytes d33) rfl rfl ?_
    refine XS.iloadN X5.here hexec rfl (hb hbytes d34) rfl ?_
    refine XS.iloadN X5.here hexec rfl (hb hbytes d35) rfl ?_
    exact Steps.refl _)
  obtain ⟨v8, T8, X8, E8, g8⟩ := X5.callS hexec (Cmp3.law l b A o len) hown (wks W (staticW "java/lang/String" 177 Cmp3.yN)) (wk W Cmp3.tab) (W := 0) (Nat.le_of_ble_eq_true rfl) (Nat.le_of_ble_eq_true rfl) (Nat.le_refl _) (by show 0 + len ≤ len; omega) (g := (mkF m 36 #[.val (.ref a), .val (.ref b), .val (.int (Int32.ofNat o)), .val (.int (Int32.ofNat len)), .val .null, .unset] [.int (Int32.ofNat len), .int (Int32.ofNat o), .ref b])) rfl (by rw [hml]; rfl) c7 (argsL := [.ref b, .int (Int32.ofNat o), .int (Int32.ofNat len)]) (rest := []) rfl rfl (by show 2 * 0 + 0 ≤ _; decide) (hb hbytes d36) (⟨rfl, hA.mv X5.warmed.alike hh5, l1, l2, hp⟩)
  obtain ⟨e8, z8⟩ := E8
  obtain ⟨rfl, N, n1, n2, n3, n4, n5, n6⟩ := NewArr.mv _ T5 s _ _ hh5.symm (Vm.Alike.refl _) rfl e8
  rw [hh5] at z8
  have hB1 := hB.keep X8.warmed.alike (n6 _ _ hB.1)
  have hne : s.heap.size ≠ a := (Nat.ne_of_lt (Array.getElem?_eq_some_iff.mp hB.1).1).symm
  have c9 : Steps p.tables e below (s₁.setTop (entryFrame m #[.ref a, .ref b, .int (Int32.ofNat o), .int (Int32.ofNat len), .null] 6)) (T8.setTop (mkF m 39 #[.val (.ref a), .val (.ref b), .val (.int (Int32.ofNat o)), .val (.int (Int32.ofNat len)), .val .null, .unset] [.ref s.heap.size])) := g8
  have c10 : Steps p.tables e below (s₁.setTop (entryFrame m #[.ref a, .ref b, .int (Int32.ofNat o), .int (Int32.ofNat len), .null] 6)) (T8.setTop (mkF m 45 #[.val (.ref a), .val (.ref b), .val (.int (Int32.ofNat o)), .val (.int (Int32.ofNat len)), .val .null, .val (.ref s.heap.size)] [.int (Int32.ofNat N.slots.size), .ref s.heap.size, .ref a])) := by
    have hc : Steps p.tables e below (s₁.setTop (entryFrame m #[.ref a, .ref b, .int (Int32.ofNat o), .int (Int32.ofNat len), .null] 6)) (T8.setTop (mkF m 45 #[.val (.ref a), .val (.ref b), .val (.int (Int32.ofNat o)), .val (.int (Int32.ofNat len)), .val .null, .val (.ref s.heap.size)] [.int (Int32.ofNat len), .ref s.heap.size, .ref a])) := c9.trans (by
      refine XS.astore X8.here hexec rfl (hb hbytes d39) rfl rfl rfl ?_
      refine XS.aloadN X8.here hexec rfl (hb hbytes d41) rfl rfl ?_
      refine XS.aload X8.here hexec rfl (hb hbytes d42) rfl rfl ?_
      refine XS.iloadN X8.here hexec rfl (hb hbytes d44) rfl ?_
      exact Steps.refl _)
    rw [n4]; exact hc
  obtain ⟨v11, T11, X11, E11, g11⟩ := X8.callS hexec (CodL.law l s.heap.size N) hown (wks W (staticW "java/lang/String" 47 CodL.yN)) (wk W CodL.tab) (W := 1) (Nat.le_of_ble_eq_true rfl) (Nat.le_of_ble_eq_true rfl) (Nat.le_refl _) (by show 0 + len + 0 ≤ len; omega) (g := (mkF m 45 #[.val (.ref a), .val (.ref b), .val (.int (Int32.ofNat o)), .val (.int (Int32.ofNat len)), .val .null, .val (.ref s.heap.size)] [.int (Int32.ofNat N.slots.size), .ref s.heap.size, .ref a])) rfl (by rw [hml]; rfl) c10 (argsL := [.ref s.heap.size, .int (Int32.ofNat N.slots.size)]) (rest := [.ref a]) rfl rfl (by show 2 * 0 + (1 + 0) ≤ _; decide) (hb hbytes d45) (⟨rfl, n1⟩)
  obtain ⟨rfl, q11⟩ := E11
  have hB11 := hB1.mv (X8.warmed.alike.symm.trans X11.warmed.alike) q11
  have c12 : Steps p.tables e below (s₁.setTop (entryFrame m #[.ref a, .ref b, .int (Int32.ofNat o), .int (Int32.ofNat len), .null] 6)) (T11.setTop (mkF m 48 #[.val (.ref a), .val (.ref b), .val (.int (Int32.ofNat o)), .val (.int (Int32.ofNat len)), .val .null, .val (.ref s.heap.size)] [.int 0, .ref a])) := g11
  obtain ⟨T13, X13, p13, bl13, sl13, st13⟩ := X11.finit hexec hown (wk W (.fieldLink "java/lang/String" 15 "java/lang/String" "coder" "B")) (Or.inr ⟨_, (wk W (.laysFinal "java/lang/String" "java/lang/String" "coder" "B"))⟩) (Or.inl ⟨rfl, hnm⟩) f2 (Or.inl rfl) hB11 (t := .byte) (by decide +kernel) rfl (g := (mkF m 48 #[.val (.ref a), .val (.ref b), .val (.int (Int32.ofNat o)), .val (.int (Int32.ofNat len)), .val .null, .val (.ref s.heap.size)] [.int 0, .ref a])) rfl (rest := []) rfl (hb hbytes d48)
  have c14 : Steps p.tables e below (s₁.setTop (entryFrame m #[.ref a, .ref b, .int (Int32.ofNat o), .int (Int32.ofNat len), .null] 6)) (T13.setTop (mkF m 54 #[.val (.ref a), .val (.ref b), .val (.int (Int32.ofNat o)), .val (.int (Int32.ofNat len)), .val .null, .val (.ref s.heap.size)] [.ref s.heap.size, .ref a])) := (c12.trans (st13 _ (Steps.refl _))).trans (by
    refine XS.aloadN X13.here hexec rfl (hb hbytes d51) rfl rfl ?_
    refine XS.aload X13.here hexec rfl (hb hbytes d52) rfl rfl ?_
    exact Steps.refl _)
  obtain ⟨T15, X15, p15, bl15, sl15, st15⟩ := X13.finit hexec hown (wk W (.fieldLink "java/lang/String" 9 "java/lang/String" "value" "[B")) (Or.inr ⟨_, (wk W (.laysFinal "java/lang/String" "java/lang/String" "value" "[B"))⟩) (Or.inl ⟨rfl, hnm⟩) f1 (Or.inl rfl) bl13 (t := (.array .byte)) (by decide +kernel) rfl (g := (mkF m 54 #[.val (.ref a), .val (.ref b), .val (.int (Int32.ofNat o)), .val (.int (Int32.ofNat len)), .val .null, .val (.ref s.heap.size)] [.ref s.heap.size, .ref a])) rfl (rest := []) rfl (hb hbytes d54)
  have c16 : Steps p.tables e below (s₁.setTop (entryFrame m #[.ref a, .ref b, .int (Int32.ofNat o), .int (Int32.ofNat len), .null] 6)) (T15.setTop (mkF m 57 #[.val (.ref a), .val (.ref b), .val (.int (Int32.ofNat o)), .val (.int (Int32.ofNat len)), .val .null, .val (.ref s.heap.size)] [])) := c14.trans (st15 _ (Steps.refl _))
  have ap := apart (Or.inr ⟨_, (wk W (.laysFinal "java/lang/String" "java/lang/String" "value" "[B"))⟩) (Or.inr ⟨_, (wk W (.laysFinal "java/lang/String" "java/lang/String" "coder" "B"))⟩) f1 f2 (t₁ := .array .byte) (t₂ := .byte) (by decide +kernel) (by decide +kernel) (by decide)
  have al := X8.warmed.alike.symm.trans X15.warmed.alike
  have n7 : T11.heap[s.heap.size]? = some N := by rw [q11]; exact n1.1
  exact ⟨T15, none, _, _, _, X15, by simp, rfl, by omega, (fun _ => rfl), ⟨rfl, _, N, bl15, ((Same.refl D _).set _ (by simp)).set _ (by simp), sl15, (Cell.slots_setSlot_ne _ ap).trans sl13, n1.keep al (p15.other hne (p13.other hne n7)), n2, by rw [al.findClass]; exact n3, n4, n5, fun y c h1 h2 => p15.other h1 (p13.other h1 (by rw [q11]; exact n6 y c h2)), by rw [p15.2.2, p13.2.2, q11]; exact z8⟩, fun fs hl => c16.trans (X15.returnOut hexec hret (hb hbytes d57) hl)⟩
end New4
namespace New1
def yN : MethodName := ⟨"java/lang/String", "<init>", "([C)V"⟩
abbrev yB : ByteArray := jdk_42_method_3_code
theorem d0 : decode yB 0 = .ok (.aload_n 0, 1) := by decide +kernel
theorem d1 : decode yB 1 = .ok (.aload_n 1, 1) := by decide +kernel
theorem d2 : decode yB 2 = .ok (.iconst 0, 1) := by decide +kernel
theorem d3 : decode yB 3 = .ok (.aload_n 1, 1) := by decide +kernel
theorem d4 : decode yB 4 = .ok (.arraylength, 1) := by decide +kernel
theorem d5 : decode yB 5 = .ok (.aconst_null, 1) := by decide +kernel
theorem d6 : decode yB 6 = .ok (.invokespecial 27, 3) := by decide +kernel
theorem d9 : decode yB 9 = .ok (.return_, 1) := by decide +kernel
def site : List Cond := [New4.tab] ++ initW "java/lang/String" 27 New4.yN
def tab : Cond := tabOf yN yB 2 none site
def P (a : Addr) (D : Cell) (fV fC : Field) (b : Addr) (A : Cell) (z : Int32) (args : Array Value) (s : State) : Prop := args = #[.ref a, .ref b] ∧ Blank "java/lang/String" a D s ∧ Found "java/lang/String" "value" "[B" fV s ∧ Found "java/lang/String" "coder" "B" fC s ∧ Ch b A s ∧ StaticIs s "java/lang/String" "COMPACT_STRINGS" "Z" (.int z) ∧ ¬ z = 0 ∧ 0 < A.slots.size ∧ A.slots.size ≤ 536870912 ∧ ∀ i, i < A.slots.size → ¬ 255 < cv A i
def E (a : Addr) (D : Cell) (fV fC : Field) (A : Cell) (r : Option Value) (s u : State) : Prop := Got a D fV fC A 0 A.slots.size r s u
/-- new String(chars), not empty, no char above 255: a Latin-1 String of their low bytes -/
theorem law (l : Launch) (a : Addr) (D : Cell) (fV fC : Field) (b : Addr) (A : Cell) (z : Int32) : Law l yN 2 1 3 52 yB 2 none site (P a D fV fC b A z) (E a D fV fC A) [⟨a, fC.slot⟩, ⟨a, fV.slot⟩] 1 A.slots.size := by
  refine Law.of_walk (plainFor_of_name (by decide +kernel)) (by decide +kernel) (by decide +kernel) (by decide) (fun _ _ h => by rw [h.1]; rfl) (fun _ U U' hal hh h => ⟨h.1, h.2.1.mv hal hh, h.2.2.1.al hal, h.2.2.2.1.al hal, h.2.2.2.2.1.mv hal hh, h.2.2.2.2.2.1.there hal hh, h.2.2.2.2.2.2⟩) (fun r U U' V V' h1 hal h2 h => Got.mv r U U' V V' h1 hal h2 h) ?_
  intro p e s m args below meth c s₁ X0 hexec hbytes hml hret hlk hnm hown hh0 W hP
  obtain ⟨rfl, hB, f1, f2, hA, s1, hz, l0, l2, hp⟩ := hP
  have c1 : Steps p.tables e below (s₁.setTop (entryFrame m #[.ref a, .ref b] 2)) (s₁.setTop (mkF m 0 #[.val (.ref a), .val (.ref b)] [])) := entry rfl
  have c2 : Steps p.tables e below (s₁.setTop (entryFrame m #[.ref a, .ref b] 2)) (s₁.setTop (mkF m 6 #[.val (.ref a), .val (.ref b)] [.null, .int (Int32.ofNat A.slots.size), .int 0, .ref b, .ref a])) := c1.trans (by
    refine XS.aloadN X0.here hexec rfl (hb hbytes d0) rfl rfl ?_
    refine XS.aloadN X0.here hexec rfl (hb hbytes d1) rfl rfl ?_
    refine iconstV X0.here hexec rfl 0 (hb hbytes d2) (by decide) ?_
    refine XS.aloadN X0.here hexec rfl (hb hbytes d3) rfl rfl ?_
    refine X0.alen hexec (hA.1.mv X0.warmed.alike hh0) rfl rfl (hb hbytes d4) ?_
    refine XS.aconstNull X0.here hexec rfl (hb hbytes d5) ?_
    exact Steps.refl _)
  obtain ⟨v3, T3, X3, E3, g3⟩ := X0.callN hexec (New4.law l a D fV fC b A z 0 A.slots.size) rfl hown (wks W (initW "java/lang/String" 27 New4.yN)) (W New4.tab (by simp only [site, List.mem_cons, List.mem_append, true_or, or_true])) (W := 0) (Nat.le_of_ble_eq_true rfl) (Nat.le_of_ble_eq_true rfl) (Nat.le_refl _) (by show 0 + A.slots.size ≤ A.slots.size; omega) (g := (mkF m 6 #[.val (.ref a), .val (.ref b)] [.null, .int (Int32.ofNat A.slots.size), .int (Int32.ofNat 0), .ref b, .ref a])) rfl (by rw [hml]; rfl) c2 (argsL := [.ref b, .int (Int32.ofNat 0), .int (Int32.ofNat A.slots.size), .null]) (rest := []) rfl rfl (by show 2 * 0 + 0 ≤ _; decide) (hb hbytes d6) (⟨rfl, hB.mv X0.warmed.alike hh0, f1.al X0.warmed.alike, f2.al X0.warmed.alike, hA.mv X0.warmed.alike hh0, s1.there X0.warmed.alike hh0, hz, l0, by omega, l2, fun i hi => by rw [Nat.zero_add]; exact hp i hi⟩)
  have e0 := Got.mv _ s₁ s _ _ hh0.symm (Vm.Alike.refl _) rfl E3
  obtain rfl := e0.1
  have c4 : Steps p.tables e below (s₁.setTop (entryFrame m #[.ref a, .ref b] 2)) (T3.setTop (mkF m 9 #[.val (.ref a), .val (.ref b)] [])) := g3
  exact ⟨T3, none, _, _, _, X3, by simp, rfl, by omega, (fun _ => rfl), e0, fun fs hl => c4.trans (X3.returnOut hexec hret (hb hbytes d9) hl)⟩
theorem pays {l : Launch} {R : Room} {p : Program} {e : Env} {below : List Frame} {s : State} {sargs : Array Value} {len W : Nat} (a : Addr) (D : Cell) (fV fC : Field) (b : Addr) (A : Cell) (z : Int32) (htab : tab.before sargs s = true) (hfr : 4 ≤ R.frames) (hlo : W + 65 ≤ R.locals) :
    Back l R p e below s sargs yN len W (fun A₁ a₁ => A₁.cells + 1 ≤ R.cells ∧ A₁.slots + A.slots.size ≤ R.slots ∧ P a D fV fC b A z a₁ A₁.U) (fun A₁ _ v₁ B₁ => E a D fV fC A v₁ A₁.U B₁.U ∧ B₁.locs = A₁.locs ++ [⟨a, fC.slot⟩, ⟨a, fV.slot⟩] ∧ B₁.cells = A₁.cells + 1 ∧ B₁.slots = A₁.slots + A.slots.size) :=
  (law l a D fV fC b A z).pays htab hfr (by omega)
end New1
end StrChars
namespace StrChars.Road
open Jvm Sem ClassFile Op Lib Jvm.Stand Jvm.Free Jvm.Free.XT
open Jvm.Lib.Cold (StaticIs)
abbrev ST : String := "java/lang/String"
/-- every table word that New1's law asks, flat -/
abbrev words : List Jvm.Cond := [.code New1.yN New1.yB 2 none, .initialized ST, .methodLink ST 27 New4.yN, .instanceMethod New4.yN,
  .code New4.yN New4.yB 6 none, .fieldLink ST 38 ST "COMPACT_STRINGS" "Z", .laysFinal ST ST "value" "[B", .fieldLink ST 9 ST "value" "[B", .laysFinal ST ST "coder" "B", .fieldLink ST 15 ST "coder" "B",
  .methodLink ST 1 Lib.objectInit, .instanceMethod Lib.objectInit, .code Lib.objectInit ⟨#[0xb1]⟩ 1 none, .methodLink ST 177 Cmp3.yN, .static Cmp3.yN, .methodLink ST 47 CodL.yN, .static CodL.yN,
  .code Cmp3.yN Cmp3.yB 6 (some (.array .byte)), .initialized U16, .arrayClass .byte, .methodLink U16 115 Cmp5.yN, .static Cmp5.yN, .code Cmp5.yN Cmp5.yB 7 (some .int), .code CodL.yN CodL.yB 2 (some .byte)]
theorem tab_of {a : Array Value} {s : State} (h : ∀ w ∈ words, w.before a s = true) : New1.tab.before a s = true := by
  have h5 : Cmp5.tab.before a s = true := unparts (wk h (.code Cmp5.yN Cmp5.yB 7 (some .int))) (wks h (.initialized Cmp5.yN.cls :: Cmp5.site))
  have hc : CodL.tab.before a s = true := unparts (wk h (.code CodL.yN CodL.yB 2 (some .byte))) (wks h (.initialized CodL.yN.cls :: CodL.site))
  have q5 : ∀ w ∈ Cmp5.tab :: words, w.before a s = true := fun w hw => (List.mem_cons.mp hw).elim (fun e => e ▸ h5) (h w)
  have h3 : Cmp3.tab.before a s = true := unparts (wk q5 (.code Cmp3.yN Cmp3.yB 6 (some (.array .byte)))) (wks q5 (.initialized Cmp3.yN.cls :: Cmp3.site))
  have q3 : ∀ w ∈ Cmp3.tab :: CodL.tab :: words, w.before a s = true := fun w hw => (List.mem_cons.mp hw).elim (fun e => e ▸ h3) fun hw => (List.mem_cons.mp hw).elim (fun e => e ▸ hc) (h w)
  have h4 : New4.tab.before a s = true := unparts (wk q3 (.code New4.yN New4.yB 6 none)) (wks q3 (.initialized New4.yN.cls :: New4.site))
  have q4 : ∀ w ∈ New4.tab :: words, w.before a s = true := fun w hw => (List.mem_cons.mp hw).elim (fun e => e ▸ h4) (h w)
  exact unparts (wk q4 (.code New1.yN New1.yB 2 none)) (wks q4 (.initialized New1.yN.cls :: New1.site))
/-- the words ride from the start Z to the walk's own state -/
theorem moved {Z s : State} {a0 args : Array Value} (hZ : Z.Warmed39 s.vm) (hw : ∀ d ∈ words, d.before a0 Z = true) : ∀ d ∈ words, d.before args s = true := fun d hd => by
  have q := hw d hd
  have t : ∀ d ∈ words, d = .arrayClass .byte ∨ (d.onTables && d.keepsFace) = true := by decide +kernel
  rcases t d hd with rfl | t
  · exact RoadKit.mvA hZ q
  · exact RoadKit.mv hZ q t
/-- WHAT COMES BACK, over the tables of the start Z: h the heap at the call, h' behind it -/
def Q (Z : State) (x : Addr) (A : Cell) (h : Heap) (v : Option Value) (h' : Heap) (L : List Loc) : Prop := v = none ∧ (∀ y ∈ L, y.base = x) ∧ RoadKit.Keep h h' [x] ∧ h'.size = h.size + 1 ∧ RoadKit.Exa Z h' x ST ∧ RoadKit.Fld Z h' x ST "value" "[B" (.ref h.size) ∧ RoadKit.Fld Z h' x ST "coder" "B" (.int 0) ∧
  (∃ V : Cell, RoadKit.Arr Z h' h.size V .byte ∧ V.vm = .none ∧ Z.vm.findClass "[B" = some V.cls ∧ V.slots.size = A.slots.size ∧ ∀ j, j < A.slots.size → V.slots[j]? = some (.int (lo8 (cv A j)))) ∧
  ∀ (O n d : String) (w : Value), RoadKit.Fld Z h x O n d w → RoadKit.slotOf Z O n d ≠ RoadKit.slotOf Z ST "value" "[B" → RoadKit.slotOf Z O n d ≠ RoadKit.slotOf Z ST "coder" "B" → RoadKit.Fld Z h' x O n d w
/-- **new String(chars) AT A CALL, IN THE ROAD'S FORM**: for specialBack behind newO: x the fresh String, b the char[] with the cell A -/
theorem back {p : Program} {l : Launch} {e : Env} {R : Room} {s : State} {args : Array Value} {below : List Frame} {len W : Nat} {Z : State} {a0 : Array Value} {h : Heap} (hZ : Z.Warmed39 s.vm) (hw : ∀ d ∈ words, d.before a0 Z = true) {kI : Nat} (wi : (Jvm.Cond.instantiable ST kI).before a0 Z = true)
    {x b : Addr} {A : Cell} {z : Int32} {v0 c0 : Value} (E : RoadKit.Exa Z h x ST) (V : RoadKit.Fld Z h x ST "value" "[B" v0) (C : RoadKit.Fld Z h x ST "coder" "B" c0) (K : RoadKit.Arr Z h b A .char) (hty : Typed .char A) (S : RoadKit.Sta Z h ST "COMPACT_STRINGS" "Z" (.int z)) (hz : ¬ z = 0)
    (l0 : 0 < A.slots.size) (l2 : A.slots.size ≤ 536870912) (hp : ∀ i, i < A.slots.size → ¬ 255 < cv A i) (hfr : 4 ≤ R.frames) (hlo : W + 65 ≤ R.locals) :
    Back l R p e below s args New1.yN len W (fun P a => a = #[.ref x, .ref b] ∧ P.U.heap = h ∧ P.cells + 1 ≤ R.cells ∧ P.slots + A.slots.size ≤ R.slots)
      (fun P _ v B => ∃ L, Q Z x A h v B.U.heap L ∧ B.locs = P.locs ++ L ∧ B.cells = P.cells + 1 ∧ B.slots = P.slots + A.slots.size) := by
  intro m meth c P g ig mk a X hg hsize hdg hW hn hp'
  obtain ⟨rfl, rfl, r1, r2⟩ := hp'
  have al : Z.vm.Alike P.U.vm := hZ.alike.trans X.warmed.alike
  obtain ⟨D, cfV, kV, iV, fV, hD, gV, stV, knV, obV, asV, slV⟩ := id V
  obtain ⟨D', cfC, kC, iC, fC, hD', gC, stC, -, -, asC, slC⟩ := id C
  cases hD.symm.trans hD'
  obtain ⟨D2, kD, e1, e2, e3, e4, e5⟩ := id E
  cases hD.symm.trans e1
  obtain ⟨c2, k2, i1, i2, i3, -⟩ := Cond.instantiable_spec wi
  cases e2.symm.trans i1
  cases e3.symm.trans i2
  obtain ⟨kU, u1, u2⟩ := al.2.2 _ _ e3
  have hB : Blank ST x D P.U := ⟨hD, ⟨knV, fun q hq => by rw [hq] at obV; cases obV⟩, by rw [al.findClass]; exact e2, kU, u1, by rw [u2]; exact i3, by rw [u2]; exact e5 i3⟩
  have F1 : Found ST "value" "[B" fV P.U := ⟨SBG.found_only al ⟨cfV, kV, iV, gV⟩, stV⟩
  have F2 : Found ST "coder" "B" fC P.U := ⟨SBG.found_only al ⟨cfC, kC, iC, gC⟩, stC⟩
  have hA : Ch b A P.U := ⟨⟨K.1, State.isArrayOf_alike al K.2.1, K.2.2, by omega⟩, hty⟩
  have hS : StaticIs P.U ST "COMPACT_STRINGS" "Z" (.int z) := by
    obtain ⟨cfS, iS, kS, fS, st, cS, t1, t2, t3, t4, t5, t6, t7⟩ := S
    exact StaticIs.there (s := { Z with heap := P.U.heap }) ⟨cfS, iS, kS, fS, st, cS, t1, t2, t3, t4, t5, (fun q => by rw [q] at t6; cases t6), t7⟩ al rfl
  obtain ⟨v, B, X', ⟨⟨hv, E', V', q1, q2, q3, q4, q5, q6, q7, q8, q9, q10, q11⟩, hl, hc, hs⟩, st⟩ := New1.pays x D fV fC b A z (tab_of (moved hZ hw)) hfr hlo m meth c P g ig mk _ X hg hsize hdg hW hn ⟨r1, r2, rfl, hB, F1, F2, hA, hS, hz, l0, l2, hp⟩
  have al' : Z.vm.Alike B.U.vm := hZ.alike.trans X'.warmed.alike
  have hsz : E'.slots.size = D.slots.size := by
    obtain ⟨-, -, -, kB, w1, w2, w3⟩ := q1
    obtain ⟨kB', y1, y2⟩ := al'.2.2 _ _ e3
    rw [q2.2.1] at w1
    cases w1.symm.trans y1
    rw [w3, e5 i3, y2]
  refine ⟨v, B, X', ⟨_, ⟨hv, ?_, ⟨by omega, fun y cy hy hn' => q10 y cy (by simpa using hn') hy, fun y cy hy => ?_⟩, q11, ⟨E', _, q1.1, by rw [q2.2.1]; exact e2, by rw [q2.2.1]; exact e3, by rw [q2.1]; exact obV, fun _ => by rw [hsz]; exact e5 i3⟩,
    ⟨E', cfV, kV, iV, fV, q1.1, gV, stV, by rw [q2.1]; exact knV, by rw [q2.1]; exact obV, by rw [q2.2.1]; exact asV, q3⟩, ⟨E', cfC, kC, iC, fC, q1.1, gC, stC, by rw [q2.1]; exact knV, by rw [q2.1]; exact obV, by rw [q2.2.1]; exact asC, q4⟩,
    ⟨V', ⟨q5.1, State.isArrayOf_alike al'.symm q5.2.1, q5.2.2.1⟩, q6, by rw [← al'.findClass]; exact q7, q8, fun j hj => by have := q9 j hj; rwa [Nat.zero_add] at this⟩, fun O n d w F n1 n2 => ?_⟩, hl, hc, hs⟩, st⟩
  · intro y hy
    simp only [List.mem_cons, List.not_mem_nil, or_false] at hy
    rcases hy with rfl | rfl <;> rfl
  · by_cases q : y = x
    · subst q
      cases hD.symm.trans hy
      exact ⟨E', q1.1, q2.2.1, q2.1, hsz⟩
    · exact ⟨cy, q10 y cy q hy, rfl, rfl, rfl⟩
  · obtain ⟨D3, cf, k, i, f, g1, g2, g3, g4, g5, g6, g7⟩ := F
    cases hD.symm.trans g1
    simp only [RoadKit.slotOf, g2, gV, gC, Option.map_some, Option.getD_some] at n1 n2
    exact ⟨E', cf, k, i, f, q1.1, g2, g3, by rw [q2.1]; exact g4, by rw [q2.1]; exact g5, by rw [q2.2.1]; exact g6, by rw [q2.2.2 f.slot (by simp [n1, n2])]; exact g7⟩
end StrChars.Road
namespace StrChars.Road
open Jvm Sem ClassFile Op Lib Jvm.Stand Jvm.Free Jvm.Free.XT
/-- WHAT COMES BACK, the byte[] as a list of values -/
def QA (Z : State) (x : Addr) (zn : Int32) (cs : List Int32) (h : Heap) (v : Option Value) (h' : Heap) (L : List Loc) : Prop := v = none ∧ (∀ y ∈ L, y.base = x) ∧ RoadKit.Keep h h' [x] ∧ h'.size = h.size + 1 ∧ RoadKit.Exa Z h' x ST ∧ RoadKit.Fld Z h' x ST "value" "[B" (.ref h.size) ∧ RoadKit.Fld Z h' x ST "coder" "B" (.int 0) ∧
  (∃ kb, Z.vm.findClass "[B" = some kb ∧ RoadKit.Arv Z h' h.size kb .byte zn (cs.map fun c => .int (lo8 c)) (.int 0)) ∧
  ∀ (O n d : String) (w : Value), RoadKit.Fld Z h x O n d w → RoadKit.slotOf Z O n d ≠ RoadKit.slotOf Z ST "value" "[B" → RoadKit.slotOf Z O n d ≠ RoadKit.slotOf Z ST "coder" "B" → RoadKit.Fld Z h' x O n d w
/-- **new String(chars) AT A CALL, THE ARRAYS AS LISTS**: the char[] at b holds cs, not empty, no char above 255 -/
theorem backArv {p : Program} {l : Launch} {e : Env} {R : Room} {s : State} {args : Array Value} {below : List Frame} {len W : Nat} {Z : State} {a0 : Array Value} {h : Heap} (hZ : Z.Warmed39 s.vm) (hw : ∀ d ∈ words, d.before a0 Z = true) {kI : Nat} (wi : (Jvm.Cond.instantiable ST kI).before a0 Z = true)
    {x b : Addr} {k : ClassId} {zn z : Int32} {cs : List Int32} {dv v0 c0 : Value} (E : RoadKit.Exa Z h x ST) (V : RoadKit.Fld Z h x ST "value" "[B" v0) (C : RoadKit.Fld Z h x ST "coder" "B" c0) (K : RoadKit.Arv Z h b k .char zn (cs.map Value.int) dv) (S : RoadKit.Sta Z h ST "COMPACT_STRINGS" "Z" (.int z)) (hz : ¬ z = 0)
    (hlen : zn.toNatClampNeg = cs.length) (h0 : 0 < cs.length) (hbig : cs.length ≤ 536870912) (hall : ∀ c ∈ cs, ¬ 255 < c) (hfr : 4 ≤ R.frames) (hlo : W + 65 ≤ R.locals) :
    Back l R p e below s args New1.yN len W (fun P a => a = #[.ref x, .ref b] ∧ P.U.heap = h ∧ P.cells + 1 ≤ R.cells ∧ P.slots + cs.length ≤ R.slots)
      (fun P _ v B => ∃ L, QA Z x zn cs h v B.U.heap L ∧ B.locs = P.locs ++ L ∧ B.cells = P.cells + 1 ∧ B.slots = P.slots + cs.length) := by
  obtain ⟨A, K1, K2, K3, K4, K5, K6⟩ := K
  have e : A.slots.size = cs.length := K3.trans hlen
  have hat : ∀ (i : Nat) (hi : i < cs.length), A.slots[i]? = some (.int cs[i]) := fun i hi => by rw [K5 i (by omega)]; simp [List.getD_eq_getElem?_getD, hi]
  have hcv : ∀ (i : Nat) (hi : i < cs.length), cv A i = cs[i] := fun i hi => by unfold cv; rw [hat i hi]
  have hty : Typed .char A := fun i v hv => by
    have hi : i < A.slots.size := (Array.getElem?_eq_some_iff.mp hv).1
    have q := K5 i hi
    rw [hv] at q
    rw [Option.some.inj q]
    exact K6 i hi
  refine Back.mono (back hZ hw wi E V C K1 hty S hz (by omega) (by omega) (fun i hi => by rw [hcv i (by omega)]; exact hall _ (List.getElem_mem _)) hfr hlo) (fun P a hp => ⟨hp.1, hp.2.1, hp.2.2.1, by rw [e]; exact hp.2.2.2⟩) (fun P a v B hp hq => ?_)
  obtain ⟨L, ⟨q1, q2, q3, q4, q5, q6, q7, ⟨V', v1, v2, v3, v4, v5⟩, q9⟩, hl, hc, hs⟩ := hq
  refine ⟨L, ⟨q1, q2, q3, q4, q5, q6, q7, ⟨V'.cls, v3, V', v1, rfl, by rw [v4, e, hlen], K4, fun i hi => ?_, fun i hi => ?_⟩, q9⟩, hl, hc, by rw [hs, e]⟩
  · have hi' : i < cs.length := by omega
    rw [v5 i (by omega), hcv i hi']; simp [List.getD_eq_getElem?_getD, hi']
  · have hi' : i < cs.length := by omega
    simp only [List.getD_eq_getElem?_getD, List.getElem?_map, List.getElem?_eq_getElem hi', Option.map_some, Option.getD_some]
    exact fits_lo8 _
end StrChars.Road
namespace StrChars.Road
open Jvm Sem ClassFile Op Lib Jvm.Stand Jvm.Free Jvm.Free.XT
/-- WHAT COMES BACK, in the writer's own shape -/
def QV (Z : State) (x : Addr) (N : Int32) (bs : List Int32) (h : Heap) (n0 : Nat) (v : Option Value) (h' : Heap) (L : List Loc) : Prop := v = none ∧ RoadKit.Fr n0 L ∧ RoadKit.Keep h h' [x] ∧ RoadKit.Exa Z h' x ST ∧ RoadKit.Fld Z h' x ST "coder" "B" (.int 0) ∧
  ∃ (t : Addr) (kb : ClassId), n0 ≤ t ∧ h.size ≤ t ∧ ¬ t = x ∧ RoadKit.Fld Z h' x ST "value" "[B" (.ref t) ∧ RoadKit.Arv Z h' t kb .byte N (bs.map Value.int) (.int 0)
/-- **new String(chars) AT A CALL, FOR THE WRITER**: a char[] of n known ints, each 0 to 255 -/
theorem backV {p : Program} {l : Launch} {e : Env} {R : Room} {s : State} {args : Array Value} {below : List Frame} {len W : Nat} {Z : State} {a0 : Array Value} {h : Heap} (hZ : Z.Warmed39 s.vm) (hw : ∀ d ∈ words, d.before a0 Z = true) {kI : Nat} (wi : (Jvm.Cond.instantiable ST kI).before a0 Z = true)
    {x b : Addr} {kC : ClassId} {cs bs : List Int32} {d v0 c0 : Value} {z N : Int32} {n n0 : Nat} (hx0 : n0 ≤ x) (hh0 : n0 ≤ h.size) (E : RoadKit.Exa Z h x ST) (V : RoadKit.Fld Z h x ST "value" "[B" v0) (C : RoadKit.Fld Z h x ST "coder" "B" c0) (K : RoadKit.Arv Z h b kC .char N (cs.map Value.int) d) (S : RoadKit.Sta Z h ST "COMPACT_STRINGS" "Z" (.int z)) (hz : ¬ z = 0)
    (hn : cs.length = n) (hN : N = Int32.ofNat n) (l0 : 0 < n) (l2 : n ≤ 4000) (hp : ∀ c ∈ cs, ¬ c < 0 ∧ ¬ (255 : Int32) < c) (hb : bs = cs.map (fun c => c.toInt8.toInt32)) (hfr : 4 ≤ R.frames) (hlo : W + 65 ≤ R.locals) :
    Back l R p e below s args (⟨"java/lang/String", "<init>", "([C)V"⟩ : MethodName) len W (fun P a => a = #[.ref x, .ref b] ∧ P.U.heap = h ∧ P.cells + 1 ≤ R.cells ∧ P.slots + n ≤ R.slots)
      (fun P _ v B => ∃ L, QV Z x N bs h n0 v B.U.heap L ∧ B.locs = P.locs ++ L ∧ B.cells = P.cells + 1 ∧ B.slots = P.slots + n) := by
  subst hn hN hb
  refine Back.mono (backArv hZ hw wi E V C K S hz (n32 (by omega)) l0 (by omega) (fun c hc => (hp c hc).2) hfr hlo) (fun P a hp => hp) (fun P a v B hp hq => ?_)
  obtain ⟨L, ⟨q1, q2, q3, q4, q5, q6, q7, ⟨kb, v1, v2⟩, q9⟩, hl, hc, hs⟩ := hq
  exact ⟨L, ⟨q1, fun y hy => by rw [q2 y hy]; exact hx0, q3, q5, q7, h.size, kb, hh0, Nat.le_refl _, Nat.ne_of_gt E.lt, q6, by rw [List.map_map]; exact v2⟩, hl, hc, hs⟩
end StrChars.Road
end Jvm.Pilot.@@N@@

namespace Jvm.Pilot.@@N@@
open Jvm Jvm.ClassFile Sem Op Lib Jvm.Free Jvm.Stand Jvm.LawKit Jvm.RoadKit Bundle Jvm.Pilot.@@N@@.Jvm.D
section Own
variable {p : Program} {l : Launch} {e : Env} {R : Room} {s : State} {m : MethodId} {args : Array Value} {below : List Frame} {meth : Method} {c : Code} {T : State} {locs : List Loc} {cells slots : Nat}
/-- from t on the body comes to an end, with at most C cells and S slots made, and Q says of it -/
def own_Comes (p : Program) (e : Env) (below : List Frame) (s : State) (C S : Nat) (Q : Option Value → Heap → List Loc → Prop) (t : State) : Prop :=
  ∃ (U : State) (o : Outcome), Steps p.tables e below t U ∧ U.status = .running ∧ Ended U below o ∧ ∃ v L, o = .returned v ∧ Q v U.heap L ∧ FrameEnd s o U L C S
theorem own_by {C S : Nat} {Q : Option Value → Heap → List Loc → Prop} {t t' : State} (st : ∀ target, Steps p.tables e below t' target → Steps p.tables e below t target) (h : own_Comes p e below s C S Q t') : own_Comes p e below s C S Q t := by
  obtain ⟨U, o, h1, h2⟩ := h
  exact ⟨U, o, st _ h1, h2⟩
theorem own_tr {C S : Nat} {Q : Option Value → Heap → List Loc → Prop} {t t' : State} (st : Steps p.tables e below t t') (h : own_Comes p e below s C S Q t') : own_Comes p e below s C S Q t := by
  obtain ⟨U, o, h1, h2⟩ := h
  exact ⟨U, o, st.trans h1, h2⟩
theorem own_ret (X : Stand p l e R s m args below meth c T locs cells slots) {C S : Nat} {Q : Option Value → Heap → List Loc → Prop} {v : Option Value} {t : State} (hv : meth.sig.returnType = none → v = none) (hlk : meth.locks = false) (hC : cells ≤ C) (hS : slots ≤ S) (hQ : Q v T.heap locs)
    (st : ∀ fs, (∀ (f : JFrame) (acts : List Action), f.method = m → f.locked = none → f.entered = [] → (doReturn e (T.setTop f) acts v).1 = T.setFrames fs) → Steps p.tables e below t (T.setFrames fs)) : own_Comes p e below s C S Q t := by
  obtain ⟨fs, hr, hrun, hended, hW, hsame⟩ := X.leave (v := v) hv hlk
  exact ⟨_, _, st fs hr, hrun, hended, v, locs, rfl, hQ, ⟨_, rfl⟩, hW, hsame.mono hC hS⟩
theorem retI (X : Stand p l e R s m args below meth c T locs cells slots) (hx : p.tables.exec = Jvm.exec) {pc : Nat} {Ls : Array Slot} {z : Int32} {rest : List Value} (hret : meth.sig.returnType = some .int) (hd : decode c.code pc = .ok (.ireturn, 1)) {fs : List Frame}
    (hl : ∀ (f : JFrame) (acts : List Action), f.method = m → f.locked = none → f.entered = [] → (doReturn e (T.setTop f) acts (some (.int z))).1 = T.setFrames fs) : Steps p.tables e below (T.setTop (mkF m pc Ls (.int z :: rest))) (T.setFrames fs) := by
  have hm' : T.vm.method? m = some meth := X.method'
  have hn : narrow .int (.int z) = .int z := rfl
  show Steps p.tables e below (T.setTop { method := m, pc := pc, locals := Ls, stack := _ :: rest, locked := none }) _
  jvm_step X.here [X.here.top, hx, hd, hm', hret, hn]
  first | (intro acts; rw [hl _ acts rfl rfl rfl]) | rw [hl _ _ rfl rfl rfl]
  exact Steps.refl _
theorem own_reta (X : Stand p l e R s m args below meth c T locs cells slots) (hx : p.tables.exec = Jvm.exec) {pc : Nat} {Ls : Array Slot} {w : Value} {t : FieldType} {rest : List Value} (hret : meth.sig.returnType = some t) (ht : t.isReference = true) (hw : w.isRef = true) (hd : decode c.code pc = .ok (.areturn, 1)) {fs : List Frame}
    (hl : ∀ (f : JFrame) (acts : List Action), f.method = m → f.locked = none → f.entered = [] → (doReturn e (T.setTop f) acts (some w)).1 = T.setFrames fs) : Steps p.tables e below (T.setTop (mkF m pc Ls (w :: rest))) (T.setFrames fs) := by
  have hm' : T.vm.method? m = some meth := X.method'
  have hn : narrow t w = w := by cases t <;> first | (cases ht; done) | (cases w <;> rfl)
  rcases ref_cases hw with rfl | ⟨z, rfl⟩
  all_goals
    show Steps p.tables e below (T.setTop { method := m, pc := pc, locals := Ls, stack := _ :: rest, locked := none }) _
    jvm_step X.here [X.here.top, hx, hd, hm', hret, hn, Value.isRef]
    try (refine ⟨ht, ?_⟩)
    first | (intro acts; rw [hl _ acts rfl rfl rfl]) | rw [hl _ _ rfl rfl rfl]
    exact Steps.refl _
/-- what is kept with nothing old written is only added to -/
theorem own_ext {h h' : Heap} (K : Keep h h' []) : Ext h h' := ⟨K.1, fun x c q => K.2.1 x c q nin0⟩
/-- the same, where String constants may have been loaded -/
def own_ComesW (p : Program) (e : Env) (below : List Frame) (s : State) (C S : Nat) (Q : Option Value → Heap → List Loc → Prop) (t : State) : Prop :=
  ∃ (U : State) (o : Outcome), Steps p.tables e below t U ∧ U.status = .running ∧ Ended U below o ∧ ∃ v L, o = .returned v ∧ Q v U.heap L ∧ ReturnedEndW s o U L C S
theorem own_byW {C S : Nat} {Q : Option Value → Heap → List Loc → Prop} {t t' : State} (st : ∀ target, Steps p.tables e below t' target → Steps p.tables e below t target) (h : own_ComesW p e below s C S Q t') : own_ComesW p e below s C S Q t := by
  obtain ⟨U, o, h1, h2⟩ := h
  exact ⟨U, o, st _ h1, h2⟩
theorem own_trW {C S : Nat} {Q : Option Value → Heap → List Loc → Prop} {t t' : State} (st : Steps p.tables e below t t') (h : own_ComesW p e below s C S Q t') : own_ComesW p e below s C S Q t := by
  obtain ⟨U, o, h1, h2⟩ := h
  exact ⟨U, o, st.trans h1, h2⟩
theorem own_retW {vm1 : Vm} (X : Stand p l e R (s.setVm vm1) m args below meth c T locs cells slots) {k : Nat} (hS : s.Since vm1 k) (hk : k ≤ T.heap.size) {C S : Nat} {Q : Option Value → Heap → List Loc → Prop} {v : Option Value} {t : State} (hv : meth.sig.returnType = none → v = none) (hlk : meth.locks = false) (hC : cells ≤ C) (hSl : slots ≤ S) (hQ : Q v T.heap locs)
    (st : ∀ fs, (∀ (f : JFrame) (acts : List Action), f.method = m → f.locked = none → f.entered = [] → (doReturn e (T.setTop f) acts v).1 = T.setFrames fs) → Steps p.tables e below t (T.setFrames fs)) : own_ComesW p e below s C S Q t := by
  obtain ⟨fs, hr, hrun, hended, hE⟩ := X.leaveW hS hk (v := v) hv hlk
  exact ⟨_, _, st fs hr, hrun, hended, v, locs, rfl, hQ, hE.1, hE.2.1, hE.2.2.1, hE.2.2.2.mono hC hSl⟩
end Own
def own_L (Z : State) (h : Heap) (x a : Addr) (k : ClassId) (n : Int32) (vs : List Value) : Prop :=
  Exa Z h x "java/util/ArrayList" ∧ (∃ mc : Int32, Fld Z h x "java/util/AbstractList" "modCount" "I" (.int mc)) ∧ Fld Z h x "java/util/ArrayList" "elementData" "[Ljava/lang/Object;" (.ref a) ∧ Fld Z h x "java/util/ArrayList" "size" "I" (.int n) ∧ Arv Z h a k (.object "java/lang/Object") (10 : Int32) vs .null ∧ Ovr Z k "java/lang/Object" ∧ x ≠ a
theorem own_L.ext {Z : State} {h h' : Heap} {x a : Addr} {k : ClassId} {n : Int32} {vs : List Value} (A : own_L Z h x a k n vs) (E : Ext h h') : own_L Z h' x a k n vs := by
  obtain ⟨a1, ⟨mc, a2⟩, a3, a4, a5, a6, a7⟩ := A
  exact ⟨a1.ext E, ⟨mc, a2.ext E⟩, a3.ext E, a4.ext E, a5.ext E, a6, a7⟩
theorem own_and255 (x : Int32) : ¬ ((x &&& (255 : Int32)).toUInt32.toUInt16.toUInt32.toInt32) < 0 ∧ ¬ (255 : Int32) < ((x &&& (255 : Int32)).toUInt32.toUInt16.toUInt32.toInt32) := by
  rw [i2c_mask]
  have e : (255 : Int32).toInt = 255 := by decide
  have h := c_and x (255 : Int32) (by rw [e]; decide)
  rw [e] at h
  have e0 : (0 : Int32).toInt = 0 := by decide
  rw [Int32.lt_iff_toInt_lt, Int32.lt_iff_toInt_lt]; omega
theorem own_narc {x : Int32} (h : ¬ x < 0 ∧ ¬ (255 : Int32) < x) : nar .char x = x := by
  show x.toUInt32.toUInt16.toUInt32.toInt32 = x
  have e0 : (0 : Int32).toInt = 0 := by decide
  have e : (255 : Int32).toInt = 255 := by decide
  have q := c_i2c x
  rw [Int32.lt_iff_toInt_lt, Int32.lt_iff_toInt_lt] at h
  apply Int32.toInt_inj.mp; omega
theorem own_k (x : Int32) : 1 ≤ ((1 : Int32) + (x &&& (3 : Int32))).toInt ∧ ((1 : Int32) + (x &&& (3 : Int32))).toInt ≤ 4 := by
  have h : (3 : Int32).toInt = 3 := by decide
  have h1 := c_and x (3 : Int32) (by rw [h]; decide)
  rw [h] at h1
  have h2 := c_iadd (1 : Int32) (x &&& (3 : Int32))
  have h3 := rng32 ((1 : Int32) + (x &&& (3 : Int32)))
  have h4 : (1 : Int32).toInt = 1 := by decide
  omega
theorem own_ix (x K : Int32) (hK : 1 ≤ K.toInt ∧ K.toInt ≤ 4) : 0 ≤ ((x &&& (2147483647 : Int32)) % K).toInt ∧ ((x &&& (2147483647 : Int32)) % K).toInt < K.toInt := by
  have h : (2147483647 : Int32).toInt = 2147483647 := by decide
  have h1 := c_and x (2147483647 : Int32) (by rw [h]; decide)
  have h2 := (c_iremV (x &&& (2147483647 : Int32)) K).1 h1.1 (by omega)
  exact ⟨h2.1, h2.2.1⟩
theorem own_ki {x : Int32} {n : Int} {y : Int32} (h : x.toInt = n) (e : y.toInt = n) : x = y := Int32.toInt_inj.mp (h.trans e.symm)

theorem own_len {t : Term} {args : Array Value} {s : State} {a : Addr} {c : Cell} {ty : FieldType} {z : Int32} (et : t.eval args s none [] s = some (.ref a)) (A : Arr s s.heap a c ty) (h : (Term.length t).eval args s none [] s = some (.int z)) : c.slots.size < 2 ^ 31 ∧ c.slots.size.toInt32 = z := by
  have hA := A.fin (Vm.Alike.refl _)
  by_cases q : c.slots.size < 2 ^ 31
  · exact ⟨q, Value.int.inj (Option.some.inj ((len_f et hA q).symm.trans h))⟩
  · simp [Term.eval, et, hA, q] at h
def Q10 (Z : State) (h0 : Heap) (n0 : Nat) (v : Option Value) (h : Heap) (L : List Loc) : Prop := v = none ∧ Fr n0 L ∧ h = h0
theorem ef_rm10 (m : MethodId) (x0 : Addr) : entryFrame m #[(.ref x0)] 1 = mkF m 0 #[.val (.ref x0)] [] := by first | (simp [entryFrame, mkF, argsToLocals, Value.category]; done) | rfl
theorem pn_java_util_AbstractCollection : plainName "java/util/AbstractCollection" = true := by first | (simp [plainName, overriddenIn]; done) | decide +kernel
theorem d10_0 : decode jdk_22_method_1_code 0 = .ok (.aload_n 0, 1) := by decide +kernel
theorem d10_1 : decode jdk_22_method_1_code 1 = .ok (.invokespecial 1, 3) := by decide +kernel
theorem d10_4 : decode jdk_22_method_1_code 4 = .ok (.return_, 1) := by decide +kernel
set_option maxRecDepth 65536 in
set_option maxHeartbeats 40000000 in
theorem rm10 (l : Launch) (Z : State) (a0 : Array Value) (hw : ∀ d ∈ tables_1, d.before a0 Z = true) (ws : List Jvm.Cond) (r0 : Addr) (h0 : Heap) (n0 : Nat) (Z0 : n0 ≤ h0.size) :
    MetFree l (⟨"java/util/AbstractCollection", "<init>", "()V"⟩ : MethodName) (head1 (Jvm.Cond.code (⟨"java/util/AbstractCollection", "<init>", "()V"⟩ : MethodName) jdk_22_method_1_code 1 none :: ws) ({ frames := 1, cells := 0, slots := 0, locals := 12 } : Room)) (fun aX UX => aX = #[(.ref r0)] ∧ Z.Warmed39 UX.vm ∧ UX.heap = h0) (fun _ _ _ _ _ => True) (fun _ UX oX UX' => ∃ vX LX, oX = .returned vX ∧ Q10 Z  h0 n0 vX UX'.heap LX ∧ FrameEnd UX oX UX' LX ({ frames := 1, cells := 0, slots := 0, locals := 12 } : Room).cells ({ frames := 1, cells := 0, slots := 0, locals := 12 } : Room).slots) := by
  refine MetFree.of_bodySF (plainFor_of_name pn_java_util_AbstractCollection) hisR ?_
  intro p e s m args below meth c s₁ Bd hml0 hP hK
  obtain ⟨rfl, hZ, hh⟩ := hP
  have hx := Bd.exec
  have hby := Bd.bytes
  have hml : c.maxLocals = 1 := hml0
  have hown : s.vm.findClass "java/util/AbstractCollection" = some m.cls := findClass_of_methodNamed Bd.named
  have hnm := (name_of_methodNamed Bd.named Bd.method).1
  have X0 : Stand p l e ({ frames := 1, cells := 0, slots := 0, locals := 12 } : Room) s m #[(.ref r0)] below meth c s₁ [] 0 0 := Stand.of_body Bd
  have e0 : s₁.heap = h0 := by rw [← hh, Bd.state]; rfl
  have N0 := Fr.nil n0
  show own_Comes p e below s ({ frames := 1, cells := 0, slots := 0, locals := 12 } : Room).cells ({ frames := 1, cells := 0, slots := 0, locals := 12 } : Room).slots (Q10 Z  h0 n0) _
  rw [show entryFrame m #[(.ref r0)] 1 = mkF m 0 #[.val (.ref r0)] [] from ef_rm10 m r0]
  show own_Comes p e below s _ _ _ (s₁.setTop (mkF m 0 #[.val (.ref r0)] []))
  refine own_by (fun _ kS => XS.aloadN X0.here hx rfl (hb hby d10_0) rfl rfl kS) ?_
  show own_Comes p e below s _ _ _ (s₁.setTop (mkF m 1 #[.val (.ref r0)] [(.ref r0)]))
  obtain ⟨T1, X1, e1, st1⟩ := initO X0 hx hZ hown (hw _ (List.mem_of_getElem? (i := 53) rfl)) (hw _ (List.mem_of_getElem? (i := 17) rfl)) (hw _ (List.mem_of_getElem? (i := 18) rfl)) e0 (g := (mkF m 1 #[.val (.ref r0)] [(.ref r0)])) rfl (by rw [hml]; rfl) rfl (hb hby d10_1) (by decide) (W := 0) (by show 2 * 0 + _ ≤ _; exact Nat.le_of_eq rfl) (by decide)
  refine own_by st1 ?_
  show own_Comes p e below s _ _ _ (T1.setTop (mkF m 4 #[.val (.ref r0)] []))
  refine own_ret X1 (v := none) (fun _ => rfl) Bd.notSynchronized (by decide) (by decide) ?_ (fun fs hr => X1.returnOut hx Bd.returns (hb hby d10_4) hr)
  rw [e1]; exact ⟨rfl, N0, rfl⟩
def Q9 (Z : State) (r0 : Addr) (h0 : Heap) (n0 : Nat) (v : Option Value) (h : Heap) (L : List Loc) : Prop := v = none ∧ Fr n0 L ∧ Keep h0 h [r0] ∧ Fld Z h r0 "java/util/AbstractList" "modCount" "I" (.int (0 : Int32)) ∧ Fld Z h r0 "java/util/ArrayList" "size" "I" (.int (0 : Int32)) ∧ Fld Z h r0 "java/util/ArrayList" "elementData" "[Ljava/lang/Object;" .null
theorem ef_rm9 (m : MethodId) (x0 : Addr) : entryFrame m #[(.ref x0)] 1 = mkF m 0 #[.val (.ref x0)] [] := by first | (simp [entryFrame, mkF, argsToLocals, Value.category]; done) | rfl
theorem pn_java_util_AbstractList : plainName "java/util/AbstractList" = true := by first | (simp [plainName, overriddenIn]; done) | decide +kernel
theorem d9_0 : decode jdk_39_method_1_code 0 = .ok (.aload_n 0, 1) := by decide +kernel
theorem pd___V_167 : parseMethodDescriptor "()V" = some ⟨[], none⟩ := by decide +kernel
theorem d9_1 : decode jdk_39_method_1_code 1 = .ok (.invokespecial 1, 3) := by decide +kernel
theorem d9_4 : decode jdk_39_method_1_code 4 = .ok (.aload_n 0, 1) := by decide +kernel
theorem d9_5 : decode jdk_39_method_1_code 5 = .ok (.iconst 0, 1) := by decide +kernel
theorem d9_6 : decode jdk_39_method_1_code 6 = .ok (.putfield 7, 3) := by decide +kernel
theorem d9_9 : decode jdk_39_method_1_code 9 = .ok (.return_, 1) := by decide +kernel
set_option maxRecDepth 65536 in
set_option maxHeartbeats 40000000 in
theorem rm9 (l : Launch) (Z : State) (a0 : Array Value) (hw : ∀ d ∈ tables_1, d.before a0 Z = true) (ws : List Jvm.Cond) (r0 : Addr) (h0 : Heap) (n0 : Nat) (Z0 : n0 ≤ h0.size) (Et : Exa Z h0 r0 "java/util/ArrayList") (Fm : Fld Z h0 r0 "java/util/AbstractList" "modCount" "I" (.int (0 : Int32))) (Fz : Fld Z h0 r0 "java/util/ArrayList" "size" "I" (.int (0 : Int32))) (Fd : Fld Z h0 r0 "java/util/ArrayList" "elementData" "[Ljava/lang/Object;" .null) (g_r0 : n0 ≤ r0) :
    MetFree l (⟨"java/util/AbstractList", "<init>", "()V"⟩ : MethodName) (head1 (Jvm.Cond.code (⟨"java/util/AbstractList", "<init>", "()V"⟩ : MethodName) jdk_39_method_1_code 1 none :: ws) ({ frames := 2, cells := 0, slots := 0, locals := 24 } : Room)) (fun aX UX => aX = #[(.ref r0)] ∧ Z.Warmed39 UX.vm ∧ UX.heap = h0) (fun _ _ _ _ _ => True) (fun _ UX oX UX' => ∃ vX LX, oX = .returned vX ∧ Q9 Z r0 h0 n0 vX UX'.heap LX ∧ FrameEnd UX oX UX' LX ({ frames := 2, cells := 0, slots := 0, locals := 24 } : Room).cells ({ frames := 2, cells := 0, slots := 0, locals := 24 } : Room).slots) := by
  refine MetFree.of_bodySF (plainFor_of_name pn_java_util_AbstractList) hisR ?_
  intro p e s m args below meth c s₁ Bd hml0 hP hK
  obtain ⟨rfl, hZ, hh⟩ := hP
  have hx := Bd.exec
  have hby := Bd.bytes
  have hml : c.maxLocals = 1 := hml0
  have hown : s.vm.findClass "java/util/AbstractList" = some m.cls := findClass_of_methodNamed Bd.named
  have hnm := (name_of_methodNamed Bd.named Bd.method).1
  have X0 : Stand p l e ({ frames := 2, cells := 0, slots := 0, locals := 24 } : Room) s m #[(.ref r0)] below meth c s₁ [] 0 0 := Stand.of_body Bd
  have e0 : s₁.heap = h0 := by rw [← hh, Bd.state]; rfl
  have N0 := Fr.nil n0
  show own_Comes p e below s ({ frames := 2, cells := 0, slots := 0, locals := 24 } : Room).cells ({ frames := 2, cells := 0, slots := 0, locals := 24 } : Room).slots (Q9 Z r0 h0 n0) _
  rw [show entryFrame m #[(.ref r0)] 1 = mkF m 0 #[.val (.ref r0)] [] from ef_rm9 m r0]
  show own_Comes p e below s _ _ _ (s₁.setTop (mkF m 0 #[.val (.ref r0)] []))
  refine own_by (fun _ kS => XS.aloadN X0.here hx rfl (hb hby d9_0) rfl rfl kS) ?_
  show own_Comes p e below s _ _ _ (s₁.setTop (mkF m 1 #[.val (.ref r0)] [(.ref r0)]))
  obtain ⟨_, _, ⟨T2, L2, k2, n2⟩, -, X2, ⟨Lc2, hQ2, l2, y2, z2⟩, st2⟩ := X0.specialBack hx (y := (⟨"java/util/AbstractCollection", "<init>", "()V"⟩ : MethodName)) rfl hown (mvT hZ (hw _ (List.mem_of_getElem? (i := 47) rfl))) (mvT hZ (hw _ (List.mem_of_getElem? (i := 48) rfl))) (mvT hZ (hw _ (List.mem_of_getElem? (i := 52) rfl))) (by decide) (backOf (W := 0) (rm10 l Z a0 hw [] r0 h0 n0 Z0) hZ (hw _ (List.mem_of_getElem? (i := 52) rfl)) (hw _ (List.mem_of_getElem? (i := 51) rfl)) (by decide) (by decide)) (g := (mkF m 1 #[.val (.ref r0)] [(.ref r0)])) rfl (by rw [hml]; rfl) (Steps.refl _) (a := r0) (argsL := []) (rest := []) (lenOf pd___V_167 rfl) rfl (by show 2 * 0 + _ ≤ _; exact Nat.le_of_eq rfl) (hb hby d9_1) (fun _ _ => ⟨rfl, e0, (by decide : 0 + 0 ≤ _), (by decide : 0 + 0 ≤ _)⟩)
  dsimp only [Pt.U, Pt.locs, Pt.cells, Pt.slots] at X2 l2 y2 z2 st2 hQ2
  subst l2 y2 z2
  obtain ⟨rfl, N2q, e2q⟩ := hQ2
  have N2 := Fr.app N0 N2q
  refine own_tr st2 ?_
  have e2 : T2.heap = h0 := e2q
  show own_Comes p e below s _ _ _ (T2.setTop (mkF m 4 #[.val (.ref r0)] []))
  refine own_by (fun _ kS => XS.aloadN X2.here hx rfl (hb hby d9_4) rfl rfl kS) ?_
  show own_Comes p e below s _ _ _ (T2.setTop (mkF m 5 #[.val (.ref r0)] [(.ref r0)]))
  refine own_by (fun _ kS => XS.iconst X2.here hx rfl (hb hby d9_5) kS) ?_
  show own_Comes p e below s _ _ _ (T2.setTop (mkF m 6 #[.val (.ref r0)] [(.int (0 : Int32)), (.ref r0)]))
  obtain ⟨T3, h3, X3, e3, W3, st3⟩ := putF X2 hx hZ hown (host := "") (Or.inl (hw _ (List.mem_of_getElem? (i := 54) rfl))) Via.refl e2 Fm Et (Or.inl (hw _ (List.mem_of_getElem? (i := 55) rfl))) (hw _ (List.mem_of_getElem? (i := 36) rfl)) (ty := .int) (by decide) rfl rfl (g := (mkF m 6 #[.val (.ref r0)] [(.int (0 : Int32)), (.ref r0)])) rfl rfl (hb hby d9_6)
  refine own_by st3 ?_
  have Fw3 := Fm.same W3
  have N3 := Fr.snoc X3 N2 g_r0
  show own_Comes p e below s _ _ _ (T3.setTop (mkF m 9 #[.val (.ref r0)] []))
  have c4 := (Fz.other W3 (Or.inr (slot_ne (Or.inl (hw _ (List.mem_of_getElem? (i := 71) rfl))) (Or.inl (hw _ (List.mem_of_getElem? (i := 55) rfl))) (by decide) (t := .int) (t' := .int) (by decide) (by decide))))
  have c5 := (Fd.other W3 (Or.inr (slot_ne (Or.inl (hw _ (List.mem_of_getElem? (i := 58) rfl))) (Or.inl (hw _ (List.mem_of_getElem? (i := 55) rfl))) (by decide) (t := (.array (.object "java/lang/Object"))) (t' := .int) (by decide) (by decide))))
  refine own_ret X3 (v := none) (fun _ => rfl) Bd.notSynchronized (by decide) (by decide) ?_ (fun fs hr => X3.returnOut hx Bd.returns (hb hby d9_9) hr)
  rw [e3]; exact ⟨rfl, N3, ((Keep.refl _ _).wr W3 (Or.inl (List.mem_of_getElem? (i := 0) rfl))), Fw3, c4, c5⟩
def Q8 (Z : State) (r0 de : Addr) (h0 : Heap) (n0 : Nat) (v : Option Value) (h : Heap) (L : List Loc) : Prop := v = none ∧ Fr n0 L ∧ Keep h0 h [r0] ∧ Fld Z h r0 "java/util/AbstractList" "modCount" "I" (.int (0 : Int32)) ∧ Fld Z h r0 "java/util/ArrayList" "size" "I" (.int (0 : Int32)) ∧ Fld Z h r0 "java/util/ArrayList" "elementData" "[Ljava/lang/Object;" (.ref de)
theorem ef_rm8 (m : MethodId) (x0 : Addr) : entryFrame m #[(.ref x0)] 1 = mkF m 0 #[.val (.ref x0)] [] := by first | (simp [entryFrame, mkF, argsToLocals, Value.category]; done) | rfl
theorem pn_java_util_ArrayList : plainName "java/util/ArrayList" = true := by first | (simp [plainName, overriddenIn]; done) | decide +kernel
theorem d8_0 : decode jdk_38_method_2_code 0 = .ok (.aload_n 0, 1) := by decide +kernel
theorem d8_1 : decode jdk_38_method_2_code 1 = .ok (.invokespecial 1, 3) := by decide +kernel
theorem d8_4 : decode jdk_38_method_2_code 4 = .ok (.aload_n 0, 1) := by decide +kernel
theorem d8_5 : decode jdk_38_method_2_code 5 = .ok (.getstatic 39, 3) := by decide +kernel
theorem d8_8 : decode jdk_38_method_2_code 8 = .ok (.putfield 9, 3) := by decide +kernel
theorem d8_11 : decode jdk_38_method_2_code 11 = .ok (.return_, 1) := by decide +kernel
set_option maxRecDepth 65536 in
set_option maxHeartbeats 40000000 in
theorem rm8 (l : Launch) (Z : State) (a0 : Array Value) (hw : ∀ d ∈ tables_1, d.before a0 Z = true) (ws : List Jvm.Cond) (r0 de : Addr) (h0 : Heap) (n0 : Nat) (Z0 : n0 ≤ h0.size) (Et : Exa Z h0 r0 "java/util/ArrayList") (Fm : Fld Z h0 r0 "java/util/AbstractList" "modCount" "I" (.int (0 : Int32))) (Fz : Fld Z h0 r0 "java/util/ArrayList" "size" "I" (.int (0 : Int32))) (Fd : Fld Z h0 r0 "java/util/ArrayList" "elementData" "[Ljava/lang/Object;" .null) (g_r0 : n0 ≤ r0) (O0 : Old Z n0 h0) (Sd : Sta Z Z.heap "java/util/ArrayList" "DEFAULTCAPACITY_EMPTY_ELEMENTDATA" "[Ljava/lang/Object;" (.ref de)) :
    MetFree l (⟨"java/util/ArrayList", "<init>", "()V"⟩ : MethodName) (head1 (Jvm.Cond.code (⟨"java/util/ArrayList", "<init>", "()V"⟩ : MethodName) jdk_38_method_2_code 1 none :: ws) ({ frames := 3, cells := 0, slots := 0, locals := 36 } : Room)) (fun aX UX => aX = #[(.ref r0)] ∧ Z.Warmed39 UX.vm ∧ UX.heap = h0) (fun _ _ _ _ _ => True) (fun _ UX oX UX' => ∃ vX LX, oX = .returned vX ∧ Q8 Z r0 de h0 n0 vX UX'.heap LX ∧ FrameEnd UX oX UX' LX ({ frames := 3, cells := 0, slots := 0, locals := 36 } : Room).cells ({ frames := 3, cells := 0, slots := 0, locals := 36 } : Room).slots) := by
  refine MetFree.of_bodySF (plainFor_of_name pn_java_util_ArrayList) hisR ?_
  intro p e s m args below meth c s₁ Bd hml0 hP hK
  obtain ⟨rfl, hZ, hh⟩ := hP
  have hx := Bd.exec
  have hby := Bd.bytes
  have hml : c.maxLocals = 1 := hml0
  have hown : s.vm.findClass "java/util/ArrayList" = some m.cls := findClass_of_methodNamed Bd.named
  have hnm := (name_of_methodNamed Bd.named Bd.method).1
  have X0 : Stand p l e ({ frames := 3, cells := 0, slots := 0, locals := 36 } : Room) s m #[(.ref r0)] below meth c s₁ [] 0 0 := Stand.of_body Bd
  have e0 : s₁.heap = h0 := by rw [← hh, Bd.state]; rfl
  have N0 := Fr.nil n0
  show own_Comes p e below s ({ frames := 3, cells := 0, slots := 0, locals := 36 } : Room).cells ({ frames := 3, cells := 0, slots := 0, locals := 36 } : Room).slots (Q8 Z r0 de h0 n0) _
  rw [show entryFrame m #[(.ref r0)] 1 = mkF m 0 #[.val (.ref r0)] [] from ef_rm8 m r0]
  show own_Comes p e below s _ _ _ (s₁.setTop (mkF m 0 #[.val (.ref r0)] []))
  refine own_by (fun _ kS => XS.aloadN X0.here hx rfl (hb hby d8_0) rfl rfl kS) ?_
  show own_Comes p e below s _ _ _ (s₁.setTop (mkF m 1 #[.val (.ref r0)] [(.ref r0)]))
  obtain ⟨_, _, ⟨T6, L6, k6, n6⟩, -, X6, ⟨Lc6, hQ6, l6, y6, z6⟩, st6⟩ := X0.specialBack hx (y := (⟨"java/util/AbstractList", "<init>", "()V"⟩ : MethodName)) rfl hown (mvT hZ (hw _ (List.mem_of_getElem? (i := 41) rfl))) (mvT hZ (hw _ (List.mem_of_getElem? (i := 42) rfl))) (mvT hZ (hw _ (List.mem_of_getElem? (i := 46) rfl))) (by decide) (backOf (W := 0) (rm9 l Z a0 hw [] r0 h0 n0 Z0 Et Fm Fz Fd g_r0) hZ (hw _ (List.mem_of_getElem? (i := 46) rfl)) (hw _ (List.mem_of_getElem? (i := 45) rfl)) (by decide) (by decide)) (g := (mkF m 1 #[.val (.ref r0)] [(.ref r0)])) rfl (by rw [hml]; rfl) (Steps.refl _) (a := r0) (argsL := []) (rest := []) (lenOf pd___V_167 rfl) rfl (by show 2 * 0 + _ ≤ _; exact Nat.le_of_eq rfl) (hb hby d8_1) (fun _ _ => ⟨rfl, e0, (by decide : 0 + 0 ≤ _), (by decide : 0 + 0 ≤ _)⟩)
  dsimp only [Pt.U, Pt.locs, Pt.cells, Pt.slots] at X6 l6 y6 z6 st6 hQ6
  subst l6 y6 z6
  obtain ⟨rfl, N6q, K6, Fm6, Fz6, Fd6⟩ := hQ6
  have N6 := Fr.app N0 N6q
  refine own_tr st6 ?_
  show own_Comes p e below s _ _ _ (T6.setTop (mkF m 4 #[.val (.ref r0)] []))
  refine own_by (fun _ kS => XS.aloadN X6.here hx rfl (hb hby d8_4) rfl rfl kS) ?_
  show own_Comes p e below s _ _ _ (T6.setTop (mkF m 5 #[.val (.ref r0)] [(.ref r0)]))
  obtain ⟨T7, X7, e7, st7⟩ := getS2 X6 hx hZ hown (host := "") (Or.inl (hw _ (List.mem_of_getElem? (i := 56) rfl))) Via.refl rfl (Sd.ext (O0.keep K6 (allS g_r0 all0)).2) (g := (mkF m 5 #[.val (.ref r0)] [(.ref r0)])) rfl (hb hby d8_5)
  refine own_by st7 ?_
  show own_Comes p e below s _ _ _ (T7.setTop (mkF m 8 #[.val (.ref r0)] [(.ref de), (.ref r0)]))
  obtain ⟨T8, h8, X8, e8, W8, st8⟩ := putF X7 hx hZ hown (host := "") (Or.inl (hw _ (List.mem_of_getElem? (i := 57) rfl))) Via.refl e7 Fd6 (Et.keep K6) (Or.inl (hw _ (List.mem_of_getElem? (i := 58) rfl))) (hw _ (List.mem_of_getElem? (i := 36) rfl)) (ty := (.array (.object "java/lang/Object"))) (by decide) rfl rfl (g := (mkF m 8 #[.val (.ref r0)] [(.ref de), (.ref r0)])) rfl rfl (hb hby d8_8)
  refine own_by st8 ?_
  have Fw8 := Fd6.same W8
  have N8 := Fr.snoc X8 N6 g_r0
  show own_Comes p e below s _ _ _ (T8.setTop (mkF m 11 #[.val (.ref r0)] []))
  have c9 := (Fm6.other W8 (Or.inr (slot_ne (Or.inl (hw _ (List.mem_of_getElem? (i := 55) rfl))) (Or.inl (hw _ (List.mem_of_getElem? (i := 58) rfl))) (by decide) (t := .int) (t' := (.array (.object "java/lang/Object"))) (by decide) (by decide))))
  have c10 := (Fz6.other W8 (Or.inr (slot_ne (Or.inl (hw _ (List.mem_of_getElem? (i := 71) rfl))) (Or.inl (hw _ (List.mem_of_getElem? (i := 58) rfl))) (by decide) (t := .int) (t' := (.array (.object "java/lang/Object"))) (by decide) (by decide))))
  refine own_ret X8 (v := none) (fun _ => rfl) Bd.notSynchronized (by decide) (by decide) ?_ (fun fs hr => X8.returnOut hx Bd.returns (hb hby d8_11) hr)
  rw [e8]; exact ⟨rfl, N8, (((Keep.refl _ _).trans K6 (allS (Or.inl (List.mem_of_getElem? (i := 0) rfl)) all0)).wr W8 (Or.inl (List.mem_of_getElem? (i := 0) rfl))), c9, c10, Fw8⟩
def Q15 (Z : State) (h0 : Heap) (n0 : Nat) (v : Option Value) (h : Heap) (L : List Loc) : Prop := v = some (.int (10 : Int32)) ∧ Fr n0 L ∧ h = h0
theorem ef_rm15 (m : MethodId) (x0 : Int32) (x1 : Int32) : entryFrame m #[(.int x0), (.int x1)] 2 = mkF m 0 #[.val (.int x0), .val (.int x1)] [] := by first | (simp [entryFrame, mkF, argsToLocals, Value.category]; done) | rfl
theorem d15_0 : decode jdk_29_method_65_code 0 = .ok (.iload_n 0, 1) := by decide +kernel
theorem d15_1 : decode jdk_29_method_65_code 1 = .ok (.iload_n 1, 1) := by decide +kernel
theorem d15_2 : decode jdk_29_method_65_code 2 = .ok (.if_icmp .lt 7, 3) := by decide +kernel
theorem d15_5 : decode jdk_29_method_65_code 5 = .ok (.iload_n 0, 1) := by decide +kernel
theorem d15_6 : decode jdk_29_method_65_code 6 = .ok (.goto 4, 3) := by decide +kernel
theorem d15_10 : decode jdk_29_method_65_code 10 = .ok (.ireturn, 1) := by decide +kernel
set_option maxRecDepth 65536 in
set_option maxHeartbeats 40000000 in
theorem rm15 (l : Launch) (Z : State) (a0 : Array Value) (hw : ∀ d ∈ tables_1, d.before a0 Z = true) (ws : List Jvm.Cond)  (h0 : Heap) (n0 : Nat) (Z0 : n0 ≤ h0.size) :
    MetFree l (⟨"java/lang/Math", "max", "(II)I"⟩ : MethodName) (head1 (Jvm.Cond.code (⟨"java/lang/Math", "max", "(II)I"⟩ : MethodName) jdk_29_method_65_code 2 (some .int) :: ws) ({ frames := 0, cells := 0, slots := 0, locals := 0 } : Room)) (fun aX UX => aX = #[(.int (10 : Int32)), (.int (1 : Int32))] ∧ Z.Warmed39 UX.vm ∧ UX.heap = h0) (fun _ _ _ _ _ => True) (fun _ UX oX UX' => ∃ vX LX, oX = .returned vX ∧ Q15 Z  h0 n0 vX UX'.heap LX ∧ FrameEnd UX oX UX' LX ({ frames := 0, cells := 0, slots := 0, locals := 0 } : Room).cells ({ frames := 0, cells := 0, slots := 0, locals := 0 } : Room).slots) := by
  refine MetFree.of_bodySF (Jvm.Free.JP.mathPlain rfl (by decide +kernel)) hisR ?_
  intro p e s m args below meth c s₁ Bd hml0 hP hK
  obtain ⟨rfl, hZ, hh⟩ := hP
  have hx := Bd.exec
  have hby := Bd.bytes
  have hml : c.maxLocals = 2 := hml0
  have hown : s.vm.findClass "java/lang/Math" = some m.cls := findClass_of_methodNamed Bd.named
  have hnm := (name_of_methodNamed Bd.named Bd.method).1
  have X0 : Stand p l e ({ frames := 0, cells := 0, slots := 0, locals := 0 } : Room) s m #[(.int (10 : Int32)), (.int (1 : Int32))] below meth c s₁ [] 0 0 := Stand.of_body Bd
  have e0 : s₁.heap = h0 := by rw [← hh, Bd.state]; rfl
  have N0 := Fr.nil n0
  show own_Comes p e below s ({ frames := 0, cells := 0, slots := 0, locals := 0 } : Room).cells ({ frames := 0, cells := 0, slots := 0, locals := 0 } : Room).slots (Q15 Z  h0 n0) _
  rw [show entryFrame m #[(.int (10 : Int32)), (.int (1 : Int32))] 2 = mkF m 0 #[.val (.int (10 : Int32)), .val (.int (1 : Int32))] [] from ef_rm15 m (10 : Int32) (1 : Int32)]
  show own_Comes p e below s _ _ _ (s₁.setTop (mkF m 0 #[.val (.int (10 : Int32)), .val (.int (1 : Int32))] []))
  refine own_by (fun _ kS => XS.iloadN X0.here hx rfl (hb hby d15_0) rfl kS) ?_
  show own_Comes p e below s _ _ _ (s₁.setTop (mkF m 1 #[.val (.int (10 : Int32)), .val (.int (1 : Int32))] [(.int (10 : Int32))]))
  refine own_by (fun _ kS => XS.iloadN X0.here hx rfl (hb hby d15_1) rfl kS) ?_
  show own_Comes p e below s _ _ _ (s₁.setTop (mkF m 2 #[.val (.int (10 : Int32)), .val (.int (1 : Int32))] [(.int (1 : Int32)), (.int (10 : Int32))]))
  have hb11 : ¬ ((10 : Int32) < (1 : Int32)) := by decide
  refine own_by (fun _ kS => XS.icmpNo X0.here hx rfl (hb hby d15_2) rfl (flt hb11).1 kS) ?_
  show own_Comes p e below s _ _ _ (s₁.setTop (mkF m 5 #[.val (.int (10 : Int32)), .val (.int (1 : Int32))] []))
  refine own_by (fun _ kS => XS.iloadN X0.here hx rfl (hb hby d15_5) rfl kS) ?_
  show own_Comes p e below s _ _ _ (s₁.setTop (mkF m 6 #[.val (.int (10 : Int32)), .val (.int (1 : Int32))] [(.int (10 : Int32))]))
  refine own_by (fun _ kS => XS.goto X0.here hx rfl (pc0 := 6) (pc' := 10) rfl (hb hby d15_6) (by decide) (by decide) kS) ?_
  show own_Comes p e below s _ _ _ (s₁.setTop (mkF m 10 #[.val (.int (10 : Int32)), .val (.int (1 : Int32))] [(.int (10 : Int32))]))
  refine own_ret X0 (v := some (.int (10 : Int32))) (fun h => by rw [Bd.returns] at h; cases h) Bd.notSynchronized (by decide) (by decide) ?_ (fun fs hr => retI X0 hx Bd.returns (hb hby d15_10) hr)
  rw [e0]; exact ⟨rfl, N0, rfl⟩
def Q14 (Z : State) (r0 : Addr) (mc : Int32) (h0 : Heap) (n0 : Nat) (v : Option Value) (h : Heap) (L : List Loc) : Prop := ∃ (a : Addr) (k : ClassId), v = some (.ref a) ∧ Fr n0 L ∧ Keep h0 h [r0] ∧ n0 ≤ a ∧ h0.size ≤ a ∧ r0 ≠ a ∧ Exa Z h r0 "java/util/ArrayList" ∧ Fld Z h r0 "java/util/AbstractList" "modCount" "I" (.int mc) ∧ Fld Z h r0 "java/util/ArrayList" "size" "I" (.int (0 : Int32)) ∧ Fld Z h r0 "java/util/ArrayList" "elementData" "[Ljava/lang/Object;" (.ref a) ∧ Arv Z h a k (.object "java/lang/Object") (10 : Int32) [.null, .null, .null, .null, .null, .null, .null, .null, .null, .null] .null ∧ Ovr Z k "java/lang/Object"
theorem ef_rm14 (m : MethodId) (x0 : Addr) (x1 : Int32) : entryFrame m #[(.ref x0), (.int x1)] 4 = mkF m 0 #[.val (.ref x0), .val (.int x1), .unset, .unset] [] := by first | (simp [entryFrame, mkF, argsToLocals, Value.category]; done) | rfl
theorem d14_0 : decode jdk_38_method_6_code 0 = .ok (.aload_n 0, 1) := by decide +kernel
theorem d14_1 : decode jdk_38_method_6_code 1 = .ok (.getfield 9, 3) := by decide +kernel
theorem d14_4 : decode jdk_38_method_6_code 4 = .ok (.arraylength, 1) := by decide +kernel
theorem d14_5 : decode jdk_38_method_6_code 5 = .ok (.istore_n 2, 1) := by decide +kernel
theorem d14_6 : decode jdk_38_method_6_code 6 = .ok (.iload_n 2, 1) := by decide +kernel
theorem d14_7 : decode jdk_38_method_6_code 7 = .ok (.ifCond .gt 13, 3) := by decide +kernel
theorem d14_10 : decode jdk_38_method_6_code 10 = .ok (.aload_n 0, 1) := by decide +kernel
theorem d14_11 : decode jdk_38_method_6_code 11 = .ok (.getfield 9, 3) := by decide +kernel
theorem d14_14 : decode jdk_38_method_6_code 14 = .ok (.getstatic 39, 3) := by decide +kernel
theorem d14_17 : decode jdk_38_method_6_code 17 = .ok (.if_acmp .eq 28, 3) := by decide +kernel
theorem d14_45 : decode jdk_38_method_6_code 45 = .ok (.aload_n 0, 1) := by decide +kernel
theorem d14_46 : decode jdk_38_method_6_code 46 = .ok (.bipush 10, 2) := by decide +kernel
theorem d14_48 : decode jdk_38_method_6_code 48 = .ok (.iload_n 1, 1) := by decide +kernel
theorem pd__II_I_300 : parseMethodDescriptor "(II)I" = some ⟨[.int, .int], some .int⟩ := by decide +kernel
theorem d14_49 : decode jdk_38_method_6_code 49 = .ok (.invokestatic 79, 3) := by decide +kernel
theorem d14_52 : decode jdk_38_method_6_code 52 = .ok (.anewarray 7, 3) := by decide +kernel
theorem d14_55 : decode jdk_38_method_6_code 55 = .ok (.dup_x1, 1) := by decide +kernel
theorem d14_56 : decode jdk_38_method_6_code 56 = .ok (.putfield 9, 3) := by decide +kernel
theorem d14_59 : decode jdk_38_method_6_code 59 = .ok (.areturn, 1) := by decide +kernel
set_option maxRecDepth 65536 in
set_option maxHeartbeats 40000000 in
theorem rm14 (l : Launch) (Z : State) (a0 : Array Value) (hw : ∀ d ∈ tables_1, d.before a0 Z = true) (ws : List Jvm.Cond) (r0 de : Addr) (mc : Int32) (kd : ClassId) (h0 : Heap) (n0 : Nat) (Z0 : n0 ≤ h0.size) (Et : Exa Z h0 r0 "java/util/ArrayList") (Fm : Fld Z h0 r0 "java/util/AbstractList" "modCount" "I" (.int mc)) (Fz : Fld Z h0 r0 "java/util/ArrayList" "size" "I" (.int (0 : Int32))) (Fd : Fld Z h0 r0 "java/util/ArrayList" "elementData" "[Ljava/lang/Object;" (.ref de)) (g_r0 : n0 ≤ r0) (O0 : Old Z n0 h0) (Sd : Sta Z Z.heap "java/util/ArrayList" "DEFAULTCAPACITY_EMPTY_ELEMENTDATA" "[Ljava/lang/Object;" (.ref de)) (Vd : Arv Z Z.heap de kd (.object "java/lang/Object") (0 : Int32) [] .null) :
    MetFree l (⟨"java/util/ArrayList", "grow", "(I)[Ljava/lang/Object;"⟩ : MethodName) (head1 (Jvm.Cond.code (⟨"java/util/ArrayList", "grow", "(I)[Ljava/lang/Object;"⟩ : MethodName) jdk_38_method_6_code 4 (some (.array (.object "java/lang/Object"))) :: ws) ({ frames := 1, cells := 1, slots := 10, locals := 14 } : Room)) (fun aX UX => aX = #[(.ref r0), (.int (1 : Int32))] ∧ Z.Warmed39 UX.vm ∧ UX.heap = h0) (fun _ _ _ _ _ => True) (fun _ UX oX UX' => ∃ vX LX, oX = .returned vX ∧ Q14 Z r0 mc h0 n0 vX UX'.heap LX ∧ FrameEnd UX oX UX' LX ({ frames := 1, cells := 1, slots := 10, locals := 14 } : Room).cells ({ frames := 1, cells := 1, slots := 10, locals := 14 } : Room).slots) := by
  refine MetFree.of_bodySF (plainFor_of_name pn_java_util_ArrayList) hisR ?_
  intro p e s m args below meth c s₁ Bd hml0 hP hK
  obtain ⟨rfl, hZ, hh⟩ := hP
  have hx := Bd.exec
  have hby := Bd.bytes
  have hml : c.maxLocals = 4 := hml0
  have hown : s.vm.findClass "java/util/ArrayList" = some m.cls := findClass_of_methodNamed Bd.named
  have hnm := (name_of_methodNamed Bd.named Bd.method).1
  have X0 : Stand p l e ({ frames := 1, cells := 1, slots := 10, locals := 14 } : Room) s m #[(.ref r0), (.int (1 : Int32))] below meth c s₁ [] 0 0 := Stand.of_body Bd
  have e0 : s₁.heap = h0 := by rw [← hh, Bd.state]; rfl
  have N0 := Fr.nil n0
  show own_Comes p e below s ({ frames := 1, cells := 1, slots := 10, locals := 14 } : Room).cells ({ frames := 1, cells := 1, slots := 10, locals := 14 } : Room).slots (Q14 Z r0 mc h0 n0) _
  rw [show entryFrame m #[(.ref r0), (.int (1 : Int32))] 4 = mkF m 0 #[.val (.ref r0), .val (.int (1 : Int32)), .unset, .unset] [] from ef_rm14 m r0 (1 : Int32)]
  show own_Comes p e below s _ _ _ (s₁.setTop (mkF m 0 #[.val (.ref r0), .val (.int (1 : Int32)), .unset, .unset] []))
  refine own_by (fun _ kS => XS.aloadN X0.here hx rfl (hb hby d14_0) rfl rfl kS) ?_
  show own_Comes p e below s _ _ _ (s₁.setTop (mkF m 1 #[.val (.ref r0), .val (.int (1 : Int32)), .unset, .unset] [(.ref r0)]))
  obtain ⟨T12, X12, e12, st12⟩ := getF X0 hx hZ hown (host := "") (Or.inl (hw _ (List.mem_of_getElem? (i := 57) rfl))) Via.refl e0 Fd (g := (mkF m 1 #[.val (.ref r0), .val (.int (1 : Int32)), .unset, .unset] [(.ref r0)])) rfl rfl (hb hby d14_1)
  refine own_by st12 ?_
  show own_Comes p e below s _ _ _ (T12.setTop (mkF m 4 #[.val (.ref r0), .val (.int (1 : Int32)), .unset, .unset] [(.ref de)]))
  have Vo13 := (Vd.ext O0.2)
  obtain ⟨cl13, Ar13, qA13, SA13, NA13, HA13, GA13⟩ := Vo13
  refine own_by (fun _ kS => X12.arraylength hx (by rw [e12]; exact Ar13.1) (State.isArrayOf_alike hZ.alike Ar13.2.1) (g := (mkF m 4 #[.val (.ref r0), .val (.int (1 : Int32)), .unset, .unset] [(.ref de)])) rfl rfl (hb hby d14_4) _ kS) ?_
  rw [len_of SA13 NA13]
  show own_Comes p e below s _ _ _ (T12.setTop (mkF m 5 #[.val (.ref r0), .val (.int (1 : Int32)), .unset, .unset] [(.int (0 : Int32))]))
  refine own_by (fun _ kS => XS.istoreN X12.here hx rfl (hb hby d14_5) rfl (l' := #[.val (.ref r0), .val (.int (1 : Int32)), .val (.int (0 : Int32)), .unset]) rfl kS) ?_
  show own_Comes p e below s _ _ _ (T12.setTop (mkF m 6 #[.val (.ref r0), .val (.int (1 : Int32)), .val (.int (0 : Int32)), .unset] []))
  refine own_by (fun _ kS => XS.iloadN X12.here hx rfl (hb hby d14_6) rfl kS) ?_
  show own_Comes p e below s _ _ _ (T12.setTop (mkF m 7 #[.val (.ref r0), .val (.int (1 : Int32)), .val (.int (0 : Int32)), .unset] [(.int (0 : Int32))]))
  have hb14 : ¬ ((0 : Int32) < (0 : Int32)) := by decide
  refine own_by (fun _ kS => XS.ifNo X12.here hx rfl (hb hby d14_7) rfl ((if0 _ _).trans (flt hb14).2.2.1) kS) ?_
  show own_Comes p e below s _ _ _ (T12.setTop (mkF m 10 #[.val (.ref r0), .val (.int (1 : Int32)), .val (.int (0 : Int32)), .unset] []))
  refine own_by (fun _ kS => XS.aloadN X12.here hx rfl (hb hby d14_10) rfl rfl kS) ?_
  show own_Comes p e below s _ _ _ (T12.setTop (mkF m 11 #[.val (.ref r0), .val (.int (1 : Int32)), .val (.int (0 : Int32)), .unset] [(.ref r0)]))
  obtain ⟨T15, X15, e15, st15⟩ := getF X12 hx hZ hown (host := "") (Or.inl (hw _ (List.mem_of_getElem? (i := 57) rfl))) Via.refl e12 Fd (g := (mkF m 11 #[.val (.ref r0), .val (.int (1 : Int32)), .val (.int (0 : Int32)), .unset] [(.ref r0)])) rfl rfl (hb hby d14_11)
  refine own_by st15 ?_
  show own_Comes p e below s _ _ _ (T15.setTop (mkF m 14 #[.val (.ref r0), .val (.int (1 : Int32)), .val (.int (0 : Int32)), .unset] [(.ref de)]))
  obtain ⟨T16, X16, e16, st16⟩ := getS2 X15 hx hZ hown (host := "") (Or.inl (hw _ (List.mem_of_getElem? (i := 56) rfl))) Via.refl e15 (Sd.ext O0.2) (g := (mkF m 14 #[.val (.ref r0), .val (.int (1 : Int32)), .val (.int (0 : Int32)), .unset] [(.ref de)])) rfl (hb hby d14_14)
  refine own_by st16 ?_
  show own_Comes p e below s _ _ _ (T16.setTop (mkF m 17 #[.val (.ref r0), .val (.int (1 : Int32)), .val (.int (0 : Int32)), .unset] [(.ref de), (.ref de)]))
  refine own_by (fun _ kS => Jvm.RoadKit.acmp (g := (mkF m 17 #[.val (.ref r0), .val (.int (1 : Int32)), .val (.int (0 : Int32)), .unset] [(.ref de), (.ref de)])) X16 hx rfl rfl rfl (pc0 := 17) (pc' := 45) (same := true) rfl (hb hby d14_17) rfl (decide_eq_true rfl) (by decide) (by decide) kS) ?_
  show own_Comes p e below s _ _ _ (T16.setTop (mkF m 45 #[.val (.ref r0), .val (.int (1 : Int32)), .val (.int (0 : Int32)), .unset] []))
  refine own_by (fun _ kS => XS.aloadN X16.here hx rfl (hb hby d14_45) rfl rfl kS) ?_
  show own_Comes p e below s _ _ _ (T16.setTop (mkF m 46 #[.val (.ref r0), .val (.int (1 : Int32)), .val (.int (0 : Int32)), .unset] [(.ref r0)]))
  refine own_by (fun _ kS => XS.bipush X16.here hx rfl (hb hby d14_46) kS) ?_
  show own_Comes p e below s _ _ _ (T16.setTop (mkF m 48 #[.val (.ref r0), .val (.int (1 : Int32)), .val (.int (0 : Int32)), .unset] [(.int (10 : Int32)), (.ref r0)]))
  refine own_by (fun _ kS => XS.iloadN X16.here hx rfl (hb hby d14_48) rfl kS) ?_
  show own_Comes p e below s _ _ _ (T16.setTop (mkF m 49 #[.val (.ref r0), .val (.int (1 : Int32)), .val (.int (0 : Int32)), .unset] [(.int (1 : Int32)), (.int (10 : Int32)), (.ref r0)]))
  obtain ⟨_, _, ⟨T17, L17, k17, n17⟩, -, X17, ⟨Lc17, hQ17, l17, y17, z17⟩, st17⟩ := Jvm.LawKit.callS X16 hx (y := (⟨"java/lang/Math", "max", "(II)I"⟩ : MethodName)) hown (mvT hZ (hw _ (List.mem_of_getElem? (i := 87) rfl))) (mvT hZ (hw _ (List.mem_of_getElem? (i := 88) rfl))) (mvT hZ (hw _ (List.mem_of_getElem? (i := 89) rfl))) (mvT hZ (hw _ (List.mem_of_getElem? (i := 90) rfl))) (by decide) (backOf (W := 1) (rm15 l Z a0 hw []  h0 n0 Z0) hZ (hw _ (List.mem_of_getElem? (i := 90) rfl)) (hw _ (List.mem_of_getElem? (i := 89) rfl)) (by decide) (by decide)) (g := (mkF m 49 #[.val (.ref r0), .val (.int (1 : Int32)), .val (.int (0 : Int32)), .unset] [(.int (1 : Int32)), (.int (10 : Int32)), (.ref r0)])) rfl (by rw [hml]; rfl) (argsL := [(.int (10 : Int32)), (.int (1 : Int32))]) (rest := [(.ref r0)]) (lenOf pd__II_I_300 rfl) rfl (by show 2 * 0 + _ ≤ _; exact Nat.le_of_eq rfl) (hb hby d14_49) (fun _ _ => ⟨rfl, e16, (by decide : 0 + 0 ≤ _), (by decide : 0 + 0 ≤ _)⟩)
  dsimp only [Pt.U, Pt.locs, Pt.cells, Pt.slots] at X17 l17 y17 z17 st17 hQ17
  subst l17 y17 z17
  obtain ⟨rfl, N17q, e17q⟩ := hQ17
  have N17 := Fr.app N0 N17q
  refine own_by st17 ?_
  have e17 : T17.heap = h0 := e17q
  show own_Comes p e below s _ _ _ (T17.setTop (mkF m 52 #[.val (.ref r0), .val (.int (1 : Int32)), .val (.int (0 : Int32)), .unset] [(.int (10 : Int32)), (.ref r0)]))
  obtain ⟨T18, h18, k18, X18, e18, E18, A18, O18, st18⟩ := newR X17 hx hZ hown (hw _ (List.mem_of_getElem? (i := 91) rfl)) (hw _ (List.mem_of_getElem? (i := 92) rfl)) e17 (g := (mkF m 52 #[.val (.ref r0), .val (.int (1 : Int32)), .val (.int (0 : Int32)), .unset] [(.int (10 : Int32)), (.ref r0)])) rfl (hb hby d14_52) rfl (by decide) (cap := 10) (by decide) (by decide) (by decide) (by decide)
  obtain ⟨b18, g18⟩ : ∃ z, z = h0.size := ⟨_, rfl⟩
  rw [← g18] at A18 st18
  have g_b18 : n0 ≤ b18 := Nat.le_trans Z0 (Nat.le_of_eq g18.symm)
  refine own_by st18 ?_
  have V_b18 : Arv Z h18 b18 k18 (.object "java/lang/Object") (10 : Int32) [.null, .null, .null, .null, .null, .null, .null, .null, .null, .null] .null := (Arv.new A18 (by decide)).pad (pad_rep [] .null 10)
  show own_Comes p e below s _ _ _ (T18.setTop (mkF m 55 #[.val (.ref r0), .val (.int (1 : Int32)), .val (.int (0 : Int32)), .unset] [(.ref b18), (.ref r0)]))
  have sz_b18 : h0.size ≤ b18 := Nat.le_trans (Keep.refl h0 []).1 (Nat.le_of_eq g18.symm)
  have nA : r0 ≠ b18 := Nat.ne_of_lt (Nat.lt_of_lt_of_le (Et.lt) (Nat.le_of_eq g18.symm))
  refine own_by (fun _ kS => XS.dupX1 X18.here hx rfl (hb hby d14_55) rfl rfl rfl kS) ?_
  show own_Comes p e below s _ _ _ (T18.setTop (mkF m 56 #[.val (.ref r0), .val (.int (1 : Int32)), .val (.int (0 : Int32)), .unset] [(.ref b18), (.ref r0), (.ref b18)]))
  obtain ⟨T19, h19, X19, e19, W19, st19⟩ := putF X18 hx hZ hown (host := "") (Or.inl (hw _ (List.mem_of_getElem? (i := 57) rfl))) Via.refl e18 (Fd.ext E18) (Et.ext E18) (Or.inl (hw _ (List.mem_of_getElem? (i := 58) rfl))) (hw _ (List.mem_of_getElem? (i := 36) rfl)) (ty := (.array (.object "java/lang/Object"))) (by decide) rfl rfl (g := (mkF m 56 #[.val (.ref r0), .val (.int (1 : Int32)), .val (.int (0 : Int32)), .unset] [(.ref b18), (.ref r0), (.ref b18)])) rfl rfl (hb hby d14_56)
  refine own_by st19 ?_
  have Fw19 := (Fd.ext E18).same W19
  have N19 := Fr.snoc X19 N17 g_r0
  show own_Comes p e below s _ _ _ (T19.setTop (mkF m 59 #[.val (.ref r0), .val (.int (1 : Int32)), .val (.int (0 : Int32)), .unset] [(.ref b18)]))
  have c20 := ((Fm.ext E18).other W19 (Or.inr (slot_ne (Or.inl (hw _ (List.mem_of_getElem? (i := 55) rfl))) (Or.inl (hw _ (List.mem_of_getElem? (i := 58) rfl))) (by decide) (t := .int) (t' := (.array (.object "java/lang/Object"))) (by decide) (by decide))))
  have c21 := ((Fz.ext E18).other W19 (Or.inr (slot_ne (Or.inl (hw _ (List.mem_of_getElem? (i := 71) rfl))) (Or.inl (hw _ (List.mem_of_getElem? (i := 58) rfl))) (by decide) (t := .int) (t' := (.array (.object "java/lang/Object"))) (by decide) (by decide))))
  refine own_ret X19 (v := some (.ref b18)) (fun h => by rw [Bd.returns] at h; cases h) Bd.notSynchronized (by decide) (by decide) ?_ (fun fs hr => own_reta X19 hx Bd.returns rfl rfl (hb hby d14_59) hr)
  rw [e19]; exact ⟨_, _, rfl, N19, (((Keep.refl _ _).ext E18).wr W19 (Or.inl (List.mem_of_getElem? (i := 0) rfl))), g_b18, sz_b18, nA, ((Et.ext E18).wr W19), c20, c21, Fw19, (V_b18.other W19 (Ne.symm nA)), O18⟩
def Q13 (Z : State) (r0 : Addr) (mc : Int32) (h0 : Heap) (n0 : Nat) (v : Option Value) (h : Heap) (L : List Loc) : Prop := ∃ (a : Addr) (k : ClassId), v = some (.ref a) ∧ Fr n0 L ∧ Keep h0 h [r0] ∧ n0 ≤ a ∧ h0.size ≤ a ∧ r0 ≠ a ∧ Exa Z h r0 "java/util/ArrayList" ∧ Fld Z h r0 "java/util/AbstractList" "modCount" "I" (.int mc) ∧ Fld Z h r0 "java/util/ArrayList" "size" "I" (.int (0 : Int32)) ∧ Fld Z h r0 "java/util/ArrayList" "elementData" "[Ljava/lang/Object;" (.ref a) ∧ Arv Z h a k (.object "java/lang/Object") (10 : Int32) [.null, .null, .null, .null, .null, .null, .null, .null, .null, .null] .null ∧ Ovr Z k "java/lang/Object"
theorem ef_rm13 (m : MethodId) (x0 : Addr) : entryFrame m #[(.ref x0)] 1 = mkF m 0 #[.val (.ref x0)] [] := by first | (simp [entryFrame, mkF, argsToLocals, Value.category]; done) | rfl
theorem d13_0 : decode jdk_38_method_7_code 0 = .ok (.aload_n 0, 1) := by decide +kernel
theorem d13_1 : decode jdk_38_method_7_code 1 = .ok (.aload_n 0, 1) := by decide +kernel
theorem d13_2 : decode jdk_38_method_7_code 2 = .ok (.getfield 48, 3) := by decide +kernel
theorem d13_5 : decode jdk_38_method_7_code 5 = .ok (.iconst 1, 1) := by decide +kernel
theorem d13_6 : decode jdk_38_method_7_code 6 = .ok (.iadd, 1) := by decide +kernel
theorem pd__I__Ljava_lang_Object__912 : parseMethodDescriptor "(I)[Ljava/lang/Object;" = some ⟨[.int], some (.array (.object "java/lang/Object"))⟩ := by decide +kernel
theorem d13_7 : decode jdk_38_method_7_code 7 = .ok (.invokevirtual 69, 3) := by decide +kernel
theorem d13_10 : decode jdk_38_method_7_code 10 = .ok (.areturn, 1) := by decide +kernel
set_option maxRecDepth 65536 in
set_option maxHeartbeats 40000000 in
theorem rm13 (l : Launch) (Z : State) (a0 : Array Value) (hw : ∀ d ∈ tables_1, d.before a0 Z = true) (ws : List Jvm.Cond) (r0 de : Addr) (mc : Int32) (kd : ClassId) (h0 : Heap) (n0 : Nat) (Z0 : n0 ≤ h0.size) (Et : Exa Z h0 r0 "java/util/ArrayList") (Fm : Fld Z h0 r0 "java/util/AbstractList" "modCount" "I" (.int mc)) (Fz : Fld Z h0 r0 "java/util/ArrayList" "size" "I" (.int (0 : Int32))) (Fd : Fld Z h0 r0 "java/util/ArrayList" "elementData" "[Ljava/lang/Object;" (.ref de)) (g_r0 : n0 ≤ r0) (O0 : Old Z n0 h0) (Sd : Sta Z Z.heap "java/util/ArrayList" "DEFAULTCAPACITY_EMPTY_ELEMENTDATA" "[Ljava/lang/Object;" (.ref de)) (Vd : Arv Z Z.heap de kd (.object "java/lang/Object") (0 : Int32) [] .null) :
    MetFree l (⟨"java/util/ArrayList", "grow", "()[Ljava/lang/Object;"⟩ : MethodName) (head1 (Jvm.Cond.code (⟨"java/util/ArrayList", "grow", "()[Ljava/lang/Object;"⟩ : MethodName) jdk_38_method_7_code 1 (some (.array (.object "java/lang/Object"))) :: ws) ({ frames := 2, cells := 1, slots := 10, locals := 29 } : Room)) (fun aX UX => aX = #[(.ref r0)] ∧ Z.Warmed39 UX.vm ∧ UX.heap = h0) (fun _ _ _ _ _ => True) (fun _ UX oX UX' => ∃ vX LX, oX = .returned vX ∧ Q13 Z r0 mc h0 n0 vX UX'.heap LX ∧ FrameEnd UX oX UX' LX ({ frames := 2, cells := 1, slots := 10, locals := 29 } : Room).cells ({ frames := 2, cells := 1, slots := 10, locals := 29 } : Room).slots) := by
  refine MetFree.of_bodySF (plainFor_of_name pn_java_util_ArrayList) hisR ?_
  intro p e s m args below meth c s₁ Bd hml0 hP hK
  obtain ⟨rfl, hZ, hh⟩ := hP
  have hx := Bd.exec
  have hby := Bd.bytes
  have hml : c.maxLocals = 1 := hml0
  have hown : s.vm.findClass "java/util/ArrayList" = some m.cls := findClass_of_methodNamed Bd.named
  have hnm := (name_of_methodNamed Bd.named Bd.method).1
  have X0 : Stand p l e ({ frames := 2, cells := 1, slots := 10, locals := 29 } : Room) s m #[(.ref r0)] below meth c s₁ [] 0 0 := Stand.of_body Bd
  have e0 : s₁.heap = h0 := by rw [← hh, Bd.state]; rfl
  have N0 := Fr.nil n0
  show own_Comes p e below s ({ frames := 2, cells := 1, slots := 10, locals := 29 } : Room).cells ({ frames := 2, cells := 1, slots := 10, locals := 29 } : Room).slots (Q13 Z r0 mc h0 n0) _
  rw [show entryFrame m #[(.ref r0)] 1 = mkF m 0 #[.val (.ref r0)] [] from ef_rm13 m r0]
  show own_Comes p e below s _ _ _ (s₁.setTop (mkF m 0 #[.val (.ref r0)] []))
  refine own_by (fun _ kS => XS.aloadN X0.here hx rfl (hb hby d13_0) rfl rfl kS) ?_
  show own_Comes p e below s _ _ _ (s₁.setTop (mkF m 1 #[.val (.ref r0)] [(.ref r0)]))
  refine own_by (fun _ kS => XS.aloadN X0.here hx rfl (hb hby d13_1) rfl rfl kS) ?_
  show own_Comes p e below s _ _ _ (s₁.setTop (mkF m 2 #[.val (.ref r0)] [(.ref r0), (.ref r0)]))
  obtain ⟨T22, X22, e22, st22⟩ := getF X0 hx hZ hown (host := "") (Or.inl (hw _ (List.mem_of_getElem? (i := 70) rfl))) Via.refl e0 Fz (g := (mkF m 2 #[.val (.ref r0)] [(.ref r0), (.ref r0)])) rfl rfl (hb hby d13_2)
  refine own_by st22 ?_
  show own_Comes p e below s _ _ _ (T22.setTop (mkF m 5 #[.val (.ref r0)] [(.int (0 : Int32)), (.ref r0)]))
  refine own_by (fun _ kS => XS.iconst X22.here hx rfl (hb hby d13_5) kS) ?_
  show own_Comes p e below s _ _ _ (T22.setTop (mkF m 6 #[.val (.ref r0)] [(.int (1 : Int32)), (.int (0 : Int32)), (.ref r0)]))
  refine own_by (fun _ kS => XS.iadd X22.here hx rfl (hb hby d13_6) rfl kS) ?_
  show own_Comes p e below s _ _ _ (T22.setTop (mkF m 7 #[.val (.ref r0)] [(.int ((0 : Int32) + (1 : Int32))), (.ref r0)]))
  rw [show ((0 : Int32) + (1 : Int32)) = (1 : Int32) from by decide]
  show own_Comes p e below s _ _ _ (T22.setTop (mkF m 7 #[.val (.ref r0)] [(.int (1 : Int32)), (.ref r0)]))
  obtain ⟨cq23, q23, q23'⟩ := Et.cell
  obtain ⟨_, _, ⟨T23, L23, k23, n23⟩, -, X23, ⟨Lc23, hQ23, l23, y23, z23⟩, st23⟩ := X22.privateBack hx (y := (⟨"java/util/ArrayList", "grow", "(I)[Ljava/lang/Object;"⟩ : MethodName)) hown (mvT hZ (hw _ (List.mem_of_getElem? (i := 82) rfl))) (mvT hZ (hw _ (List.mem_of_getElem? (i := 83) rfl))) (mvT hZ (hw _ (List.mem_of_getElem? (i := 85) rfl))) (Cond.privateMethod_at (mvP hZ (hw _ (List.mem_of_getElem? (i := 84) rfl)) (args := #[]))) (mvT hZ (hw _ (List.mem_of_getElem? (i := 86) rfl))) (by decide) (backOf (W := 0) (rm14 l Z a0 hw [] r0 de mc kd h0 n0 Z0 Et Fm Fz Fd g_r0 O0 Sd Vd) hZ (hw _ (List.mem_of_getElem? (i := 86) rfl)) (hw _ (List.mem_of_getElem? (i := 37) rfl)) (by decide) (by decide)) (g := (mkF m 7 #[.val (.ref r0)] [(.int (1 : Int32)), (.ref r0)])) rfl (by rw [hml]; rfl) (Steps.refl _) (a := r0) (by rw [e22]; exact q23) q23' (argsL := [(.int (1 : Int32))]) (rest := []) (lenOf pd__I__Ljava_lang_Object__912 rfl) rfl (by show 2 * 0 + _ ≤ _; exact Nat.le_of_eq rfl) (hb hby d13_7) (fun _ _ => ⟨rfl, e22, (by decide : 0 + 1 ≤ _), (by decide : 0 + 10 ≤ _)⟩)
  dsimp only [Pt.U, Pt.locs, Pt.cells, Pt.slots] at X23 l23 y23 z23 st23 hQ23
  subst l23 y23 z23
  obtain ⟨a23, k23, rfl, N23q, q23⟩ := hQ23
  have N23 := Fr.app N0 N23q
  refine own_tr st23 ?_
  show own_Comes p e below s _ _ _ (T23.setTop (mkF m 10 #[.val (.ref r0)] [(.ref a23)]))
  refine own_ret X23 (v := some (.ref a23)) (fun h => by rw [Bd.returns] at h; cases h) Bd.notSynchronized (by decide) (by decide) ?_ (fun fs hr => own_reta X23 hx Bd.returns rfl rfl (hb hby d13_10) hr)
  exact ⟨_, _, rfl, N23, q23⟩
def Q12g (Z : State) (r0 r1 : Addr) (h0 : Heap) (n0 : Nat) (v : Option Value) (h : Heap) (L : List Loc) : Prop := v = none ∧ Fr n0 L ∧ Keep h0 h [r0] ∧ ∃ (a : Addr) (k : ClassId), n0 ≤ a ∧ own_L Z h r0 a k (1 : Int32) [(.ref r1), .null, .null, .null, .null, .null, .null, .null, .null, .null]
theorem ef_rm12g (m : MethodId) (x0 : Addr) (x1 : Addr) (x2 : Addr) (x3 : Int32) : entryFrame m #[(.ref x0), (.ref x1), (.ref x2), (.int x3)] 4 = mkF m 0 #[.val (.ref x0), .val (.ref x1), .val (.ref x2), .val (.int x3)] [] := by first | (simp [entryFrame, mkF, argsToLocals, Value.category]; done) | rfl
theorem d12_0 : decode jdk_38_method_24_code 0 = .ok (.iload_n 3, 1) := by decide +kernel
theorem d12_1 : decode jdk_38_method_24_code 1 = .ok (.aload_n 2, 1) := by decide +kernel
theorem d12_2 : decode jdk_38_method_24_code 2 = .ok (.arraylength, 1) := by decide +kernel
theorem d12_3 : decode jdk_38_method_24_code 3 = .ok (.if_icmp .ne 8, 3) := by decide +kernel
theorem d12_6 : decode jdk_38_method_24_code 6 = .ok (.aload_n 0, 1) := by decide +kernel
theorem pd____Ljava_lang_Object__839 : parseMethodDescriptor "()[Ljava/lang/Object;" = some ⟨[], some (.array (.object "java/lang/Object"))⟩ := by decide +kernel
theorem d12_7 : decode jdk_38_method_24_code 7 = .ok (.invokevirtual 129, 3) := by decide +kernel
theorem d12_10 : decode jdk_38_method_24_code 10 = .ok (.astore_n 2, 1) := by decide +kernel
theorem d12_11 : decode jdk_38_method_24_code 11 = .ok (.aload_n 2, 1) := by decide +kernel
theorem d12_12 : decode jdk_38_method_24_code 12 = .ok (.iload_n 3, 1) := by decide +kernel
theorem d12_13 : decode jdk_38_method_24_code 13 = .ok (.aload_n 1, 1) := by decide +kernel
theorem d12_14 : decode jdk_38_method_24_code 14 = .ok (.aastore, 1) := by decide +kernel
theorem d12_15 : decode jdk_38_method_24_code 15 = .ok (.aload_n 0, 1) := by decide +kernel
theorem d12_16 : decode jdk_38_method_24_code 16 = .ok (.iload_n 3, 1) := by decide +kernel
theorem d12_17 : decode jdk_38_method_24_code 17 = .ok (.iconst 1, 1) := by decide +kernel
theorem d12_18 : decode jdk_38_method_24_code 18 = .ok (.iadd, 1) := by decide +kernel
theorem d12_19 : decode jdk_38_method_24_code 19 = .ok (.putfield 48, 3) := by decide +kernel
theorem d12_22 : decode jdk_38_method_24_code 22 = .ok (.return_, 1) := by decide +kernel
set_option maxRecDepth 65536 in
set_option maxHeartbeats 40000000 in
theorem rm12g (l : Launch) (Z : State) (a0 : Array Value) (hw : ∀ d ∈ tables_1, d.before a0 Z = true) (ws : List Jvm.Cond) (r0 r1 de : Addr) (mc : Int32) (kd : ClassId) (h0 : Heap) (n0 : Nat) (Z0 : n0 ≤ h0.size) (Et : Exa Z h0 r0 "java/util/ArrayList") (Fm : Fld Z h0 r0 "java/util/AbstractList" "modCount" "I" (.int mc)) (Fz : Fld Z h0 r0 "java/util/ArrayList" "size" "I" (.int (0 : Int32))) (Fd : Fld Z h0 r0 "java/util/ArrayList" "elementData" "[Ljava/lang/Object;" (.ref de)) (g_r0 : n0 ≤ r0) (O0 : Old Z n0 h0) (Sd : Sta Z Z.heap "java/util/ArrayList" "DEFAULTCAPACITY_EMPTY_ELEMENTDATA" "[Ljava/lang/Object;" (.ref de)) (Vd : Arv Z Z.heap de kd (.object "java/lang/Object") (0 : Int32) [] .null) (E1 : Exa Z h0 r1 "java/lang/String") :
    MetFree l (⟨"java/util/ArrayList", "add", "(Ljava/lang/Object;[Ljava/lang/Object;I)V"⟩ : MethodName) (head1 (Jvm.Cond.code (⟨"java/util/ArrayList", "add", "(Ljava/lang/Object;[Ljava/lang/Object;I)V"⟩ : MethodName) jdk_38_method_24_code 4 none :: ws) ({ frames := 3, cells := 1, slots := 10, locals := 41 } : Room)) (fun aX UX => aX = #[(.ref r0), (.ref r1), (.ref de), (.int (0 : Int32))] ∧ Z.Warmed39 UX.vm ∧ UX.heap = h0) (fun _ _ _ _ _ => True) (fun _ UX oX UX' => ∃ vX LX, oX = .returned vX ∧ Q12g Z r0 r1 h0 n0 vX UX'.heap LX ∧ FrameEnd UX oX UX' LX ({ frames := 3, cells := 1, slots := 10, locals := 41 } : Room).cells ({ frames := 3, cells := 1, slots := 10, locals := 41 } : Room).slots) := by
  refine MetFree.of_bodySF (plainFor_of_name pn_java_util_ArrayList) hisR ?_
  intro p e s m args below meth c s₁ Bd hml0 hP hK
  obtain ⟨rfl, hZ, hh⟩ := hP
  have hx := Bd.exec
  have hby := Bd.bytes
  have hml : c.maxLocals = 4 := hml0
  have hown : s.vm.findClass "java/util/ArrayList" = some m.cls := findClass_of_methodNamed Bd.named
  have hnm := (name_of_methodNamed Bd.named Bd.method).1
  have X0 : Stand p l e ({ frames := 3, cells := 1, slots := 10, locals := 41 } : Room) s m #[(.ref r0), (.ref r1), (.ref de), (.int (0 : Int32))] below meth c s₁ [] 0 0 := Stand.of_body Bd
  have e0 : s₁.heap = h0 := by rw [← hh, Bd.state]; rfl
  have N0 := Fr.nil n0
  show own_Comes p e below s ({ frames := 3, cells := 1, slots := 10, locals := 41 } : Room).cells ({ frames := 3, cells := 1, slots := 10, locals := 41 } : Room).slots (Q12g Z r0 r1 h0 n0) _
  rw [show entryFrame m #[(.ref r0), (.ref r1), (.ref de), (.int (0 : Int32))] 4 = mkF m 0 #[.val (.ref r0), .val (.ref r1), .val (.ref de), .val (.int (0 : Int32))] [] from ef_rm12g m r0 r1 de (0 : Int32)]
  show own_Comes p e below s _ _ _ (s₁.setTop (mkF m 0 #[.val (.ref r0), .val (.ref r1), .val (.ref de), .val (.int (0 : Int32))] []))
  refine own_by (fun _ kS => XS.iloadN X0.here hx rfl (hb hby d12_0) rfl kS) ?_
  show own_Comes p e below s _ _ _ (s₁.setTop (mkF m 1 #[.val (.ref r0), .val (.ref r1), .val (.ref de), .val (.int (0 : Int32))] [(.int (0 : Int32))]))
  refine own_by (fun _ kS => XS.aloadN X0.here hx rfl (hb hby d12_1) rfl rfl kS) ?_
  show own_Comes p e below s _ _ _ (s₁.setTop (mkF m 2 #[.val (.ref r0), .val (.ref r1), .val (.ref de), .val (.int (0 : Int32))] [(.ref de), (.int (0 : Int32))]))
  have Vo24 := (Vd.ext O0.2)
  obtain ⟨cl24, Ar24, qA24, SA24, NA24, HA24, GA24⟩ := Vo24
  refine own_by (fun _ kS => X0.arraylength hx (by rw [e0]; exact Ar24.1) (State.isArrayOf_alike hZ.alike Ar24.2.1) (g := (mkF m 2 #[.val (.ref r0), .val (.ref r1), .val (.ref de), .val (.int (0 : Int32))] [(.ref de), (.int (0 : Int32))])) rfl rfl (hb hby d12_2) _ kS) ?_
  rw [len_of SA24 NA24]
  show own_Comes p e below s _ _ _ (s₁.setTop (mkF m 3 #[.val (.ref r0), .val (.ref r1), .val (.ref de), .val (.int (0 : Int32))] [(.int (0 : Int32)), (.int (0 : Int32))]))
  have hb25 : (0 : Int32) = (0 : Int32) := by decide
  refine own_by (fun _ kS => XS.icmpNo X0.here hx rfl (hb hby d12_3) rfl (teq hb25).2 kS) ?_
  show own_Comes p e below s _ _ _ (s₁.setTop (mkF m 6 #[.val (.ref r0), .val (.ref r1), .val (.ref de), .val (.int (0 : Int32))] []))
  refine own_by (fun _ kS => XS.aloadN X0.here hx rfl (hb hby d12_6) rfl rfl kS) ?_
  show own_Comes p e below s _ _ _ (s₁.setTop (mkF m 7 #[.val (.ref r0), .val (.ref r1), .val (.ref de), .val (.int (0 : Int32))] [(.ref r0)]))
  obtain ⟨cq26, q26, q26'⟩ := Et.cell
  obtain ⟨_, _, ⟨T26, L26, k26, n26⟩, -, X26, ⟨Lc26, hQ26, l26, y26, z26⟩, st26⟩ := X0.privateBack hx (y := (⟨"java/util/ArrayList", "grow", "()[Ljava/lang/Object;"⟩ : MethodName)) hown (mvT hZ (hw _ (List.mem_of_getElem? (i := 77) rfl))) (mvT hZ (hw _ (List.mem_of_getElem? (i := 78) rfl))) (mvT hZ (hw _ (List.mem_of_getElem? (i := 80) rfl))) (Cond.privateMethod_at (mvP hZ (hw _ (List.mem_of_getElem? (i := 79) rfl)) (args := #[]))) (mvT hZ (hw _ (List.mem_of_getElem? (i := 81) rfl))) (by decide) (backOf (W := 0) (rm13 l Z a0 hw [] r0 de mc kd h0 n0 Z0 Et Fm Fz Fd g_r0 O0 Sd Vd) hZ (hw _ (List.mem_of_getElem? (i := 81) rfl)) (hw _ (List.mem_of_getElem? (i := 37) rfl)) (by decide) (by decide)) (g := (mkF m 7 #[.val (.ref r0), .val (.ref r1), .val (.ref de), .val (.int (0 : Int32))] [(.ref r0)])) rfl (by rw [hml]; rfl) (Steps.refl _) (a := r0) (by rw [e0]; exact q26) q26' (argsL := []) (rest := []) (lenOf pd____Ljava_lang_Object__839 rfl) rfl (by show 2 * 0 + _ ≤ _; exact Nat.le_of_eq rfl) (hb hby d12_7) (fun _ _ => ⟨rfl, e0, (by decide : 0 + 1 ≤ _), (by decide : 0 + 10 ≤ _)⟩)
  dsimp only [Pt.U, Pt.locs, Pt.cells, Pt.slots] at X26 l26 y26 z26 st26 hQ26
  subst l26 y26 z26
  obtain ⟨a26, k26, rfl, N26q, K26, g_a26, sz_a26, ne26, Et26, Fm26, Fz26, Fd26, V26, O26⟩ := hQ26
  have N26 := Fr.app N0 N26q
  refine own_tr st26 ?_
  show own_Comes p e below s _ _ _ (T26.setTop (mkF m 10 #[.val (.ref r0), .val (.ref r1), .val (.ref de), .val (.int (0 : Int32))] [(.ref a26)]))
  refine own_by (fun _ kS => XS.astoreN X26.here hx rfl (hb hby d12_10) rfl rfl (l' := #[.val (.ref r0), .val (.ref r1), .val (.ref a26), .val (.int (0 : Int32))]) rfl kS) ?_
  show own_Comes p e below s _ _ _ (T26.setTop (mkF m 11 #[.val (.ref r0), .val (.ref r1), .val (.ref a26), .val (.int (0 : Int32))] []))
  refine own_by (fun _ kS => XS.aloadN X26.here hx rfl (hb hby d12_11) rfl rfl kS) ?_
  show own_Comes p e below s _ _ _ (T26.setTop (mkF m 12 #[.val (.ref r0), .val (.ref r1), .val (.ref a26), .val (.int (0 : Int32))] [(.ref a26)]))
  refine own_by (fun _ kS => XS.iloadN X26.here hx rfl (hb hby d12_12) rfl kS) ?_
  show own_Comes p e below s _ _ _ (T26.setTop (mkF m 13 #[.val (.ref r0), .val (.ref r1), .val (.ref a26), .val (.int (0 : Int32))] [(.int (0 : Int32)), (.ref a26)]))
  refine own_by (fun _ kS => XS.aloadN X26.here hx rfl (hb hby d12_13) rfl rfl kS) ?_
  show own_Comes p e below s _ _ _ (T26.setTop (mkF m 14 #[.val (.ref r0), .val (.ref r1), .val (.ref a26), .val (.int (0 : Int32))] [(.ref r1), (.int (0 : Int32)), (.ref a26)]))
  have Vo27 := V26
  obtain ⟨cl27, Ar27, qA27, SA27, NA27, HA27, GA27⟩ := Vo27
  have hin27 : ¬ ((0 : Int32) < 0 ∨ cl27.slots.size ≤ ((0 : Int32)).toNatClampNeg) := inb_of SA27 ⟨by decide, by decide⟩
  obtain ⟨T28, h28, X28, e28, W28, st28⟩ := stR X26 hx hZ rfl Ar27 (j := (0 : Int32)) hin27 rfl (Sto.ofV Ar27 qA27 O26 (Ins.of_exa (E1.keep K26) (hw _ (List.mem_of_getElem? (i := 93) rfl)))) (g := (mkF m 14 #[.val (.ref r0), .val (.ref r1), .val (.ref a26), .val (.int (0 : Int32))] [(.ref r1), (.int (0 : Int32)), (.ref a26)])) rfl rfl (hb hby d12_14)
  refine own_by st28 ?_
  have V28 : Arv Z h28 a26 k26 (.object "java/lang/Object") (10 : Int32) [(.ref r1), .null, .null, .null, .null, .null, .null, .null, .null, .null] .null := Arv.set Ar27 qA27 SA27 NA27 HA27 GA27 rfl W28 0 rfl (Nat.le_of_ble_eq_true rfl)
  have N28 := Fr.snoc X28 N26 g_a26
  show own_Comes p e below s _ _ _ (T28.setTop (mkF m 15 #[.val (.ref r0), .val (.ref r1), .val (.ref a26), .val (.int (0 : Int32))] []))
  refine own_by (fun _ kS => XS.aloadN X28.here hx rfl (hb hby d12_15) rfl rfl kS) ?_
  show own_Comes p e below s _ _ _ (T28.setTop (mkF m 16 #[.val (.ref r0), .val (.ref r1), .val (.ref a26), .val (.int (0 : Int32))] [(.ref r0)]))
  refine own_by (fun _ kS => XS.iloadN X28.here hx rfl (hb hby d12_16) rfl kS) ?_
  show own_Comes p e below s _ _ _ (T28.setTop (mkF m 17 #[.val (.ref r0), .val (.ref r1), .val (.ref a26), .val (.int (0 : Int32))] [(.int (0 : Int32)), (.ref r0)]))
  refine own_by (fun _ kS => XS.iconst X28.here hx rfl (hb hby d12_17) kS) ?_
  show own_Comes p e below s _ _ _ (T28.setTop (mkF m 18 #[.val (.ref r0), .val (.ref r1), .val (.ref a26), .val (.int (0 : Int32))] [(.int (1 : Int32)), (.int (0 : Int32)), (.ref r0)]))
  refine own_by (fun _ kS => XS.iadd X28.here hx rfl (hb hby d12_18) rfl kS) ?_
  show own_Comes p e below s _ _ _ (T28.setTop (mkF m 19 #[.val (.ref r0), .val (.ref r1), .val (.ref a26), .val (.int (0 : Int32))] [(.int ((0 : Int32) + (1 : Int32))), (.ref r0)]))
  obtain ⟨T29, h29, X29, e29, W29, st29⟩ := putF X28 hx hZ hown (host := "") (Or.inl (hw _ (List.mem_of_getElem? (i := 70) rfl))) Via.refl e28 (Fz26.other W28 (Or.inl ne26)) (Et26.wr W28) (Or.inl (hw _ (List.mem_of_getElem? (i := 71) rfl))) (hw _ (List.mem_of_getElem? (i := 36) rfl)) (ty := .int) (by decide) rfl rfl (g := (mkF m 19 #[.val (.ref r0), .val (.ref r1), .val (.ref a26), .val (.int (0 : Int32))] [(.int ((0 : Int32) + (1 : Int32))), (.ref r0)])) rfl rfl (hb hby d12_19)
  refine own_by st29 ?_
  have Fw29 := (Fz26.other W28 (Or.inl ne26)).same W29
  have N29 := Fr.snoc X29 N28 g_r0
  show own_Comes p e below s _ _ _ (T29.setTop (mkF m 22 #[.val (.ref r0), .val (.ref r1), .val (.ref a26), .val (.int (0 : Int32))] []))
  have c30 := ((Fm26.other W28 (Or.inl ne26)).other W29 (Or.inr (slot_ne (Or.inl (hw _ (List.mem_of_getElem? (i := 55) rfl))) (Or.inl (hw _ (List.mem_of_getElem? (i := 71) rfl))) (by decide) (t := .int) (t' := .int) (by decide) (by decide))))
  have c31 := ((Fd26.other W28 (Or.inl ne26)).other W29 (Or.inr (slot_ne (Or.inl (hw _ (List.mem_of_getElem? (i := 58) rfl))) (Or.inl (hw _ (List.mem_of_getElem? (i := 71) rfl))) (by decide) (t := (.array (.object "java/lang/Object"))) (t' := .int) (by decide) (by decide))))
  refine own_ret X29 (v := none) (fun _ => rfl) Bd.notSynchronized (by decide) (by decide) ?_ (fun fs hr => X29.returnOut hx Bd.returns (hb hby d12_22) hr)
  rw [e29]; exact ⟨rfl, N29, ((((Keep.refl _ _).trans K26 (allS (Or.inl (List.mem_of_getElem? (i := 0) rfl)) all0)).wr W28 (Or.inr sz_a26)).wr W29 (Or.inl (List.mem_of_getElem? (i := 0) rfl))), _, _, g_a26, ((Et26.wr W28).wr W29), ⟨_, c30⟩, c31, Fw29, (V28.other W29 (Ne.symm ne26)), O26, ne26⟩
def Q12r (Z : State) (r0 r1 aa : Addr) (k : ClassId) (n : Int32) (vs : List Value) (h0 : Heap) (n0 : Nat) (v : Option Value) (h : Heap) (L : List Loc) : Prop := v = none ∧ Fr n0 L ∧ Keep h0 h [r0, aa] ∧ own_L Z h r0 aa k (n + (1 : Int32)) (vs.set n.toNatClampNeg (.ref r1))
theorem ef_rm12r (m : MethodId) (x0 : Addr) (x1 : Addr) (x2 : Addr) (x3 : Int32) : entryFrame m #[(.ref x0), (.ref x1), (.ref x2), (.int x3)] 4 = mkF m 0 #[.val (.ref x0), .val (.ref x1), .val (.ref x2), .val (.int x3)] [] := by first | (simp [entryFrame, mkF, argsToLocals, Value.category]; done) | rfl
set_option maxRecDepth 65536 in
set_option maxHeartbeats 40000000 in
theorem rm12r (l : Launch) (Z : State) (a0 : Array Value) (hw : ∀ d ∈ tables_1, d.before a0 Z = true) (ws : List Jvm.Cond) (r0 r1 aa : Addr) (k : ClassId) (n : Int32) (vs : List Value) (h0 : Heap) (n0 : Nat) (Z0 : n0 ≤ h0.size) (hL : own_L Z h0 r0 aa k n vs) (g_r0 : n0 ≤ r0) (g_aa : n0 ≤ aa) (E1 : Exa Z h0 r1 "java/lang/String") (hn : ¬ n < 0 ∧ n < (10 : Int32)) (hne : ¬ n = (10 : Int32)) (hvs : n.toNatClampNeg < vs.length) :
    MetFree l (⟨"java/util/ArrayList", "add", "(Ljava/lang/Object;[Ljava/lang/Object;I)V"⟩ : MethodName) (head1 (Jvm.Cond.code (⟨"java/util/ArrayList", "add", "(Ljava/lang/Object;[Ljava/lang/Object;I)V"⟩ : MethodName) jdk_38_method_24_code 4 none :: ws) ({ frames := 0, cells := 0, slots := 0, locals := 0 } : Room)) (fun aX UX => aX = #[(.ref r0), (.ref r1), (.ref aa), (.int n)] ∧ Z.Warmed39 UX.vm ∧ UX.heap = h0) (fun _ _ _ _ _ => True) (fun _ UX oX UX' => ∃ vX LX, oX = .returned vX ∧ Q12r Z r0 r1 aa k n vs h0 n0 vX UX'.heap LX ∧ FrameEnd UX oX UX' LX ({ frames := 0, cells := 0, slots := 0, locals := 0 } : Room).cells ({ frames := 0, cells := 0, slots := 0, locals := 0 } : Room).slots) := by
  refine MetFree.of_bodySF (plainFor_of_name pn_java_util_ArrayList) hisR ?_
  intro p e s m args below meth c s₁ Bd hml0 hP hK
  obtain ⟨rfl, hZ, hh⟩ := hP
  have hx := Bd.exec
  have hby := Bd.bytes
  have hml : c.maxLocals = 4 := hml0
  have hown : s.vm.findClass "java/util/ArrayList" = some m.cls := findClass_of_methodNamed Bd.named
  have hnm := (name_of_methodNamed Bd.named Bd.method).1
  have X0 : Stand p l e ({ frames := 0, cells := 0, slots := 0, locals := 0 } : Room) s m #[(.ref r0), (.ref r1), (.ref aa), (.int n)] below meth c s₁ [] 0 0 := Stand.of_body Bd
  have e0 : s₁.heap = h0 := by rw [← hh, Bd.state]; rfl
  have N0 := Fr.nil n0
  show own_Comes p e below s ({ frames := 0, cells := 0, slots := 0, locals := 0 } : Room).cells ({ frames := 0, cells := 0, slots := 0, locals := 0 } : Room).slots (Q12r Z r0 r1 aa k n vs h0 n0) _
  rw [show entryFrame m #[(.ref r0), (.ref r1), (.ref aa), (.int n)] 4 = mkF m 0 #[.val (.ref r0), .val (.ref r1), .val (.ref aa), .val (.int n)] [] from ef_rm12r m r0 r1 aa n]
  show own_Comes p e below s _ _ _ (s₁.setTop (mkF m 0 #[.val (.ref r0), .val (.ref r1), .val (.ref aa), .val (.int n)] []))
  have hLc := hL
  obtain ⟨Et, ⟨mc, Fm⟩, Fd, Fz, Va, Oa, nA⟩ := hLc
  refine own_by (fun _ kS => XS.iloadN X0.here hx rfl (hb hby d12_0) rfl kS) ?_
  show own_Comes p e below s _ _ _ (s₁.setTop (mkF m 1 #[.val (.ref r0), .val (.ref r1), .val (.ref aa), .val (.int n)] [(.int n)]))
  refine own_by (fun _ kS => XS.aloadN X0.here hx rfl (hb hby d12_1) rfl rfl kS) ?_
  show own_Comes p e below s _ _ _ (s₁.setTop (mkF m 2 #[.val (.ref r0), .val (.ref r1), .val (.ref aa), .val (.int n)] [(.ref aa), (.int n)]))
  have Vo32 := Va
  obtain ⟨cl32, Ar32, qA32, SA32, NA32, HA32, GA32⟩ := Vo32
  refine own_by (fun _ kS => X0.arraylength hx (by rw [e0]; exact Ar32.1) (State.isArrayOf_alike hZ.alike Ar32.2.1) (g := (mkF m 2 #[.val (.ref r0), .val (.ref r1), .val (.ref aa), .val (.int n)] [(.ref aa), (.int n)])) rfl rfl (hb hby d12_2) _ kS) ?_
  rw [len_of SA32 NA32]
  show own_Comes p e below s _ _ _ (s₁.setTop (mkF m 3 #[.val (.ref r0), .val (.ref r1), .val (.ref aa), .val (.int n)] [(.int (10 : Int32)), (.int n)]))
  refine own_by (fun _ kS => XS.icmpYes X0.here hx rfl (pc0 := 3) (pc' := 11) rfl (hb hby d12_3) rfl (feq hne).2 (by decide) (by decide) kS) ?_
  show own_Comes p e below s _ _ _ (s₁.setTop (mkF m 11 #[.val (.ref r0), .val (.ref r1), .val (.ref aa), .val (.int n)] []))
  refine own_by (fun _ kS => XS.aloadN X0.here hx rfl (hb hby d12_11) rfl rfl kS) ?_
  show own_Comes p e below s _ _ _ (s₁.setTop (mkF m 12 #[.val (.ref r0), .val (.ref r1), .val (.ref aa), .val (.int n)] [(.ref aa)]))
  refine own_by (fun _ kS => XS.iloadN X0.here hx rfl (hb hby d12_12) rfl kS) ?_
  show own_Comes p e below s _ _ _ (s₁.setTop (mkF m 13 #[.val (.ref r0), .val (.ref r1), .val (.ref aa), .val (.int n)] [(.int n), (.ref aa)]))
  refine own_by (fun _ kS => XS.aloadN X0.here hx rfl (hb hby d12_13) rfl rfl kS) ?_
  show own_Comes p e below s _ _ _ (s₁.setTop (mkF m 14 #[.val (.ref r0), .val (.ref r1), .val (.ref aa), .val (.int n)] [(.ref r1), (.int n), (.ref aa)]))
  have Vo33 := Va
  obtain ⟨cl33, Ar33, qA33, SA33, NA33, HA33, GA33⟩ := Vo33
  have hin33 : ¬ (n < 0 ∨ cl33.slots.size ≤ (n).toNatClampNeg) := inb_of SA33 hn
  obtain ⟨T34, h34, X34, e34, W34, st34⟩ := stR X0 hx hZ e0 Ar33 (j := n) hin33 rfl (Sto.ofV Ar33 qA33 Oa (Ins.of_exa E1 (hw _ (List.mem_of_getElem? (i := 93) rfl)))) (g := (mkF m 14 #[.val (.ref r0), .val (.ref r1), .val (.ref aa), .val (.int n)] [(.ref r1), (.int n), (.ref aa)])) rfl rfl (hb hby d12_14)
  refine own_by st34 ?_
  have V34 : Arv Z h34 aa k (.object "java/lang/Object") (10 : Int32) (vs.set n.toNatClampNeg (.ref r1)) .null := Arv.set Ar33 qA33 SA33 NA33 HA33 GA33 rfl W34 n.toNatClampNeg rfl hvs
  have N34 := Fr.snoc X34 N0 g_aa
  show own_Comes p e below s _ _ _ (T34.setTop (mkF m 15 #[.val (.ref r0), .val (.ref r1), .val (.ref aa), .val (.int n)] []))
  refine own_by (fun _ kS => XS.aloadN X34.here hx rfl (hb hby d12_15) rfl rfl kS) ?_
  show own_Comes p e below s _ _ _ (T34.setTop (mkF m 16 #[.val (.ref r0), .val (.ref r1), .val (.ref aa), .val (.int n)] [(.ref r0)]))
  refine own_by (fun _ kS => XS.iloadN X34.here hx rfl (hb hby d12_16) rfl kS) ?_
  show own_Comes p e below s _ _ _ (T34.setTop (mkF m 17 #[.val (.ref r0), .val (.ref r1), .val (.ref aa), .val (.int n)] [(.int n), (.ref r0)]))
  refine own_by (fun _ kS => XS.iconst X34.here hx rfl (hb hby d12_17) kS) ?_
  show own_Comes p e below s _ _ _ (T34.setTop (mkF m 18 #[.val (.ref r0), .val (.ref r1), .val (.ref aa), .val (.int n)] [(.int (1 : Int32)), (.int n), (.ref r0)]))
  refine own_by (fun _ kS => XS.iadd X34.here hx rfl (hb hby d12_18) rfl kS) ?_
  show own_Comes p e below s _ _ _ (T34.setTop (mkF m 19 #[.val (.ref r0), .val (.ref r1), .val (.ref aa), .val (.int n)] [(.int (n + (1 : Int32))), (.ref r0)]))
  obtain ⟨T35, h35, X35, e35, W35, st35⟩ := putF X34 hx hZ hown (host := "") (Or.inl (hw _ (List.mem_of_getElem? (i := 70) rfl))) Via.refl e34 (Fz.other W34 (Or.inl nA)) (Et.wr W34) (Or.inl (hw _ (List.mem_of_getElem? (i := 71) rfl))) (hw _ (List.mem_of_getElem? (i := 36) rfl)) (ty := .int) (by decide) rfl rfl (g := (mkF m 19 #[.val (.ref r0), .val (.ref r1), .val (.ref aa), .val (.int n)] [(.int (n + (1 : Int32))), (.ref r0)])) rfl rfl (hb hby d12_19)
  refine own_by st35 ?_
  have Fw35 := (Fz.other W34 (Or.inl nA)).same W35
  have N35 := Fr.snoc X35 N34 g_r0
  show own_Comes p e below s _ _ _ (T35.setTop (mkF m 22 #[.val (.ref r0), .val (.ref r1), .val (.ref aa), .val (.int n)] []))
  have c36 := ((Fm.other W34 (Or.inl nA)).other W35 (Or.inr (slot_ne (Or.inl (hw _ (List.mem_of_getElem? (i := 55) rfl))) (Or.inl (hw _ (List.mem_of_getElem? (i := 71) rfl))) (by decide) (t := .int) (t' := .int) (by decide) (by decide))))
  have c37 := ((Fd.other W34 (Or.inl nA)).other W35 (Or.inr (slot_ne (Or.inl (hw _ (List.mem_of_getElem? (i := 58) rfl))) (Or.inl (hw _ (List.mem_of_getElem? (i := 71) rfl))) (by decide) (t := (.array (.object "java/lang/Object"))) (t' := .int) (by decide) (by decide))))
  refine own_ret X35 (v := none) (fun _ => rfl) Bd.notSynchronized (by decide) (by decide) ?_ (fun fs hr => X35.returnOut hx Bd.returns (hb hby d12_22) hr)
  rw [e35]; exact ⟨rfl, N35, (((Keep.refl _ _).wr W34 (Or.inl (List.mem_of_getElem? (i := 1) rfl))).wr W35 (Or.inl (List.mem_of_getElem? (i := 0) rfl))), ((Et.wr W34).wr W35), ⟨_, c36⟩, c37, Fw35, (V34.other W35 (Ne.symm nA)), Oa, nA⟩
def Q11g (Z : State) (r0 r1 : Addr) (h0 : Heap) (n0 : Nat) (v : Option Value) (h : Heap) (L : List Loc) : Prop := v = some (.int (1 : Int32)) ∧ Fr n0 L ∧ Keep h0 h [r0] ∧ ∃ (a : Addr) (k : ClassId), n0 ≤ a ∧ own_L Z h r0 a k (1 : Int32) [(.ref r1), .null, .null, .null, .null, .null, .null, .null, .null, .null]
theorem ef_rm11g (m : MethodId) (x0 : Addr) (x1 : Addr) : entryFrame m #[(.ref x0), (.ref x1)] 2 = mkF m 0 #[.val (.ref x0), .val (.ref x1)] [] := by first | (simp [entryFrame, mkF, argsToLocals, Value.category]; done) | rfl
theorem d11_0 : decode jdk_38_method_25_code 0 = .ok (.aload_n 0, 1) := by decide +kernel
theorem d11_1 : decode jdk_38_method_25_code 1 = .ok (.dup, 1) := by decide +kernel
theorem d11_2 : decode jdk_38_method_25_code 2 = .ok (.getfield 63, 3) := by decide +kernel
theorem d11_5 : decode jdk_38_method_25_code 5 = .ok (.iconst 1, 1) := by decide +kernel
theorem d11_6 : decode jdk_38_method_25_code 6 = .ok (.iadd, 1) := by decide +kernel
theorem d11_7 : decode jdk_38_method_25_code 7 = .ok (.putfield 63, 3) := by decide +kernel
theorem d11_10 : decode jdk_38_method_25_code 10 = .ok (.aload_n 0, 1) := by decide +kernel
theorem d11_11 : decode jdk_38_method_25_code 11 = .ok (.aload_n 1, 1) := by decide +kernel
theorem d11_12 : decode jdk_38_method_25_code 12 = .ok (.aload_n 0, 1) := by decide +kernel
theorem d11_13 : decode jdk_38_method_25_code 13 = .ok (.getfield 9, 3) := by decide +kernel
theorem d11_16 : decode jdk_38_method_25_code 16 = .ok (.aload_n 0, 1) := by decide +kernel
theorem d11_17 : decode jdk_38_method_25_code 17 = .ok (.getfield 48, 3) := by decide +kernel
theorem pd__Ljava_lang_Object__Ljava_lang_Object_I_V_668 : parseMethodDescriptor "(Ljava/lang/Object;[Ljava/lang/Object;I)V" = some ⟨[(.object "java/lang/Object"), (.array (.object "java/lang/Object")), .int], none⟩ := by decide +kernel
theorem d11_20 : decode jdk_38_method_25_code 20 = .ok (.invokevirtual 131, 3) := by decide +kernel
theorem d11_23 : decode jdk_38_method_25_code 23 = .ok (.iconst 1, 1) := by decide +kernel
theorem d11_24 : decode jdk_38_method_25_code 24 = .ok (.ireturn, 1) := by decide +kernel
set_option maxRecDepth 65536 in
set_option maxHeartbeats 40000000 in
theorem rm11g (l : Launch) (Z : State) (a0 : Array Value) (hw : ∀ d ∈ tables_1, d.before a0 Z = true) (ws : List Jvm.Cond) (r0 r1 de : Addr) (mc : Int32) (kd : ClassId) (h0 : Heap) (n0 : Nat) (Z0 : n0 ≤ h0.size) (Et : Exa Z h0 r0 "java/util/ArrayList") (Fm : Fld Z h0 r0 "java/util/AbstractList" "modCount" "I" (.int mc)) (Fz : Fld Z h0 r0 "java/util/ArrayList" "size" "I" (.int (0 : Int32))) (Fd : Fld Z h0 r0 "java/util/ArrayList" "elementData" "[Ljava/lang/Object;" (.ref de)) (g_r0 : n0 ≤ r0) (O0 : Old Z n0 h0) (Sd : Sta Z Z.heap "java/util/ArrayList" "DEFAULTCAPACITY_EMPTY_ELEMENTDATA" "[Ljava/lang/Object;" (.ref de)) (Vd : Arv Z Z.heap de kd (.object "java/lang/Object") (0 : Int32) [] .null) (E1 : Exa Z h0 r1 "java/lang/String") :
    MetFree l (⟨"java/util/ArrayList", "add", "(Ljava/lang/Object;)Z"⟩ : MethodName) (head1 (Jvm.Cond.code (⟨"java/util/ArrayList", "add", "(Ljava/lang/Object;)Z"⟩ : MethodName) jdk_38_method_25_code 2 (some .boolean) :: ws) ({ frames := 4, cells := 1, slots := 10, locals := 56 } : Room)) (fun aX UX => aX = #[(.ref r0), (.ref r1)] ∧ Z.Warmed39 UX.vm ∧ UX.heap = h0) (fun _ _ _ _ _ => True) (fun _ UX oX UX' => ∃ vX LX, oX = .returned vX ∧ Q11g Z r0 r1 h0 n0 vX UX'.heap LX ∧ FrameEnd UX oX UX' LX ({ frames := 4, cells := 1, slots := 10, locals := 56 } : Room).cells ({ frames := 4, cells := 1, slots := 10, locals := 56 } : Room).slots) := by
  refine MetFree.of_bodySF (plainFor_of_name pn_java_util_ArrayList) hisR ?_
  intro p e s m args below meth c s₁ Bd hml0 hP hK
  obtain ⟨rfl, hZ, hh⟩ := hP
  have hx := Bd.exec
  have hby := Bd.bytes
  have hml : c.maxLocals = 2 := hml0
  have hown : s.vm.findClass "java/util/ArrayList" = some m.cls := findClass_of_methodNamed Bd.named
  have hnm := (name_of_methodNamed Bd.named Bd.method).1
  have X0 : Stand p l e ({ frames := 4, cells := 1, slots := 10, locals := 56 } : Room) s m #[(.ref r0), (.ref r1)] below meth c s₁ [] 0 0 := Stand.of_body Bd
  have e0 : s₁.heap = h0 := by rw [← hh, Bd.state]; rfl
  have N0 := Fr.nil n0
  show own_Comes p e below s ({ frames := 4, cells := 1, slots := 10, locals := 56 } : Room).cells ({ frames := 4, cells := 1, slots := 10, locals := 56 } : Room).slots (Q11g Z r0 r1 h0 n0) _
  rw [show entryFrame m #[(.ref r0), (.ref r1)] 2 = mkF m 0 #[.val (.ref r0), .val (.ref r1)] [] from ef_rm11g m r0 r1]
  show own_Comes p e below s _ _ _ (s₁.setTop (mkF m 0 #[.val (.ref r0), .val (.ref r1)] []))
  refine own_by (fun _ kS => XS.aloadN X0.here hx rfl (hb hby d11_0) rfl rfl kS) ?_
  show own_Comes p e below s _ _ _ (s₁.setTop (mkF m 1 #[.val (.ref r0), .val (.ref r1)] [(.ref r0)]))
  refine own_by (fun _ kS => XS.dup X0.here hx rfl (hb hby d11_1) rfl rfl kS) ?_
  show own_Comes p e below s _ _ _ (s₁.setTop (mkF m 2 #[.val (.ref r0), .val (.ref r1)] [(.ref r0), (.ref r0)]))
  obtain ⟨T38, X38, e38, st38⟩ := getF X0 hx hZ hown (host := "") (Or.inl (hw _ (List.mem_of_getElem? (i := 68) rfl))) (Via.of (hw _ (List.mem_of_getElem? (i := 69) rfl))) e0 Fm (g := (mkF m 2 #[.val (.ref r0), .val (.ref r1)] [(.ref r0), (.ref r0)])) rfl rfl (hb hby d11_2)
  refine own_by st38 ?_
  show own_Comes p e below s _ _ _ (T38.setTop (mkF m 5 #[.val (.ref r0), .val (.ref r1)] [(.int mc), (.ref r0)]))
  refine own_by (fun _ kS => XS.iconst X38.here hx rfl (hb hby d11_5) kS) ?_
  show own_Comes p e below s _ _ _ (T38.setTop (mkF m 6 #[.val (.ref r0), .val (.ref r1)] [(.int (1 : Int32)), (.int mc), (.ref r0)]))
  refine own_by (fun _ kS => XS.iadd X38.here hx rfl (hb hby d11_6) rfl kS) ?_
  show own_Comes p e below s _ _ _ (T38.setTop (mkF m 7 #[.val (.ref r0), .val (.ref r1)] [(.int (mc + (1 : Int32))), (.ref r0)]))
  obtain ⟨T39, h39, X39, e39, W39, st39⟩ := putF X38 hx hZ hown (host := "") (Or.inl (hw _ (List.mem_of_getElem? (i := 68) rfl))) (Via.of (hw _ (List.mem_of_getElem? (i := 69) rfl))) e38 Fm Et (Or.inl (hw _ (List.mem_of_getElem? (i := 55) rfl))) (hw _ (List.mem_of_getElem? (i := 36) rfl)) (ty := .int) (by decide) rfl rfl (g := (mkF m 7 #[.val (.ref r0), .val (.ref r1)] [(.int (mc + (1 : Int32))), (.ref r0)])) rfl rfl (hb hby d11_7)
  refine own_by st39 ?_
  have Fw39 := Fm.same W39
  have N39 := Fr.snoc X39 N0 g_r0
  show own_Comes p e below s _ _ _ (T39.setTop (mkF m 10 #[.val (.ref r0), .val (.ref r1)] []))
  refine own_by (fun _ kS => XS.aloadN X39.here hx rfl (hb hby d11_10) rfl rfl kS) ?_
  show own_Comes p e below s _ _ _ (T39.setTop (mkF m 11 #[.val (.ref r0), .val (.ref r1)] [(.ref r0)]))
  refine own_by (fun _ kS => XS.aloadN X39.here hx rfl (hb hby d11_11) rfl rfl kS) ?_
  show own_Comes p e below s _ _ _ (T39.setTop (mkF m 12 #[.val (.ref r0), .val (.ref r1)] [(.ref r1), (.ref r0)]))
  refine own_by (fun _ kS => XS.aloadN X39.here hx rfl (hb hby d11_12) rfl rfl kS) ?_
  show own_Comes p e below s _ _ _ (T39.setTop (mkF m 13 #[.val (.ref r0), .val (.ref r1)] [(.ref r0), (.ref r1), (.ref r0)]))
  have c40 := (Fd.other W39 (Or.inr (slot_ne (Or.inl (hw _ (List.mem_of_getElem? (i := 58) rfl))) (Or.inl (hw _ (List.mem_of_getElem? (i := 55) rfl))) (by decide) (t := (.array (.object "java/lang/Object"))) (t' := .int) (by decide) (by decide))))
  obtain ⟨T41, X41, e41, st41⟩ := getF X39 hx hZ hown (host := "") (Or.inl (hw _ (List.mem_of_getElem? (i := 57) rfl))) Via.refl e39 c40 (g := (mkF m 13 #[.val (.ref r0), .val (.ref r1)] [(.ref r0), (.ref r1), (.ref r0)])) rfl rfl (hb hby d11_13)
  refine own_by st41 ?_
  show own_Comes p e below s _ _ _ (T41.setTop (mkF m 16 #[.val (.ref r0), .val (.ref r1)] [(.ref de), (.ref r1), (.ref r0)]))
  refine own_by (fun _ kS => XS.aloadN X41.here hx rfl (hb hby d11_16) rfl rfl kS) ?_
  show own_Comes p e below s _ _ _ (T41.setTop (mkF m 17 #[.val (.ref r0), .val (.ref r1)] [(.ref r0), (.ref de), (.ref r1), (.ref r0)]))
  have c42 := (Fz.other W39 (Or.inr (slot_ne (Or.inl (hw _ (List.mem_of_getElem? (i := 71) rfl))) (Or.inl (hw _ (List.mem_of_getElem? (i := 55) rfl))) (by decide) (t := .int) (t' := .int) (by decide) (by decide))))
  obtain ⟨T43, X43, e43, st43⟩ := getF X41 hx hZ hown (host := "") (Or.inl (hw _ (List.mem_of_getElem? (i := 70) rfl))) Via.refl e41 c42 (g := (mkF m 17 #[.val (.ref r0), .val (.ref r1)] [(.ref r0), (.ref de), (.ref r1), (.ref r0)])) rfl rfl (hb hby d11_17)
  refine own_by st43 ?_
  show own_Comes p e below s _ _ _ (T43.setTop (mkF m 20 #[.val (.ref r0), .val (.ref r1)] [(.int (0 : Int32)), (.ref de), (.ref r1), (.ref r0)]))
  obtain ⟨cq44, q44, q44'⟩ := (Et.wr W39).cell
  obtain ⟨_, _, ⟨T44, L44, k44, n44⟩, -, X44, ⟨Lc44, hQ44, l44, y44, z44⟩, st44⟩ := X43.privateBack hx (y := (⟨"java/util/ArrayList", "add", "(Ljava/lang/Object;[Ljava/lang/Object;I)V"⟩ : MethodName)) hown (mvT hZ (hw _ (List.mem_of_getElem? (i := 72) rfl))) (mvT hZ (hw _ (List.mem_of_getElem? (i := 73) rfl))) (mvT hZ (hw _ (List.mem_of_getElem? (i := 75) rfl))) (Cond.privateMethod_at (mvP hZ (hw _ (List.mem_of_getElem? (i := 74) rfl)) (args := #[]))) (mvT hZ (hw _ (List.mem_of_getElem? (i := 76) rfl))) (by decide) (backOf (W := 0) (rm12g l Z a0 hw [] r0 r1 de (mc + (1 : Int32)) kd h39 n0 (Nat.le_trans Z0 (Keep.of_wr W39).1) (Et.wr W39) Fw39 c42 c40 g_r0 (O0.wr W39 g_r0) Sd Vd (E1.wr W39)) hZ (hw _ (List.mem_of_getElem? (i := 76) rfl)) (hw _ (List.mem_of_getElem? (i := 37) rfl)) (by decide) (by decide)) (g := (mkF m 20 #[.val (.ref r0), .val (.ref r1)] [(.int (0 : Int32)), (.ref de), (.ref r1), (.ref r0)])) rfl (by rw [hml]; rfl) (Steps.refl _) (a := r0) (by rw [e43]; exact q44) q44' (argsL := [(.ref r1), (.ref de), (.int (0 : Int32))]) (rest := []) (lenOf pd__Ljava_lang_Object__Ljava_lang_Object_I_V_668 rfl) rfl (by show 2 * 0 + _ ≤ _; exact Nat.le_of_eq rfl) (hb hby d11_20) (fun _ _ => ⟨rfl, e43, (by decide : 0 + 1 ≤ _), (by decide : 0 + 10 ≤ _)⟩)
  dsimp only [Pt.U, Pt.locs, Pt.cells, Pt.slots] at X44 l44 y44 z44 st44 hQ44
  subst l44 y44 z44
  obtain ⟨rfl, N44q, K44, q44⟩ := hQ44
  have N44 := Fr.app N39 N44q
  refine own_tr st44 ?_
  show own_Comes p e below s _ _ _ (T44.setTop (mkF m 23 #[.val (.ref r0), .val (.ref r1)] []))
  refine own_by (fun _ kS => XS.iconst X44.here hx rfl (hb hby d11_23) kS) ?_
  show own_Comes p e below s _ _ _ (T44.setTop (mkF m 24 #[.val (.ref r0), .val (.ref r1)] [(.int (1 : Int32))]))
  refine own_ret X44 (v := some (.int (1 : Int32))) (fun h => by rw [Bd.returns] at h; cases h) Bd.notSynchronized (by decide) (by decide) ?_ (fun fs hr => retN X44 hx (t := .boolean) Bd.returns (by simp) (hb hby d11_24) hr)
  exact ⟨rfl, N44, (((Keep.refl _ _).wr W39 (Or.inl (List.mem_of_getElem? (i := 0) rfl))).trans K44 (allS (Or.inl (List.mem_of_getElem? (i := 0) rfl)) all0)), q44⟩
def Q11r (Z : State) (r0 r1 aa : Addr) (k : ClassId) (n : Int32) (vs : List Value) (h0 : Heap) (n0 : Nat) (v : Option Value) (h : Heap) (L : List Loc) : Prop := v = some (.int (1 : Int32)) ∧ Fr n0 L ∧ Keep h0 h [r0, aa] ∧ own_L Z h r0 aa k (n + (1 : Int32)) (vs.set n.toNatClampNeg (.ref r1))
theorem ef_rm11r (m : MethodId) (x0 : Addr) (x1 : Addr) : entryFrame m #[(.ref x0), (.ref x1)] 2 = mkF m 0 #[.val (.ref x0), .val (.ref x1)] [] := by first | (simp [entryFrame, mkF, argsToLocals, Value.category]; done) | rfl
set_option maxRecDepth 65536 in
set_option maxHeartbeats 40000000 in
theorem rm11r (l : Launch) (Z : State) (a0 : Array Value) (hw : ∀ d ∈ tables_1, d.before a0 Z = true) (ws : List Jvm.Cond) (r0 r1 aa : Addr) (k : ClassId) (n : Int32) (vs : List Value) (h0 : Heap) (n0 : Nat) (Z0 : n0 ≤ h0.size) (hL : own_L Z h0 r0 aa k n vs) (g_r0 : n0 ≤ r0) (g_aa : n0 ≤ aa) (E1 : Exa Z h0 r1 "java/lang/String") (hn : ¬ n < 0 ∧ n < (10 : Int32)) (hne : ¬ n = (10 : Int32)) (hvs : n.toNatClampNeg < vs.length) :
    MetFree l (⟨"java/util/ArrayList", "add", "(Ljava/lang/Object;)Z"⟩ : MethodName) (head1 (Jvm.Cond.code (⟨"java/util/ArrayList", "add", "(Ljava/lang/Object;)Z"⟩ : MethodName) jdk_38_method_25_code 2 (some .boolean) :: ws) ({ frames := 1, cells := 0, slots := 0, locals := 15 } : Room)) (fun aX UX => aX = #[(.ref r0), (.ref r1)] ∧ Z.Warmed39 UX.vm ∧ UX.heap = h0) (fun _ _ _ _ _ => True) (fun _ UX oX UX' => ∃ vX LX, oX = .returned vX ∧ Q11r Z r0 r1 aa k n vs h0 n0 vX UX'.heap LX ∧ FrameEnd UX oX UX' LX ({ frames := 1, cells := 0, slots := 0, locals := 15 } : Room).cells ({ frames := 1, cells := 0, slots := 0, locals := 15 } : Room).slots) := by
  refine MetFree.of_bodySF (plainFor_of_name pn_java_util_ArrayList) hisR ?_
  intro p e s m args below meth c s₁ Bd hml0 hP hK
  obtain ⟨rfl, hZ, hh⟩ := hP
  have hx := Bd.exec
  have hby := Bd.bytes
  have hml : c.maxLocals = 2 := hml0
  have hown : s.vm.findClass "java/util/ArrayList" = some m.cls := findClass_of_methodNamed Bd.named
  have hnm := (name_of_methodNamed Bd.named Bd.method).1
  have X0 : Stand p l e ({ frames := 1, cells := 0, slots := 0, locals := 15 } : Room) s m #[(.ref r0), (.ref r1)] below meth c s₁ [] 0 0 := Stand.of_body Bd
  have e0 : s₁.heap = h0 := by rw [← hh, Bd.state]; rfl
  have N0 := Fr.nil n0
  show own_Comes p e below s ({ frames := 1, cells := 0, slots := 0, locals := 15 } : Room).cells ({ frames := 1, cells := 0, slots := 0, locals := 15 } : Room).slots (Q11r Z r0 r1 aa k n vs h0 n0) _
  rw [show entryFrame m #[(.ref r0), (.ref r1)] 2 = mkF m 0 #[.val (.ref r0), .val (.ref r1)] [] from ef_rm11r m r0 r1]
  show own_Comes p e below s _ _ _ (s₁.setTop (mkF m 0 #[.val (.ref r0), .val (.ref r1)] []))
  have hLc := hL
  obtain ⟨Et, ⟨mc, Fm⟩, Fd, Fz, Va, Oa, nA⟩ := hLc
  refine own_by (fun _ kS => XS.aloadN X0.here hx rfl (hb hby d11_0) rfl rfl kS) ?_
  show own_Comes p e below s _ _ _ (s₁.setTop (mkF m 1 #[.val (.ref r0), .val (.ref r1)] [(.ref r0)]))
  refine own_by (fun _ kS => XS.dup X0.here hx rfl (hb hby d11_1) rfl rfl kS) ?_
  show own_Comes p e below s _ _ _ (s₁.setTop (mkF m 2 #[.val (.ref r0), .val (.ref r1)] [(.ref r0), (.ref r0)]))
  obtain ⟨T45, X45, e45, st45⟩ := getF X0 hx hZ hown (host := "") (Or.inl (hw _ (List.mem_of_getElem? (i := 68) rfl))) (Via.of (hw _ (List.mem_of_getElem? (i := 69) rfl))) e0 Fm (g := (mkF m 2 #[.val (.ref r0), .val (.ref r1)] [(.ref r0), (.ref r0)])) rfl rfl (hb hby d11_2)
  refine own_by st45 ?_
  show own_Comes p e below s _ _ _ (T45.setTop (mkF m 5 #[.val (.ref r0), .val (.ref r1)] [(.int mc), (.ref r0)]))
  refine own_by (fun _ kS => XS.iconst X45.here hx rfl (hb hby d11_5) kS) ?_
  show own_Comes p e below s _ _ _ (T45.setTop (mkF m 6 #[.val (.ref r0), .val (.ref r1)] [(.int (1 : Int32)), (.int mc), (.ref r0)]))
  refine own_by (fun _ kS => XS.iadd X45.here hx rfl (hb hby d11_6) rfl kS) ?_
  show own_Comes p e below s _ _ _ (T45.setTop (mkF m 7 #[.val (.ref r0), .val (.ref r1)] [(.int (mc + (1 : Int32))), (.ref r0)]))
  obtain ⟨T46, h46, X46, e46, W46, st46⟩ := putF X45 hx hZ hown (host := "") (Or.inl (hw _ (List.mem_of_getElem? (i := 68) rfl))) (Via.of (hw _ (List.mem_of_getElem? (i := 69) rfl))) e45 Fm Et (Or.inl (hw _ (List.mem_of_getElem? (i := 55) rfl))) (hw _ (List.mem_of_getElem? (i := 36) rfl)) (ty := .int) (by decide) rfl rfl (g := (mkF m 7 #[.val (.ref r0), .val (.ref r1)] [(.int (mc + (1 : Int32))), (.ref r0)])) rfl rfl (hb hby d11_7)
  refine own_by st46 ?_
  have Fw46 := Fm.same W46
  have N46 := Fr.snoc X46 N0 g_r0
  show own_Comes p e below s _ _ _ (T46.setTop (mkF m 10 #[.val (.ref r0), .val (.ref r1)] []))
  refine own_by (fun _ kS => XS.aloadN X46.here hx rfl (hb hby d11_10) rfl rfl kS) ?_
  show own_Comes p e below s _ _ _ (T46.setTop (mkF m 11 #[.val (.ref r0), .val (.ref r1)] [(.ref r0)]))
  refine own_by (fun _ kS => XS.aloadN X46.here hx rfl (hb hby d11_11) rfl rfl kS) ?_
  show own_Comes p e below s _ _ _ (T46.setTop (mkF m 12 #[.val (.ref r0), .val (.ref r1)] [(.ref r1), (.ref r0)]))
  refine own_by (fun _ kS => XS.aloadN X46.here hx rfl (hb hby d11_12) rfl rfl kS) ?_
  show own_Comes p e below s _ _ _ (T46.setTop (mkF m 13 #[.val (.ref r0), .val (.ref r1)] [(.ref r0), (.ref r1), (.ref r0)]))
  have c47 := (Fd.other W46 (Or.inr (slot_ne (Or.inl (hw _ (List.mem_of_getElem? (i := 58) rfl))) (Or.inl (hw _ (List.mem_of_getElem? (i := 55) rfl))) (by decide) (t := (.array (.object "java/lang/Object"))) (t' := .int) (by decide) (by decide))))
  obtain ⟨T48, X48, e48, st48⟩ := getF X46 hx hZ hown (host := "") (Or.inl (hw _ (List.mem_of_getElem? (i := 57) rfl))) Via.refl e46 c47 (g := (mkF m 13 #[.val (.ref r0), .val (.ref r1)] [(.ref r0), (.ref r1), (.ref r0)])) rfl rfl (hb hby d11_13)
  refine own_by st48 ?_
  show own_Comes p e below s _ _ _ (T48.setTop (mkF m 16 #[.val (.ref r0), .val (.ref r1)] [(.ref aa), (.ref r1), (.ref r0)]))
  refine own_by (fun _ kS => XS.aloadN X48.here hx rfl (hb hby d11_16) rfl rfl kS) ?_
  show own_Comes p e below s _ _ _ (T48.setTop (mkF m 17 #[.val (.ref r0), .val (.ref r1)] [(.ref r0), (.ref aa), (.ref r1), (.ref r0)]))
  have c49 := (Fz.other W46 (Or.inr (slot_ne (Or.inl (hw _ (List.mem_of_getElem? (i := 71) rfl))) (Or.inl (hw _ (List.mem_of_getElem? (i := 55) rfl))) (by decide) (t := .int) (t' := .int) (by decide) (by decide))))
  obtain ⟨T50, X50, e50, st50⟩ := getF X48 hx hZ hown (host := "") (Or.inl (hw _ (List.mem_of_getElem? (i := 70) rfl))) Via.refl e48 c49 (g := (mkF m 17 #[.val (.ref r0), .val (.ref r1)] [(.ref r0), (.ref aa), (.ref r1), (.ref r0)])) rfl rfl (hb hby d11_17)
  refine own_by st50 ?_
  show own_Comes p e below s _ _ _ (T50.setTop (mkF m 20 #[.val (.ref r0), .val (.ref r1)] [(.int n), (.ref aa), (.ref r1), (.ref r0)]))
  have hL2 : own_L Z h46 r0 aa k n vs := ⟨(Et.wr W46), ⟨_, Fw46⟩, c47, c49, (Va.other W46 (Ne.symm nA)), Oa, nA⟩
  obtain ⟨cq51, q51, q51'⟩ := (Et.wr W46).cell
  obtain ⟨_, _, ⟨T51, L51, k51, n51⟩, -, X51, ⟨Lc51, hQ51, l51, y51, z51⟩, st51⟩ := X50.privateBack hx (y := (⟨"java/util/ArrayList", "add", "(Ljava/lang/Object;[Ljava/lang/Object;I)V"⟩ : MethodName)) hown (mvT hZ (hw _ (List.mem_of_getElem? (i := 72) rfl))) (mvT hZ (hw _ (List.mem_of_getElem? (i := 73) rfl))) (mvT hZ (hw _ (List.mem_of_getElem? (i := 75) rfl))) (Cond.privateMethod_at (mvP hZ (hw _ (List.mem_of_getElem? (i := 74) rfl)) (args := #[]))) (mvT hZ (hw _ (List.mem_of_getElem? (i := 76) rfl))) (by decide) (backOf (W := 0) (rm12r l Z a0 hw [] r0 r1 aa k n vs h46 n0 (Nat.le_trans Z0 (Keep.of_wr W46).1) hL2 g_r0 g_aa (E1.wr W46) hn hne hvs) hZ (hw _ (List.mem_of_getElem? (i := 76) rfl)) (hw _ (List.mem_of_getElem? (i := 37) rfl)) (by decide) (by decide)) (g := (mkF m 20 #[.val (.ref r0), .val (.ref r1)] [(.int n), (.ref aa), (.ref r1), (.ref r0)])) rfl (by rw [hml]; rfl) (Steps.refl _) (a := r0) (by rw [e50]; exact q51) q51' (argsL := [(.ref r1), (.ref aa), (.int n)]) (rest := []) (lenOf pd__Ljava_lang_Object__Ljava_lang_Object_I_V_668 rfl) rfl (by show 2 * 0 + _ ≤ _; exact Nat.le_of_eq rfl) (hb hby d11_20) (fun _ _ => ⟨rfl, e50, (by decide : 0 + 0 ≤ _), (by decide : 0 + 0 ≤ _)⟩)
  dsimp only [Pt.U, Pt.locs, Pt.cells, Pt.slots] at X51 l51 y51 z51 st51 hQ51
  subst l51 y51 z51
  obtain ⟨rfl, N51q, K51, q51⟩ := hQ51
  have N51 := Fr.app N46 N51q
  refine own_tr st51 ?_
  show own_Comes p e below s _ _ _ (T51.setTop (mkF m 23 #[.val (.ref r0), .val (.ref r1)] []))
  refine own_by (fun _ kS => XS.iconst X51.here hx rfl (hb hby d11_23) kS) ?_
  show own_Comes p e below s _ _ _ (T51.setTop (mkF m 24 #[.val (.ref r0), .val (.ref r1)] [(.int (1 : Int32))]))
  refine own_ret X51 (v := some (.int (1 : Int32))) (fun h => by rw [Bd.returns] at h; cases h) Bd.notSynchronized (by decide) (by decide) ?_ (fun fs hr => retN X51 hx (t := .boolean) Bd.returns (by simp) (hb hby d11_24) hr)
  exact ⟨rfl, N51, (((Keep.refl _ _).wr W46 (Or.inl (List.mem_of_getElem? (i := 0) rfl))).trans K51 (allS (Or.inl (List.mem_of_getElem? (i := 0) rfl)) (allS (Or.inl (List.mem_of_getElem? (i := 1) rfl)) all0))), q51⟩
def Q24 (Z : State) (p0 : Int32) (h0 : Heap) (n0 : Nat) (v : Option Value) (h : Heap) (L : List Loc) : Prop := v = some (.int p0) ∧ Fr n0 L ∧ h = h0
theorem ef_rm24 (m : MethodId) (x0 : Int32) (x1 : Int32) : entryFrame m #[(.int x0), (.int x1), .null] 3 = mkF m 0 #[.val (.int x0), .val (.int x1), .val .null] [] := by first | (simp [entryFrame, mkF, argsToLocals, Value.category]; done) | rfl
theorem pn_jdk_internal_util_Preconditions : plainName "jdk/internal/util/Preconditions" = true := by first | (simp [plainName, overriddenIn]; done) | decide +kernel
theorem d24_0 : decode jdk_41_method_11_code 0 = .ok (.iload_n 0, 1) := by decide +kernel
theorem d24_1 : decode jdk_41_method_11_code 1 = .ok (.ifCond .lt 8, 3) := by decide +kernel
theorem d24_4 : decode jdk_41_method_11_code 4 = .ok (.iload_n 0, 1) := by decide +kernel
theorem d24_5 : decode jdk_41_method_11_code 5 = .ok (.iload_n 1, 1) := by decide +kernel
theorem d24_6 : decode jdk_41_method_11_code 6 = .ok (.if_icmp .lt 10, 3) := by decide +kernel
theorem d24_16 : decode jdk_41_method_11_code 16 = .ok (.iload_n 0, 1) := by decide +kernel
theorem d24_17 : decode jdk_41_method_11_code 17 = .ok (.ireturn, 1) := by decide +kernel
set_option maxRecDepth 65536 in
set_option maxHeartbeats 40000000 in
theorem rm24 (l : Launch) (Z : State) (a0 : Array Value) (hw : ∀ d ∈ tables_1, d.before a0 Z = true) (ws : List Jvm.Cond) (p0 p1 : Int32) (h0 : Heap) (n0 : Nat) (Z0 : n0 ≤ h0.size) (k1 : ¬ p0 < (0 : Int32)) (k2 : p0 < p1) :
    MetFree l (⟨"jdk/internal/util/Preconditions", "checkIndex", "(IILjava/util/function/BiFunction;)I"⟩ : MethodName) (head1 (Jvm.Cond.code (⟨"jdk/internal/util/Preconditions", "checkIndex", "(IILjava/util/function/BiFunction;)I"⟩ : MethodName) jdk_41_method_11_code 3 (some .int) :: ws) ({ frames := 0, cells := 0, slots := 0, locals := 0 } : Room)) (fun aX UX => aX = #[(.int p0), (.int p1), .null] ∧ Z.Warmed39 UX.vm ∧ UX.heap = h0) (fun _ _ _ _ _ => True) (fun _ UX oX UX' => ∃ vX LX, oX = .returned vX ∧ Q24 Z p0 h0 n0 vX UX'.heap LX ∧ FrameEnd UX oX UX' LX ({ frames := 0, cells := 0, slots := 0, locals := 0 } : Room).cells ({ frames := 0, cells := 0, slots := 0, locals := 0 } : Room).slots) := by
  refine MetFree.of_bodySF (plainFor_of_name pn_jdk_internal_util_Preconditions) hisR ?_
  intro p e s m args below meth c s₁ Bd hml0 hP hK
  obtain ⟨rfl, hZ, hh⟩ := hP
  have hx := Bd.exec
  have hby := Bd.bytes
  have hml : c.maxLocals = 3 := hml0
  have hown : s.vm.findClass "jdk/internal/util/Preconditions" = some m.cls := findClass_of_methodNamed Bd.named
  have hnm := (name_of_methodNamed Bd.named Bd.method).1
  have X0 : Stand p l e ({ frames := 0, cells := 0, slots := 0, locals := 0 } : Room) s m #[(.int p0), (.int p1), .null] below meth c s₁ [] 0 0 := Stand.of_body Bd
  have e0 : s₁.heap = h0 := by rw [← hh, Bd.state]; rfl
  have N0 := Fr.nil n0
  show own_Comes p e below s ({ frames := 0, cells := 0, slots := 0, locals := 0 } : Room).cells ({ frames := 0, cells := 0, slots := 0, locals := 0 } : Room).slots (Q24 Z p0 h0 n0) _
  rw [show entryFrame m #[(.int p0), (.int p1), .null] 3 = mkF m 0 #[.val (.int p0), .val (.int p1), .val .null] [] from ef_rm24 m p0 p1]
  show own_Comes p e below s _ _ _ (s₁.setTop (mkF m 0 #[.val (.int p0), .val (.int p1), .val .null] []))
  refine own_by (fun _ kS => XS.iloadN X0.here hx rfl (hb hby d24_0) rfl kS) ?_
  show own_Comes p e below s _ _ _ (s₁.setTop (mkF m 1 #[.val (.int p0), .val (.int p1), .val .null] [(.int p0)]))
  refine own_by (fun _ kS => XS.ifNo X0.here hx rfl (hb hby d24_1) rfl ((if0 _ _).trans (flt k1).1) kS) ?_
  show own_Comes p e below s _ _ _ (s₁.setTop (mkF m 4 #[.val (.int p0), .val (.int p1), .val .null] []))
  refine own_by (fun _ kS => XS.iloadN X0.here hx rfl (hb hby d24_4) rfl kS) ?_
  show own_Comes p e below s _ _ _ (s₁.setTop (mkF m 5 #[.val (.int p0), .val (.int p1), .val .null] [(.int p0)]))
  refine own_by (fun _ kS => XS.iloadN X0.here hx rfl (hb hby d24_5) rfl kS) ?_
  show own_Comes p e below s _ _ _ (s₁.setTop (mkF m 6 #[.val (.int p0), .val (.int p1), .val .null] [(.int p1), (.int p0)]))
  refine own_by (fun _ kS => XS.icmpYes X0.here hx rfl (pc0 := 6) (pc' := 16) rfl (hb hby d24_6) rfl (tlt k2).1 (by decide) (by decide) kS) ?_
  show own_Comes p e below s _ _ _ (s₁.setTop (mkF m 16 #[.val (.int p0), .val (.int p1), .val .null] []))
  refine own_by (fun _ kS => XS.iloadN X0.here hx rfl (hb hby d24_16) rfl kS) ?_
  show own_Comes p e below s _ _ _ (s₁.setTop (mkF m 17 #[.val (.int p0), .val (.int p1), .val .null] [(.int p0)]))
  refine own_ret X0 (v := some (.int p0)) (fun h => by rw [Bd.returns] at h; cases h) Bd.notSynchronized (by decide) (by decide) ?_ (fun fs hr => retI X0 hx Bd.returns (hb hby d24_17) hr)
  rw [e0]; exact ⟨rfl, N0, rfl⟩
def Q23 (Z : State) (p0 : Int32) (h0 : Heap) (n0 : Nat) (v : Option Value) (h : Heap) (L : List Loc) : Prop := v = some (.int p0) ∧ Fr n0 L ∧ h = h0
theorem ef_rm23 (m : MethodId) (x0 : Int32) (x1 : Int32) : entryFrame m #[(.int x0), (.int x1)] 2 = mkF m 0 #[.val (.int x0), .val (.int x1)] [] := by first | (simp [entryFrame, mkF, argsToLocals, Value.category]; done) | rfl
theorem pn_java_util_Objects : plainName "java/util/Objects" = true := by first | (simp [plainName, overriddenIn]; done) | decide +kernel
theorem d23_0 : decode jdk_31_method_17_code 0 = .ok (.iload_n 0, 1) := by decide +kernel
theorem d23_1 : decode jdk_31_method_17_code 1 = .ok (.iload_n 1, 1) := by decide +kernel
theorem d23_2 : decode jdk_31_method_17_code 2 = .ok (.aconst_null, 1) := by decide +kernel
theorem pd__IILjava_util_function_BiFunction__I_328 : parseMethodDescriptor "(IILjava/util/function/BiFunction;)I" = some ⟨[.int, .int, (.object "java/util/function/BiFunction")], some .int⟩ := by decide +kernel
theorem d23_3 : decode jdk_31_method_17_code 3 = .ok (.invokestatic 105, 3) := by decide +kernel
theorem d23_6 : decode jdk_31_method_17_code 6 = .ok (.ireturn, 1) := by decide +kernel
set_option maxRecDepth 65536 in
set_option maxHeartbeats 40000000 in
theorem rm23 (l : Launch) (Z : State) (a0 : Array Value) (hw : ∀ d ∈ tables_1, d.before a0 Z = true) (ws : List Jvm.Cond) (p0 p1 : Int32) (h0 : Heap) (n0 : Nat) (Z0 : n0 ≤ h0.size) (k1 : ¬ p0 < (0 : Int32)) (k2 : p0 < p1) :
    MetFree l (⟨"java/util/Objects", "checkIndex", "(II)I"⟩ : MethodName) (head1 (Jvm.Cond.code (⟨"java/util/Objects", "checkIndex", "(II)I"⟩ : MethodName) jdk_31_method_17_code 2 (some .int) :: ws) ({ frames := 1, cells := 0, slots := 0, locals := 14 } : Room)) (fun aX UX => aX = #[(.int p0), (.int p1)] ∧ Z.Warmed39 UX.vm ∧ UX.heap = h0) (fun _ _ _ _ _ => True) (fun _ UX oX UX' => ∃ vX LX, oX = .returned vX ∧ Q23 Z p0 h0 n0 vX UX'.heap LX ∧ FrameEnd UX oX UX' LX ({ frames := 1, cells := 0, slots := 0, locals := 14 } : Room).cells ({ frames := 1, cells := 0, slots := 0, locals := 14 } : Room).slots) := by
  refine MetFree.of_bodySF (plainFor_of_name pn_java_util_Objects) hisR ?_
  intro p e s m args below meth c s₁ Bd hml0 hP hK
  obtain ⟨rfl, hZ, hh⟩ := hP
  have hx := Bd.exec
  have hby := Bd.bytes
  have hml : c.maxLocals = 2 := hml0
  have hown : s.vm.findClass "java/util/Objects" = some m.cls := findClass_of_methodNamed Bd.named
  have hnm := (name_of_methodNamed Bd.named Bd.method).1
  have X0 : Stand p l e ({ frames := 1, cells := 0, slots := 0, locals := 14 } : Room) s m #[(.int p0), (.int p1)] below meth c s₁ [] 0 0 := Stand.of_body Bd
  have e0 : s₁.heap = h0 := by rw [← hh, Bd.state]; rfl
  have N0 := Fr.nil n0
  show own_Comes p e below s ({ frames := 1, cells := 0, slots := 0, locals := 14 } : Room).cells ({ frames := 1, cells := 0, slots := 0, locals := 14 } : Room).slots (Q23 Z p0 h0 n0) _
  rw [show entryFrame m #[(.int p0), (.int p1)] 2 = mkF m 0 #[.val (.int p0), .val (.int p1)] [] from ef_rm23 m p0 p1]
  show own_Comes p e below s _ _ _ (s₁.setTop (mkF m 0 #[.val (.int p0), .val (.int p1)] []))
  refine own_by (fun _ kS => XS.iloadN X0.here hx rfl (hb hby d23_0) rfl kS) ?_
  show own_Comes p e below s _ _ _ (s₁.setTop (mkF m 1 #[.val (.int p0), .val (.int p1)] [(.int p0)]))
  refine own_by (fun _ kS => XS.iloadN X0.here hx rfl (hb hby d23_1) rfl kS) ?_
  show own_Comes p e below s _ _ _ (s₁.setTop (mkF m 2 #[.val (.int p0), .val (.int p1)] [(.int p1), (.int p0)]))
  refine own_by (fun _ kS => XS.aconstNull X0.here hx rfl (hb hby d23_2) kS) ?_
  show own_Comes p e below s _ _ _ (s₁.setTop (mkF m 3 #[.val (.int p0), .val (.int p1)] [.null, (.int p1), (.int p0)]))
  obtain ⟨_, _, ⟨T52, L52, k52, n52⟩, -, X52, ⟨Lc52, hQ52, l52, y52, z52⟩, st52⟩ := Jvm.LawKit.callS X0 hx (y := (⟨"jdk/internal/util/Preconditions", "checkIndex", "(IILjava/util/function/BiFunction;)I"⟩ : MethodName)) hown (mvT hZ (hw _ (List.mem_of_getElem? (i := 132) rfl))) (mvT hZ (hw _ (List.mem_of_getElem? (i := 133) rfl))) (mvT hZ (hw _ (List.mem_of_getElem? (i := 134) rfl))) (mvT hZ (hw _ (List.mem_of_getElem? (i := 135) rfl))) (by decide) (backOf (W := 0) (rm24 l Z a0 hw [] p0 p1 h0 n0 Z0 k1 k2) hZ (hw _ (List.mem_of_getElem? (i := 135) rfl)) (hw _ (List.mem_of_getElem? (i := 134) rfl)) (by decide) (by decide)) (g := (mkF m 3 #[.val (.int p0), .val (.int p1)] [.null, (.int p1), (.int p0)])) rfl (by rw [hml]; rfl) (argsL := [(.int p0), (.int p1), .null]) (rest := []) (lenOf pd__IILjava_util_function_BiFunction__I_328 rfl) rfl (by show 2 * 0 + _ ≤ _; exact Nat.le_of_eq rfl) (hb hby d23_3) (fun _ _ => ⟨rfl, e0, (by decide : 0 + 0 ≤ _), (by decide : 0 + 0 ≤ _)⟩)
  dsimp only [Pt.U, Pt.locs, Pt.cells, Pt.slots] at X52 l52 y52 z52 st52 hQ52
  subst l52 y52 z52
  obtain ⟨rfl, N52q, e52q⟩ := hQ52
  have N52 := Fr.app N0 N52q
  refine own_by st52 ?_
  have e52 : T52.heap = h0 := e52q
  show own_Comes p e below s _ _ _ (T52.setTop (mkF m 6 #[.val (.int p0), .val (.int p1)] [(.int p0)]))
  refine own_ret X52 (v := some (.int p0)) (fun h => by rw [Bd.returns] at h; cases h) Bd.notSynchronized (by decide) (by decide) ?_ (fun fs hr => retI X52 hx Bd.returns (hb hby d23_6) hr)
  rw [e52]; exact ⟨rfl, N52, rfl⟩
def Q25 (Z : State) (x : Addr) (h0 : Heap) (n0 : Nat) (v : Option Value) (h : Heap) (L : List Loc) : Prop := v = some (.ref x) ∧ Fr n0 L ∧ h = h0
theorem ef_rm25 (m : MethodId) (x0 : Addr) (x1 : Int32) : entryFrame m #[(.ref x0), (.int x1)] 2 = mkF m 0 #[.val (.ref x0), .val (.int x1)] [] := by first | (simp [entryFrame, mkF, argsToLocals, Value.category]; done) | rfl
theorem d25_0 : decode jdk_38_method_18_code 0 = .ok (.aload_n 0, 1) := by decide +kernel
theorem d25_1 : decode jdk_38_method_18_code 1 = .ok (.getfield 9, 3) := by decide +kernel
theorem d25_4 : decode jdk_38_method_18_code 4 = .ok (.iload_n 1, 1) := by decide +kernel
theorem d25_5 : decode jdk_38_method_18_code 5 = .ok (.aaload, 1) := by decide +kernel
theorem d25_6 : decode jdk_38_method_18_code 6 = .ok (.areturn, 1) := by decide +kernel
set_option maxRecDepth 65536 in
set_option maxHeartbeats 40000000 in
theorem rm25 (l : Launch) (Z : State) (a0 : Array Value) (hw : ∀ d ∈ tables_1, d.before a0 Z = true) (ws : List Jvm.Cond) (r0 : Addr) (p1 : Int32) (aa : Addr) (k : ClassId) (n : Int32) (vs : List Value) (x : Addr) (h0 : Heap) (n0 : Nat) (Z0 : n0 ≤ h0.size) (hL : own_L Z h0 r0 aa k n vs) (k1 : ¬ p1 < (0 : Int32)) (k2 : p1 < n) (k3 : p1 < (10 : Int32)) (hat : vs.getD p1.toNatClampNeg .null = .ref x) :
    MetFree l (⟨"java/util/ArrayList", "elementData", "(I)Ljava/lang/Object;"⟩ : MethodName) (head1 (Jvm.Cond.code (⟨"java/util/ArrayList", "elementData", "(I)Ljava/lang/Object;"⟩ : MethodName) jdk_38_method_18_code 2 (some (.object "java/lang/Object")) :: ws) ({ frames := 0, cells := 0, slots := 0, locals := 0 } : Room)) (fun aX UX => aX = #[(.ref r0), (.int p1)] ∧ Z.Warmed39 UX.vm ∧ UX.heap = h0) (fun _ _ _ _ _ => True) (fun _ UX oX UX' => ∃ vX LX, oX = .returned vX ∧ Q25 Z x h0 n0 vX UX'.heap LX ∧ FrameEnd UX oX UX' LX ({ frames := 0, cells := 0, slots := 0, locals := 0 } : Room).cells ({ frames := 0, cells := 0, slots := 0, locals := 0 } : Room).slots) := by
  refine MetFree.of_bodySF (plainFor_of_name pn_java_util_ArrayList) hisR ?_
  intro p e s m args below meth c s₁ Bd hml0 hP hK
  obtain ⟨rfl, hZ, hh⟩ := hP
  have hx := Bd.exec
  have hby := Bd.bytes
  have hml : c.maxLocals = 2 := hml0
  have hown : s.vm.findClass "java/util/ArrayList" = some m.cls := findClass_of_methodNamed Bd.named
  have hnm := (name_of_methodNamed Bd.named Bd.method).1
  have X0 : Stand p l e ({ frames := 0, cells := 0, slots := 0, locals := 0 } : Room) s m #[(.ref r0), (.int p1)] below meth c s₁ [] 0 0 := Stand.of_body Bd
  have e0 : s₁.heap = h0 := by rw [← hh, Bd.state]; rfl
  have N0 := Fr.nil n0
  show own_Comes p e below s ({ frames := 0, cells := 0, slots := 0, locals := 0 } : Room).cells ({ frames := 0, cells := 0, slots := 0, locals := 0 } : Room).slots (Q25 Z x h0 n0) _
  rw [show entryFrame m #[(.ref r0), (.int p1)] 2 = mkF m 0 #[.val (.ref r0), .val (.int p1)] [] from ef_rm25 m r0 p1]
  show own_Comes p e below s _ _ _ (s₁.setTop (mkF m 0 #[.val (.ref r0), .val (.int p1)] []))
  have hLc := hL
  obtain ⟨Et, ⟨mc, Fm⟩, Fd, Fz, Va, Oa, nA⟩ := hLc
  refine own_by (fun _ kS => XS.aloadN X0.here hx rfl (hb hby d25_0) rfl rfl kS) ?_
  show own_Comes p e below s _ _ _ (s₁.setTop (mkF m 1 #[.val (.ref r0), .val (.int p1)] [(.ref r0)]))
  obtain ⟨T53, X53, e53, st53⟩ := getF X0 hx hZ hown (host := "") (Or.inl (hw _ (List.mem_of_getElem? (i := 57) rfl))) Via.refl e0 Fd (g := (mkF m 1 #[.val (.ref r0), .val (.int p1)] [(.ref r0)])) rfl rfl (hb hby d25_1)
  refine own_by st53 ?_
  show own_Comes p e below s _ _ _ (T53.setTop (mkF m 4 #[.val (.ref r0), .val (.int p1)] [(.ref aa)]))
  refine own_by (fun _ kS => XS.iloadN X53.here hx rfl (hb hby d25_4) rfl kS) ?_
  show own_Comes p e below s _ _ _ (T53.setTop (mkF m 5 #[.val (.ref r0), .val (.int p1)] [(.int p1), (.ref aa)]))
  have Vo54 := Va
  obtain ⟨cl54, Ar54, qA54, SA54, NA54, HA54, GA54⟩ := Vo54
  have hin54 : ¬ (p1 < 0 ∨ cl54.slots.size ≤ (p1).toNatClampNeg) := inb_of SA54 ⟨k1, k3⟩
  have hat54 : cl54.slots[(p1).toNatClampNeg]? = some (.ref x) := HA54.at hin54 hat
  refine own_by (fun _ kS => X53.aaload hx (j := p1) (v := (.ref x)) (by rw [e53]; exact Ar54.1) (State.isArrayOf_alike hZ.alike Ar54.2.1) rfl Ar54.2.2 hin54 hat54 (g := (mkF m 5 #[.val (.ref r0), .val (.int p1)] [(.int p1), (.ref aa)])) rfl rfl (hb hby d25_5) _ kS) ?_
  show own_Comes p e below s _ _ _ (T53.setTop (mkF m 6 #[.val (.ref r0), .val (.int p1)] [(.ref x)]))
  refine own_ret X53 (v := some (.ref x)) (fun h => by rw [Bd.returns] at h; cases h) Bd.notSynchronized (by decide) (by decide) ?_ (fun fs hr => own_reta X53 hx Bd.returns rfl rfl (hb hby d25_6) hr)
  rw [e53]; exact ⟨rfl, N0, rfl⟩
def Q22 (Z : State) (x : Addr) (h0 : Heap) (n0 : Nat) (v : Option Value) (h : Heap) (L : List Loc) : Prop := v = some (.ref x) ∧ Fr n0 L ∧ h = h0
theorem ef_rm22 (m : MethodId) (x0 : Addr) (x1 : Int32) : entryFrame m #[(.ref x0), (.int x1)] 2 = mkF m 0 #[.val (.ref x0), .val (.int x1)] [] := by first | (simp [entryFrame, mkF, argsToLocals, Value.category]; done) | rfl
theorem d22_0 : decode jdk_38_method_20_code 0 = .ok (.iload_n 1, 1) := by decide +kernel
theorem d22_1 : decode jdk_38_method_20_code 1 = .ok (.aload_n 0, 1) := by decide +kernel
theorem d22_2 : decode jdk_38_method_20_code 2 = .ok (.getfield 48, 3) := by decide +kernel
theorem d22_5 : decode jdk_38_method_20_code 5 = .ok (.invokestatic 118, 3) := by decide +kernel
theorem d22_8 : decode jdk_38_method_20_code 8 = .ok (.pop, 1) := by decide +kernel
theorem d22_9 : decode jdk_38_method_20_code 9 = .ok (.aload_n 0, 1) := by decide +kernel
theorem d22_10 : decode jdk_38_method_20_code 10 = .ok (.iload_n 1, 1) := by decide +kernel
theorem pd__I_Ljava_lang_Object__821 : parseMethodDescriptor "(I)Ljava/lang/Object;" = some ⟨[.int], some (.object "java/lang/Object")⟩ := by decide +kernel
theorem d22_11 : decode jdk_38_method_20_code 11 = .ok (.invokevirtual 123, 3) := by decide +kernel
theorem d22_14 : decode jdk_38_method_20_code 14 = .ok (.areturn, 1) := by decide +kernel
set_option maxRecDepth 65536 in
set_option maxHeartbeats 40000000 in
theorem rm22 (l : Launch) (Z : State) (a0 : Array Value) (hw : ∀ d ∈ tables_1, d.before a0 Z = true) (ws : List Jvm.Cond) (r0 : Addr) (p1 : Int32) (aa : Addr) (k : ClassId) (n : Int32) (vs : List Value) (x : Addr) (h0 : Heap) (n0 : Nat) (Z0 : n0 ≤ h0.size) (hL : own_L Z h0 r0 aa k n vs) (k1 : ¬ p1 < (0 : Int32)) (k2 : p1 < n) (k3 : p1 < (10 : Int32)) (hat : vs.getD p1.toNatClampNeg .null = .ref x) :
    MetFree l (⟨"java/util/ArrayList", "get", "(I)Ljava/lang/Object;"⟩ : MethodName) (head1 (Jvm.Cond.code (⟨"java/util/ArrayList", "get", "(I)Ljava/lang/Object;"⟩ : MethodName) jdk_38_method_20_code 2 (some (.object "java/lang/Object")) :: ws) ({ frames := 2, cells := 0, slots := 0, locals := 27 } : Room)) (fun aX UX => aX = #[(.ref r0), (.int p1)] ∧ Z.Warmed39 UX.vm ∧ UX.heap = h0) (fun _ _ _ _ _ => True) (fun _ UX oX UX' => ∃ vX LX, oX = .returned vX ∧ Q22 Z x h0 n0 vX UX'.heap LX ∧ FrameEnd UX oX UX' LX ({ frames := 2, cells := 0, slots := 0, locals := 27 } : Room).cells ({ frames := 2, cells := 0, slots := 0, locals := 27 } : Room).slots) := by
  refine MetFree.of_bodySF (plainFor_of_name pn_java_util_ArrayList) hisR ?_
  intro p e s m args below meth c s₁ Bd hml0 hP hK
  obtain ⟨rfl, hZ, hh⟩ := hP
  have hx := Bd.exec
  have hby := Bd.bytes
  have hml : c.maxLocals = 2 := hml0
  have hown : s.vm.findClass "java/util/ArrayList" = some m.cls := findClass_of_methodNamed Bd.named
  have hnm := (name_of_methodNamed Bd.named Bd.method).1
  have X0 : Stand p l e ({ frames := 2, cells := 0, slots := 0, locals := 27 } : Room) s m #[(.ref r0), (.int p1)] below meth c s₁ [] 0 0 := Stand.of_body Bd
  have e0 : s₁.heap = h0 := by rw [← hh, Bd.state]; rfl
  have N0 := Fr.nil n0
  show own_Comes p e below s ({ frames := 2, cells := 0, slots := 0, locals := 27 } : Room).cells ({ frames := 2, cells := 0, slots := 0, locals := 27 } : Room).slots (Q22 Z x h0 n0) _
  rw [show entryFrame m #[(.ref r0), (.int p1)] 2 = mkF m 0 #[.val (.ref r0), .val (.int p1)] [] from ef_rm22 m r0 p1]
  show own_Comes p e below s _ _ _ (s₁.setTop (mkF m 0 #[.val (.ref r0), .val (.int p1)] []))
  have hLc := hL
  obtain ⟨Et, ⟨mc, Fm⟩, Fd, Fz, Va, Oa, nA⟩ := hLc
  refine own_by (fun _ kS => XS.iloadN X0.here hx rfl (hb hby d22_0) rfl kS) ?_
  show own_Comes p e below s _ _ _ (s₁.setTop (mkF m 1 #[.val (.ref r0), .val (.int p1)] [(.int p1)]))
  refine own_by (fun _ kS => XS.aloadN X0.here hx rfl (hb hby d22_1) rfl rfl kS) ?_
  show own_Comes p e below s _ _ _ (s₁.setTop (mkF m 2 #[.val (.ref r0), .val (.int p1)] [(.ref r0), (.int p1)]))
  obtain ⟨T55, X55, e55, st55⟩ := getF X0 hx hZ hown (host := "") (Or.inl (hw _ (List.mem_of_getElem? (i := 70) rfl))) Via.refl e0 Fz (g := (mkF m 2 #[.val (.ref r0), .val (.int p1)] [(.ref r0), (.int p1)])) rfl rfl (hb hby d22_2)
  refine own_by st55 ?_
  show own_Comes p e below s _ _ _ (T55.setTop (mkF m 5 #[.val (.ref r0), .val (.int p1)] [(.int n), (.int p1)]))
  obtain ⟨_, _, ⟨T56, L56, k56, n56⟩, -, X56, ⟨Lc56, hQ56, l56, y56, z56⟩, st56⟩ := Jvm.LawKit.callS X55 hx (y := (⟨"java/util/Objects", "checkIndex", "(II)I"⟩ : MethodName)) hown (mvT hZ (hw _ (List.mem_of_getElem? (i := 128) rfl))) (mvT hZ (hw _ (List.mem_of_getElem? (i := 129) rfl))) (mvT hZ (hw _ (List.mem_of_getElem? (i := 130) rfl))) (mvT hZ (hw _ (List.mem_of_getElem? (i := 131) rfl))) (by decide) (backOf (W := 0) (rm23 l Z a0 hw [] p1 n h0 n0 Z0 k1 k2) hZ (hw _ (List.mem_of_getElem? (i := 131) rfl)) (hw _ (List.mem_of_getElem? (i := 130) rfl)) (by decide) (by decide)) (g := (mkF m 5 #[.val (.ref r0), .val (.int p1)] [(.int n), (.int p1)])) rfl (by rw [hml]; rfl) (argsL := [(.int p1), (.int n)]) (rest := []) (lenOf pd__II_I_300 rfl) rfl (by show 2 * 0 + _ ≤ _; exact Nat.le_of_eq rfl) (hb hby d22_5) (fun _ _ => ⟨rfl, e55, (by decide : 0 + 0 ≤ _), (by decide : 0 + 0 ≤ _)⟩)
  dsimp only [Pt.U, Pt.locs, Pt.cells, Pt.slots] at X56 l56 y56 z56 st56 hQ56
  subst l56 y56 z56
  obtain ⟨rfl, N56q, e56q⟩ := hQ56
  have N56 := Fr.app N0 N56q
  refine own_by st56 ?_
  have e56 : T56.heap = h0 := e56q
  show own_Comes p e below s _ _ _ (T56.setTop (mkF m 8 #[.val (.ref r0), .val (.int p1)] [(.int p1)]))
  refine own_by (fun _ kS => XS.pop X56.here hx rfl (hb hby d22_8) rfl rfl kS) ?_
  show own_Comes p e below s _ _ _ (T56.setTop (mkF m 9 #[.val (.ref r0), .val (.int p1)] []))
  refine own_by (fun _ kS => XS.aloadN X56.here hx rfl (hb hby d22_9) rfl rfl kS) ?_
  show own_Comes p e below s _ _ _ (T56.setTop (mkF m 10 #[.val (.ref r0), .val (.int p1)] [(.ref r0)]))
  refine own_by (fun _ kS => XS.iloadN X56.here hx rfl (hb hby d22_10) rfl kS) ?_
  show own_Comes p e below s _ _ _ (T56.setTop (mkF m 11 #[.val (.ref r0), .val (.int p1)] [(.int p1), (.ref r0)]))
  obtain ⟨cq57, kq57, q57a, q57b, q57c⟩ := isOf hZ e56 Et
  obtain ⟨_, _, ⟨T57, L57, k57, n57⟩, -, X57, ⟨Lc57, hQ57, l57, y57, z57⟩, st57⟩ := X56.virtualBack hx (y := (⟨"java/util/ArrayList", "elementData", "(I)Ljava/lang/Object;"⟩ : MethodName)) (z := (⟨"java/util/ArrayList", "elementData", "(I)Ljava/lang/Object;"⟩ : MethodName)) hown (mvT hZ (hw _ (List.mem_of_getElem? (i := 136) rfl))) (mvT hZ (hw _ (List.mem_of_getElem? (i := 137) rfl))) (notFace_of_selects (args := #[]) (mvT hZ (hw _ (List.mem_of_getElem? (i := 139) rfl)))) (mvT hZ (hw _ (List.mem_of_getElem? (i := 139) rfl))) (mvT hZ (hw _ (List.mem_of_getElem? (i := 138) rfl))) (by decide) (backOf (W := 0) (rm25 l Z a0 hw [] r0 p1 aa k n vs x h0 n0 Z0 hL k1 k2 k3 hat) hZ (hw _ (List.mem_of_getElem? (i := 140) rfl)) (hw _ (List.mem_of_getElem? (i := 37) rfl)) (by decide) (by decide)) q57a q57c (g := (mkF m 11 #[.val (.ref r0), .val (.int p1)] [(.int p1), (.ref r0)])) rfl (by rw [hml]; rfl) (Steps.refl _) (argsL := [(.int p1)]) (rest := []) (lenOf pd__I_Ljava_lang_Object__821 rfl) rfl (by show 2 * 0 + _ ≤ _; exact Nat.le_of_eq rfl) (hb hby d22_11) (fun _ _ => ⟨rfl, e56, (by decide : 0 + 0 ≤ _), (by decide : 0 + 0 ≤ _)⟩)
  dsimp only [Pt.U, Pt.locs, Pt.cells, Pt.slots] at X57 l57 y57 z57 st57 hQ57
  subst l57 y57 z57
  obtain ⟨rfl, N57q, e57q⟩ := hQ57
  have N57 := Fr.app N56 N57q
  refine own_tr st57 ?_
  have e57 : T57.heap = h0 := e57q
  show own_Comes p e below s _ _ _ (T57.setTop (mkF m 14 #[.val (.ref r0), .val (.int p1)] [(.ref x)]))
  refine own_ret X57 (v := some (.ref x)) (fun h => by rw [Bd.returns] at h; cases h) Bd.notSynchronized (by decide) (by decide) ?_ (fun fs hr => own_reta X57 hx Bd.returns rfl rfl (hb hby d22_14) hr)
  rw [e57]; exact ⟨rfl, N57, rfl⟩
def Q21 (Z : State) (n : Int32) (h0 : Heap) (n0 : Nat) (v : Option Value) (h : Heap) (L : List Loc) : Prop := v = some (.int n) ∧ Fr n0 L ∧ h = h0
theorem ef_rm21 (m : MethodId) (x0 : Addr) : entryFrame m #[(.ref x0)] 1 = mkF m 0 #[.val (.ref x0)] [] := by first | (simp [entryFrame, mkF, argsToLocals, Value.category]; done) | rfl
theorem d21_0 : decode jdk_38_method_8_code 0 = .ok (.aload_n 0, 1) := by decide +kernel
theorem d21_1 : decode jdk_38_method_8_code 1 = .ok (.getfield 48, 3) := by decide +kernel
theorem d21_4 : decode jdk_38_method_8_code 4 = .ok (.ireturn, 1) := by decide +kernel
set_option maxRecDepth 65536 in
set_option maxHeartbeats 40000000 in
theorem rm21 (l : Launch) (Z : State) (a0 : Array Value) (hw : ∀ d ∈ tables_1, d.before a0 Z = true) (ws : List Jvm.Cond) (r0 : Addr) (n : Int32) (h0 : Heap) (n0 : Nat) (Z0 : n0 ≤ h0.size) (Fz : Fld Z h0 r0 "java/util/ArrayList" "size" "I" (.int n)) :
    MetFree l (⟨"java/util/ArrayList", "size", "()I"⟩ : MethodName) (head1 (Jvm.Cond.code (⟨"java/util/ArrayList", "size", "()I"⟩ : MethodName) jdk_38_method_8_code 1 (some .int) :: ws) ({ frames := 0, cells := 0, slots := 0, locals := 0 } : Room)) (fun aX UX => aX = #[(.ref r0)] ∧ Z.Warmed39 UX.vm ∧ UX.heap = h0) (fun _ _ _ _ _ => True) (fun _ UX oX UX' => ∃ vX LX, oX = .returned vX ∧ Q21 Z n h0 n0 vX UX'.heap LX ∧ FrameEnd UX oX UX' LX ({ frames := 0, cells := 0, slots := 0, locals := 0 } : Room).cells ({ frames := 0, cells := 0, slots := 0, locals := 0 } : Room).slots) := by
  refine MetFree.of_bodySF (plainFor_of_name pn_java_util_ArrayList) hisR ?_
  intro p e s m args below meth c s₁ Bd hml0 hP hK
  obtain ⟨rfl, hZ, hh⟩ := hP
  have hx := Bd.exec
  have hby := Bd.bytes
  have hml : c.maxLocals = 1 := hml0
  have hown : s.vm.findClass "java/util/ArrayList" = some m.cls := findClass_of_methodNamed Bd.named
  have hnm := (name_of_methodNamed Bd.named Bd.method).1
  have X0 : Stand p l e ({ frames := 0, cells := 0, slots := 0, locals := 0 } : Room) s m #[(.ref r0)] below meth c s₁ [] 0 0 := Stand.of_body Bd
  have e0 : s₁.heap = h0 := by rw [← hh, Bd.state]; rfl
  have N0 := Fr.nil n0
  show own_Comes p e below s ({ frames := 0, cells := 0, slots := 0, locals := 0 } : Room).cells ({ frames := 0, cells := 0, slots := 0, locals := 0 } : Room).slots (Q21 Z n h0 n0) _
  rw [show entryFrame m #[(.ref r0)] 1 = mkF m 0 #[.val (.ref r0)] [] from ef_rm21 m r0]
  show own_Comes p e below s _ _ _ (s₁.setTop (mkF m 0 #[.val (.ref r0)] []))
  refine own_by (fun _ kS => XS.aloadN X0.here hx rfl (hb hby d21_0) rfl rfl kS) ?_
  show own_Comes p e below s _ _ _ (s₁.setTop (mkF m 1 #[.val (.ref r0)] [(.ref r0)]))
  obtain ⟨T58, X58, e58, st58⟩ := getF X0 hx hZ hown (host := "") (Or.inl (hw _ (List.mem_of_getElem? (i := 70) rfl))) Via.refl e0 Fz (g := (mkF m 1 #[.val (.ref r0)] [(.ref r0)])) rfl rfl (hb hby d21_1)
  refine own_by st58 ?_
  show own_Comes p e below s _ _ _ (T58.setTop (mkF m 4 #[.val (.ref r0)] [(.int n)]))
  refine own_ret X58 (v := some (.int n)) (fun h => by rw [Bd.returns] at h; cases h) Bd.notSynchronized (by decide) (by decide) ?_ (fun fs hr => retI X58 hx Bd.returns (hb hby d21_4) hr)
  rw [e58]; exact ⟨rfl, N0, rfl⟩
def Q20 (Z : State) (x : Addr) (h0 : Heap) (n0 : Nat) (v : Option Value) (h : Heap) (L : List Loc) : Prop := v = some (.ref x) ∧ Fr n0 L ∧ h = h0
theorem ef_rm20 (m : MethodId) (x0 : Addr) (x1 : Int32) (x2 : Addr) : entryFrame m #[(.ref x0), (.int x1), (.ref x2)] 3 = mkF m 0 #[.val (.ref x0), .val (.int x1), .val (.ref x2)] [] := by first | (simp [entryFrame, mkF, argsToLocals, Value.category]; done) | rfl
theorem pn_com_example_callyard_callyard_cli_CommandLine : plainName "com/example/callyard/callyard/cli/CommandLine" = true := by first | (simp [plainName, overriddenIn]; done) | decide +kernel
theorem d20_0 : decode prog_2_method_4_code 0 = .ok (.iload_n 1, 1) := by decide +kernel
theorem d20_1 : decode prog_2_method_4_code 1 = .ok (.aload_n 0, 1) := by decide +kernel
theorem pd___I_154 : parseMethodDescriptor "()I" = some ⟨[], some .int⟩ := by decide +kernel
theorem d20_2 : decode prog_2_method_4_code 2 = .ok (.invokeinterface 33 1, 5) := by decide +kernel
theorem d20_7 : decode prog_2_method_4_code 7 = .ok (.if_icmp .lt 12, 3) := by decide +kernel
theorem d20_19 : decode prog_2_method_4_code 19 = .ok (.aload_n 0, 1) := by decide +kernel
theorem d20_20 : decode prog_2_method_4_code 20 = .ok (.iload_n 1, 1) := by decide +kernel
theorem d20_21 : decode prog_2_method_4_code 21 = .ok (.invokeinterface 39 2, 5) := by decide +kernel
theorem d20_26 : decode prog_2_method_4_code 26 = .ok (.checkcast 14, 3) := by decide +kernel
theorem d20_29 : decode prog_2_method_4_code 29 = .ok (.areturn, 1) := by decide +kernel
set_option maxRecDepth 65536 in
set_option maxHeartbeats 40000000 in
theorem rm20 (l : Launch) (Z : State) (a0 : Array Value) (hw : ∀ d ∈ tables_1, d.before a0 Z = true) (ws : List Jvm.Cond) (r0 : Addr) (p1 : Int32) (r2 aa : Addr) (k : ClassId) (n : Int32) (vs : List Value) (x : Addr) (h0 : Heap) (n0 : Nat) (Z0 : n0 ≤ h0.size) (hL : own_L Z h0 r0 aa k n vs) (k1 : ¬ p1 < (0 : Int32)) (k2 : p1 < n) (k3 : p1 < (10 : Int32)) (hat : vs.getD p1.toNatClampNeg .null = .ref x) (Ex : Exa Z h0 x "java/lang/String") :
    MetFree l (⟨"com/example/callyard/callyard/cli/CommandLine", "operand", "(Ljava/util/List;ILjava/lang/String;)Ljava/lang/String;"⟩ : MethodName) (head1 (Jvm.Cond.code (⟨"com/example/callyard/callyard/cli/CommandLine", "operand", "(Ljava/util/List;ILjava/lang/String;)Ljava/lang/String;"⟩ : MethodName) prog_2_method_4_code 3 (some (.object "java/lang/String")) :: ws) ({ frames := 3, cells := 0, slots := 0, locals := 40 } : Room)) (fun aX UX => aX = #[(.ref r0), (.int p1), (.ref r2)] ∧ Z.Warmed39 UX.vm ∧ UX.heap = h0) (fun _ _ _ _ _ => True) (fun _ UX oX UX' => ∃ vX LX, oX = .returned vX ∧ Q20 Z x h0 n0 vX UX'.heap LX ∧ FrameEnd UX oX UX' LX ({ frames := 3, cells := 0, slots := 0, locals := 40 } : Room).cells ({ frames := 3, cells := 0, slots := 0, locals := 40 } : Room).slots) := by
  refine MetFree.of_bodySF (plainFor_of_name pn_com_example_callyard_callyard_cli_CommandLine) hisR ?_
  intro p e s m args below meth c s₁ Bd hml0 hP hK
  obtain ⟨rfl, hZ, hh⟩ := hP
  have hx := Bd.exec
  have hby := Bd.bytes
  have hml : c.maxLocals = 3 := hml0
  have hown : s.vm.findClass "com/example/callyard/callyard/cli/CommandLine" = some m.cls := findClass_of_methodNamed Bd.named
  have hnm := (name_of_methodNamed Bd.named Bd.method).1
  have X0 : Stand p l e ({ frames := 3, cells := 0, slots := 0, locals := 40 } : Room) s m #[(.ref r0), (.int p1), (.ref r2)] below meth c s₁ [] 0 0 := Stand.of_body Bd
  have e0 : s₁.heap = h0 := by rw [← hh, Bd.state]; rfl
  have N0 := Fr.nil n0
  show own_Comes p e below s ({ frames := 3, cells := 0, slots := 0, locals := 40 } : Room).cells ({ frames := 3, cells := 0, slots := 0, locals := 40 } : Room).slots (Q20 Z x h0 n0) _
  rw [show entryFrame m #[(.ref r0), (.int p1), (.ref r2)] 3 = mkF m 0 #[.val (.ref r0), .val (.int p1), .val (.ref r2)] [] from ef_rm20 m r0 p1 r2]
  show own_Comes p e below s _ _ _ (s₁.setTop (mkF m 0 #[.val (.ref r0), .val (.int p1), .val (.ref r2)] []))
  have hLc := hL
  obtain ⟨Et, ⟨mc, Fm⟩, Fd, Fz, Va, Oa, nA⟩ := hLc
  refine own_by (fun _ kS => XS.iloadN X0.here hx rfl (hb hby d20_0) rfl kS) ?_
  show own_Comes p e below s _ _ _ (s₁.setTop (mkF m 1 #[.val (.ref r0), .val (.int p1), .val (.ref r2)] [(.int p1)]))
  refine own_by (fun _ kS => XS.aloadN X0.here hx rfl (hb hby d20_1) rfl rfl kS) ?_
  show own_Comes p e below s _ _ _ (s₁.setTop (mkF m 2 #[.val (.ref r0), .val (.int p1), .val (.ref r2)] [(.ref r0), (.int p1)]))
  obtain ⟨cq59, kq59, q59a, q59b, q59c⟩ := isOf hZ e0 Et
  obtain ⟨_, _, ⟨T59, L59, k59, n59⟩, -, X59, ⟨Lc59, hQ59, l59, y59, z59⟩, st59⟩ := X0.interfaceBack hx (xi := (⟨"java/util/List", "size", "()I"⟩ : MethodName)) (y := (⟨"java/util/ArrayList", "size", "()I"⟩ : MethodName)) hown (mvT hZ (hw _ (List.mem_of_getElem? (i := 112) rfl))) (mvT hZ (hw _ (List.mem_of_getElem? (i := 113) rfl))) (mvT hZ (hw _ (List.mem_of_getElem? (i := 114) rfl))) (mvT hZ (hw _ (List.mem_of_getElem? (i := 115) rfl))) (mvT hZ (hw _ (List.mem_of_getElem? (i := 116) rfl))) (mvT hZ (hw _ (List.mem_of_getElem? (i := 117) rfl))) (mvT hZ (hw _ (List.mem_of_getElem? (i := 118) rfl))) (mvT hZ (hw _ (List.mem_of_getElem? (i := 66) rfl))) (by decide) (backOf (W := 1) (rm21 l Z a0 hw [] r0 n h0 n0 Z0 Fz) hZ (hw _ (List.mem_of_getElem? (i := 119) rfl)) (hw _ (List.mem_of_getElem? (i := 37) rfl)) (by decide) (by decide)) q59a q59b q59c (g := (mkF m 2 #[.val (.ref r0), .val (.int p1), .val (.ref r2)] [(.ref r0), (.int p1)])) rfl (by rw [hml]; rfl) (Steps.refl _) (argsL := []) (rest := [(.int p1)]) (lenOf pd___I_154 rfl) rfl (by show 2 * 0 + _ ≤ _; exact Nat.le_of_eq rfl) (hb hby d20_2) (fun _ _ => ⟨rfl, e0, (by decide : 0 + 0 ≤ _), (by decide : 0 + 0 ≤ _)⟩)
  dsimp only [Pt.U, Pt.locs, Pt.cells, Pt.slots] at X59 l59 y59 z59 st59 hQ59
  subst l59 y59 z59
  obtain ⟨rfl, N59q, e59q⟩ := hQ59
  have N59 := Fr.app N0 N59q
  refine own_tr st59 ?_
  have e59 : T59.heap = h0 := e59q
  show own_Comes p e below s _ _ _ (T59.setTop (mkF m 7 #[.val (.ref r0), .val (.int p1), .val (.ref r2)] [(.int n), (.int p1)]))
  refine own_by (fun _ kS => XS.icmpYes X59.here hx rfl (pc0 := 7) (pc' := 19) rfl (hb hby d20_7) rfl (tlt k2).1 (by decide) (by decide) kS) ?_
  show own_Comes p e below s _ _ _ (T59.setTop (mkF m 19 #[.val (.ref r0), .val (.int p1), .val (.ref r2)] []))
  refine own_by (fun _ kS => XS.aloadN X59.here hx rfl (hb hby d20_19) rfl rfl kS) ?_
  show own_Comes p e below s _ _ _ (T59.setTop (mkF m 20 #[.val (.ref r0), .val (.int p1), .val (.ref r2)] [(.ref r0)]))
  refine own_by (fun _ kS => XS.iloadN X59.here hx rfl (hb hby d20_20) rfl kS) ?_
  show own_Comes p e below s _ _ _ (T59.setTop (mkF m 21 #[.val (.ref r0), .val (.int p1), .val (.ref r2)] [(.int p1), (.ref r0)]))
  obtain ⟨cq60, kq60, q60a, q60b, q60c⟩ := isOf hZ e59 Et
  obtain ⟨_, _, ⟨T60, L60, k60, n60⟩, -, X60, ⟨Lc60, hQ60, l60, y60, z60⟩, st60⟩ := X59.interfaceBack hx (xi := (⟨"java/util/List", "get", "(I)Ljava/lang/Object;"⟩ : MethodName)) (y := (⟨"java/util/ArrayList", "get", "(I)Ljava/lang/Object;"⟩ : MethodName)) hown (mvT hZ (hw _ (List.mem_of_getElem? (i := 120) rfl))) (mvT hZ (hw _ (List.mem_of_getElem? (i := 121) rfl))) (mvT hZ (hw _ (List.mem_of_getElem? (i := 122) rfl))) (mvT hZ (hw _ (List.mem_of_getElem? (i := 123) rfl))) (mvT hZ (hw _ (List.mem_of_getElem? (i := 124) rfl))) (mvT hZ (hw _ (List.mem_of_getElem? (i := 125) rfl))) (mvT hZ (hw _ (List.mem_of_getElem? (i := 126) rfl))) (mvT hZ (hw _ (List.mem_of_getElem? (i := 66) rfl))) (by decide) (backOf (W := 0) (rm22 l Z a0 hw [] r0 p1 aa k n vs x h0 n0 Z0 hL k1 k2 k3 hat) hZ (hw _ (List.mem_of_getElem? (i := 127) rfl)) (hw _ (List.mem_of_getElem? (i := 37) rfl)) (by decide) (by decide)) q60a q60b q60c (g := (mkF m 21 #[.val (.ref r0), .val (.int p1), .val (.ref r2)] [(.int p1), (.ref r0)])) rfl (by rw [hml]; rfl) (Steps.refl _) (argsL := [(.int p1)]) (rest := []) (lenOf pd__I_Ljava_lang_Object__821 rfl) rfl (by show 2 * 0 + _ ≤ _; exact Nat.le_of_eq rfl) (hb hby d20_21) (fun _ _ => ⟨rfl, e59, (by decide : 0 + 0 ≤ _), (by decide : 0 + 0 ≤ _)⟩)
  dsimp only [Pt.U, Pt.locs, Pt.cells, Pt.slots] at X60 l60 y60 z60 st60 hQ60
  subst l60 y60 z60
  obtain ⟨rfl, N60q, e60q⟩ := hQ60
  have N60 := Fr.app N59 N60q
  refine own_tr st60 ?_
  have e60 : T60.heap = h0 := e60q
  show own_Comes p e below s _ _ _ (T60.setTop (mkF m 26 #[.val (.ref r0), .val (.int p1), .val (.ref r2)] [(.ref x)]))
  obtain ⟨T61, X61, e61, st61⟩ := castY X60 hx hZ hown (hw _ (List.mem_of_getElem? (i := 141) rfl)) e60 (Ins.self Ex) (g := (mkF m 26 #[.val (.ref r0), .val (.int p1), .val (.ref r2)] [(.ref x)])) rfl rfl (hb hby d20_26)
  refine own_by st61 ?_
  show own_Comes p e below s _ _ _ (T61.setTop (mkF m 29 #[.val (.ref r0), .val (.int p1), .val (.ref r2)] [(.ref x)]))
  refine own_ret X61 (v := some (.ref x)) (fun h => by rw [Bd.returns] at h; cases h) Bd.notSynchronized (by decide) (by decide) ?_ (fun fs hr => own_reta X61 hx Bd.returns rfl rfl (hb hby d20_29) hr)
  rw [e61]; exact ⟨rfl, N60, rfl⟩
def Q26 (Z : State) (h0 : Heap) (n0 : Nat) (v : Option Value) (h : Heap) (L : List Loc) : Prop := v = some (.int (1 : Int32)) ∧ Fr n0 L ∧ h = h0
theorem ef_rm26 (m : MethodId) (x0 : Addr) (x1 : Addr) : entryFrame m #[(.ref x0), (.ref x1)] 3 = mkF m 0 #[.val (.ref x0), .val (.ref x1), .unset] [] := by first | (simp [entryFrame, mkF, argsToLocals, Value.category]; done) | rfl
theorem pn_java_lang_String : plainName "java/lang/String" = true := by first | (simp [plainName, overriddenIn]; done) | decide +kernel
theorem d26_0 : decode jdk_42_method_66_code 0 = .ok (.aload_n 0, 1) := by decide +kernel
theorem d26_1 : decode jdk_42_method_66_code 1 = .ok (.aload_n 1, 1) := by decide +kernel
theorem d26_2 : decode jdk_42_method_66_code 2 = .ok (.if_acmp .ne 5, 3) := by decide +kernel
theorem d26_5 : decode jdk_42_method_66_code 5 = .ok (.iconst 1, 1) := by decide +kernel
theorem d26_6 : decode jdk_42_method_66_code 6 = .ok (.ireturn, 1) := by decide +kernel
set_option maxRecDepth 65536 in
set_option maxHeartbeats 40000000 in
theorem rm26 (l : Launch) (Z : State) (a0 : Array Value) (hw : ∀ d ∈ tables_1, d.before a0 Z = true) (ws : List Jvm.Cond) (r0 : Addr) (h0 : Heap) (n0 : Nat) (Z0 : n0 ≤ h0.size) :
    MetFree l (⟨"java/lang/String", "equals", "(Ljava/lang/Object;)Z"⟩ : MethodName) (head1 (Jvm.Cond.code (⟨"java/lang/String", "equals", "(Ljava/lang/Object;)Z"⟩ : MethodName) jdk_42_method_66_code 3 (some .boolean) :: ws) ({ frames := 0, cells := 0, slots := 0, locals := 0 } : Room)) (fun aX UX => aX = #[(.ref r0), (.ref r0)] ∧ Z.Warmed39 UX.vm ∧ UX.heap = h0) (fun _ _ _ _ _ => True) (fun _ UX oX UX' => ∃ vX LX, oX = .returned vX ∧ Q26 Z  h0 n0 vX UX'.heap LX ∧ FrameEnd UX oX UX' LX ({ frames := 0, cells := 0, slots := 0, locals := 0 } : Room).cells ({ frames := 0, cells := 0, slots := 0, locals := 0 } : Room).slots) := by
  refine MetFree.of_bodySF (plainFor_of_name pn_java_lang_String) hisR ?_
  intro p e s m args below meth c s₁ Bd hml0 hP hK
  obtain ⟨rfl, hZ, hh⟩ := hP
  have hx := Bd.exec
  have hby := Bd.bytes
  have hml : c.maxLocals = 3 := hml0
  have hown : s.vm.findClass "java/lang/String" = some m.cls := findClass_of_methodNamed Bd.named
  have hnm := (name_of_methodNamed Bd.named Bd.method).1
  have X0 : Stand p l e ({ frames := 0, cells := 0, slots := 0, locals := 0 } : Room) s m #[(.ref r0), (.ref r0)] below meth c s₁ [] 0 0 := Stand.of_body Bd
  have e0 : s₁.heap = h0 := by rw [← hh, Bd.state]; rfl
  have N0 := Fr.nil n0
  show own_Comes p e below s ({ frames := 0, cells := 0, slots := 0, locals := 0 } : Room).cells ({ frames := 0, cells := 0, slots := 0, locals := 0 } : Room).slots (Q26 Z  h0 n0) _
  rw [show entryFrame m #[(.ref r0), (.ref r0)] 3 = mkF m 0 #[.val (.ref r0), .val (.ref r0), .unset] [] from ef_rm26 m r0 r0]
  show own_Comes p e below s _ _ _ (s₁.setTop (mkF m 0 #[.val (.ref r0), .val (.ref r0), .unset] []))
  refine own_by (fun _ kS => XS.aloadN X0.here hx rfl (hb hby d26_0) rfl rfl kS) ?_
  show own_Comes p e below s _ _ _ (s₁.setTop (mkF m 1 #[.val (.ref r0), .val (.ref r0), .unset] [(.ref r0)]))
  refine own_by (fun _ kS => XS.aloadN X0.here hx rfl (hb hby d26_1) rfl rfl kS) ?_
  show own_Comes p e below s _ _ _ (s₁.setTop (mkF m 2 #[.val (.ref r0), .val (.ref r0), .unset] [(.ref r0), (.ref r0)]))
  refine own_by (fun _ kS => Jvm.RoadKit.acmp (g := (mkF m 2 #[.val (.ref r0), .val (.ref r0), .unset] [(.ref r0), (.ref r0)])) X0 hx rfl rfl rfl (pc0 := 2) (pc' := 5) (same := true) rfl (hb hby d26_2) rfl (decide_eq_true rfl) (by decide) (by decide) kS) ?_
  show own_Comes p e below s _ _ _ (s₁.setTop (mkF m 5 #[.val (.ref r0), .val (.ref r0), .unset] []))
  refine own_by (fun _ kS => XS.iconst X0.here hx rfl (hb hby d26_5) kS) ?_
  show own_Comes p e below s _ _ _ (s₁.setTop (mkF m 6 #[.val (.ref r0), .val (.ref r0), .unset] [(.int (1 : Int32))]))
  refine own_ret X0 (v := some (.int (1 : Int32))) (fun h => by rw [Bd.returns] at h; cases h) Bd.notSynchronized (by decide) (by decide) ?_ (fun fs hr => retN X0 hx (t := .boolean) Bd.returns (by simp) (hb hby d26_6) hr)
  rw [e0]; exact ⟨rfl, N0, rfl⟩
def Q19 (Z : State) (r0 : Addr) (h0 : Heap) (n0 : Nat) (v : Option Value) (h : Heap) (L : List Loc) : Prop := v = none ∧ Fr n0 L ∧ Keep h0 h [r0]
theorem ef_rm19 (m : MethodId) (x0 : Addr) (x1 : Addr) (x2 : Int32) : entryFrame m #[(.ref x0), (.ref x1), (.int x2)] 3 = mkF m 0 #[.val (.ref x0), .val (.ref x1), .val (.int x2)] [] := by first | (simp [entryFrame, mkF, argsToLocals, Value.category]; done) | rfl
theorem d19_0 : decode jdk_42_method_151_code 0 = .ok (.aload_n 0, 1) := by decide +kernel
theorem d19_1 : decode jdk_42_method_151_code 1 = .ok (.invokespecial 1, 3) := by decide +kernel
theorem d19_4 : decode jdk_42_method_151_code 4 = .ok (.aload_n 0, 1) := by decide +kernel
theorem d19_5 : decode jdk_42_method_151_code 5 = .ok (.aload_n 1, 1) := by decide +kernel
theorem d19_6 : decode jdk_42_method_151_code 6 = .ok (.putfield 9, 3) := by decide +kernel
theorem d19_9 : decode jdk_42_method_151_code 9 = .ok (.aload_n 0, 1) := by decide +kernel
theorem d19_10 : decode jdk_42_method_151_code 10 = .ok (.iload_n 2, 1) := by decide +kernel
theorem d19_11 : decode jdk_42_method_151_code 11 = .ok (.putfield 15, 3) := by decide +kernel
theorem d19_14 : decode jdk_42_method_151_code 14 = .ok (.return_, 1) := by decide +kernel
set_option maxRecDepth 65536 in
set_option maxHeartbeats 40000000 in
theorem rm19 (l : Launch) (Z : State) (a0 : Array Value) (hw : ∀ d ∈ tables_1, d.before a0 Z = true) (ws : List Jvm.Cond) (r0 r1 : Addr) (v1 v2 : Value) (h0 : Heap) (n0 : Nat) (Z0 : n0 ≤ h0.size) (Et : Exa Z h0 r0 "java/lang/String") (Fv : Fld Z h0 r0 "java/lang/String" "value" "[B" v1) (Fc : Fld Z h0 r0 "java/lang/String" "coder" "B" v2) (g_r0 : n0 ≤ r0) :
    MetFree l (⟨"java/lang/String", "<init>", "([BB)V"⟩ : MethodName) (head1 (Jvm.Cond.code (⟨"java/lang/String", "<init>", "([BB)V"⟩ : MethodName) jdk_42_method_151_code 3 none :: ws) ({ frames := 1, cells := 0, slots := 0, locals := 12 } : Room)) (fun aX UX => aX = #[(.ref r0), (.ref r1), (.int (0 : Int32))] ∧ Z.Warmed39 UX.vm ∧ UX.heap = h0) (fun _ _ _ _ _ => True) (fun _ UX oX UX' => ∃ vX LX, oX = .returned vX ∧ Q19 Z r0 h0 n0 vX UX'.heap LX ∧ FrameEnd UX oX UX' LX ({ frames := 1, cells := 0, slots := 0, locals := 12 } : Room).cells ({ frames := 1, cells := 0, slots := 0, locals := 12 } : Room).slots) := by
  refine MetFree.of_bodySF (plainFor_of_name pn_java_lang_String) hisR ?_
  intro p e s m args below meth c s₁ Bd hml0 hP hK
  obtain ⟨rfl, hZ, hh⟩ := hP
  have hx := Bd.exec
  have hby := Bd.bytes
  have hml : c.maxLocals = 3 := hml0
  have hown : s.vm.findClass "java/lang/String" = some m.cls := findClass_of_methodNamed Bd.named
  have hnm := (name_of_methodNamed Bd.named Bd.method).1
  have X0 : Stand p l e ({ frames := 1, cells := 0, slots := 0, locals := 12 } : Room) s m #[(.ref r0), (.ref r1), (.int (0 : Int32))] below meth c s₁ [] 0 0 := Stand.of_body Bd
  have e0 : s₁.heap = h0 := by rw [← hh, Bd.state]; rfl
  have N0 := Fr.nil n0
  show own_Comes p e below s ({ frames := 1, cells := 0, slots := 0, locals := 12 } : Room).cells ({ frames := 1, cells := 0, slots := 0, locals := 12 } : Room).slots (Q19 Z r0 h0 n0) _
  rw [show entryFrame m #[(.ref r0), (.ref r1), (.int (0 : Int32))] 3 = mkF m 0 #[.val (.ref r0), .val (.ref r1), .val (.int (0 : Int32))] [] from ef_rm19 m r0 r1 (0 : Int32)]
  show own_Comes p e below s _ _ _ (s₁.setTop (mkF m 0 #[.val (.ref r0), .val (.ref r1), .val (.int (0 : Int32))] []))
  refine own_by (fun _ kS => XS.aloadN X0.here hx rfl (hb hby d19_0) rfl rfl kS) ?_
  show own_Comes p e below s _ _ _ (s₁.setTop (mkF m 1 #[.val (.ref r0), .val (.ref r1), .val (.int (0 : Int32))] [(.ref r0)]))
  obtain ⟨T62, X62, e62, st62⟩ := initO X0 hx hZ hown (hw _ (List.mem_of_getElem? (i := 16) rfl)) (hw _ (List.mem_of_getElem? (i := 17) rfl)) (hw _ (List.mem_of_getElem? (i := 18) rfl)) e0 (g := (mkF m 1 #[.val (.ref r0), .val (.ref r1), .val (.int (0 : Int32))] [(.ref r0)])) rfl (by rw [hml]; rfl) rfl (hb hby d19_1) (by decide) (W := 0) (by show 2 * 0 + _ ≤ _; exact Nat.le_of_eq rfl) (by decide)
  refine own_by st62 ?_
  show own_Comes p e below s _ _ _ (T62.setTop (mkF m 4 #[.val (.ref r0), .val (.ref r1), .val (.int (0 : Int32))] []))
  refine own_by (fun _ kS => XS.aloadN X62.here hx rfl (hb hby d19_4) rfl rfl kS) ?_
  show own_Comes p e below s _ _ _ (T62.setTop (mkF m 5 #[.val (.ref r0), .val (.ref r1), .val (.int (0 : Int32))] [(.ref r0)]))
  refine own_by (fun _ kS => XS.aloadN X62.here hx rfl (hb hby d19_5) rfl rfl kS) ?_
  show own_Comes p e below s _ _ _ (T62.setTop (mkF m 6 #[.val (.ref r0), .val (.ref r1), .val (.int (0 : Int32))] [(.ref r1), (.ref r0)]))
  obtain ⟨T63, h63, X63, e63, W63, st63⟩ := putF X62 hx hZ hown (host := "") (Or.inl (hw _ (List.mem_of_getElem? (i := 33) rfl))) Via.refl e62 Fv Et (Or.inr ⟨(hw _ (List.mem_of_getElem? (i := 34) rfl)), rfl, hnm⟩) (hw _ (List.mem_of_getElem? (i := 7) rfl)) (ty := (.array .byte)) (by decide) rfl rfl (g := (mkF m 6 #[.val (.ref r0), .val (.ref r1), .val (.int (0 : Int32))] [(.ref r1), (.ref r0)])) rfl rfl (hb hby d19_6)
  refine own_by st63 ?_
  have Fw63 := Fv.same W63
  have N63 := Fr.snoc X63 N0 g_r0
  show own_Comes p e below s _ _ _ (T63.setTop (mkF m 9 #[.val (.ref r0), .val (.ref r1), .val (.int (0 : Int32))] []))
  refine own_by (fun _ kS => XS.aloadN X63.here hx rfl (hb hby d19_9) rfl rfl kS) ?_
  show own_Comes p e below s _ _ _ (T63.setTop (mkF m 10 #[.val (.ref r0), .val (.ref r1), .val (.int (0 : Int32))] [(.ref r0)]))
  refine own_by (fun _ kS => XS.iloadN X63.here hx rfl (hb hby d19_10) rfl kS) ?_
  show own_Comes p e below s _ _ _ (T63.setTop (mkF m 11 #[.val (.ref r0), .val (.ref r1), .val (.int (0 : Int32))] [(.int (0 : Int32)), (.ref r0)]))
  have c64 := (Fc.other W63 (Or.inr (slot_ne (Or.inr (hw _ (List.mem_of_getElem? (i := 32) rfl))) (Or.inr (hw _ (List.mem_of_getElem? (i := 34) rfl))) (by decide) (t := .byte) (t' := (.array .byte)) (by decide) (by decide))))
  obtain ⟨T65, h65, X65, e65, W65, st65⟩ := putFN X63 hx hZ hown (hw _ (List.mem_of_getElem? (i := 31) rfl)) Via.refl e63 c64 (Et.wr W63) (Or.inr ⟨(hw _ (List.mem_of_getElem? (i := 32) rfl)), rfl, hnm⟩) (hw _ (List.mem_of_getElem? (i := 7) rfl)) (ty := .byte) (v' := (.int (0 : Int32))) (by decide) rfl (by first | rfl | decide | exact fits_nar_byte _) (g := (mkF m 11 #[.val (.ref r0), .val (.ref r1), .val (.int (0 : Int32))] [(.int (0 : Int32)), (.ref r0)])) rfl rfl (hb hby d19_11)
  refine own_by st65 ?_
  have Fw65 := c64.same W65
  have N65 := Fr.snoc X65 N63 g_r0
  show own_Comes p e below s _ _ _ (T65.setTop (mkF m 14 #[.val (.ref r0), .val (.ref r1), .val (.int (0 : Int32))] []))
  refine own_ret X65 (v := none) (fun _ => rfl) Bd.notSynchronized (by decide) (by decide) ?_ (fun fs hr => X65.returnOut hx Bd.returns (hb hby d19_14) hr)
  rw [e65]; exact ⟨rfl, N65, (((Keep.refl _ _).wr W63 (Or.inl (List.mem_of_getElem? (i := 0) rfl))).wr W65 (Or.inl (List.mem_of_getElem? (i := 0) rfl)))⟩
def Q17 (Z : State) (h0 : Heap) (n0 : Nat) (v : Option Value) (h : Heap) (L : List Loc) : Prop := v = some (.int (1 : Int32)) ∧ Fr n0 L ∧ h = h0
theorem ef_rm17 (m : MethodId) (x0 : Int32) : entryFrame m #[(.int x0)] 1 = mkF m 0 #[.val (.int x0)] [] := by first | (simp [entryFrame, mkF, argsToLocals, Value.category]; done) | rfl
theorem pn_java_lang_StringLatin1 : plainName "java/lang/StringLatin1" = true := by first | (simp [plainName, overriddenIn]; done) | decide +kernel
theorem d17_0 : decode jdk_43_method_3_code 0 = .ok (.iload_n 0, 1) := by decide +kernel
theorem d17_1 : decode jdk_43_method_3_code 1 = .ok (.sipush 255, 3) := by decide +kernel
theorem d17_4 : decode jdk_43_method_3_code 4 = .ok (.if_icmp .gt 7, 3) := by decide +kernel
theorem d17_7 : decode jdk_43_method_3_code 7 = .ok (.iconst 1, 1) := by decide +kernel
theorem d17_8 : decode jdk_43_method_3_code 8 = .ok (.goto 4, 3) := by decide +kernel
theorem d17_12 : decode jdk_43_method_3_code 12 = .ok (.ireturn, 1) := by decide +kernel
set_option maxRecDepth 65536 in
set_option maxHeartbeats 40000000 in
theorem rm17 (l : Launch) (Z : State) (a0 : Array Value) (hw : ∀ d ∈ tables_1, d.before a0 Z = true) (ws : List Jvm.Cond) (p0 : Int32) (h0 : Heap) (n0 : Nat) (Z0 : n0 ≤ h0.size) (k1 : ¬ (255 : Int32) < p0) :
    MetFree l (⟨"java/lang/StringLatin1", "canEncode", "(C)Z"⟩ : MethodName) (head1 (Jvm.Cond.code (⟨"java/lang/StringLatin1", "canEncode", "(C)Z"⟩ : MethodName) jdk_43_method_3_code 1 (some .boolean) :: ws) ({ frames := 0, cells := 0, slots := 0, locals := 0 } : Room)) (fun aX UX => aX = #[(.int p0)] ∧ Z.Warmed39 UX.vm ∧ UX.heap = h0) (fun _ _ _ _ _ => True) (fun _ UX oX UX' => ∃ vX LX, oX = .returned vX ∧ Q17 Z  h0 n0 vX UX'.heap LX ∧ FrameEnd UX oX UX' LX ({ frames := 0, cells := 0, slots := 0, locals := 0 } : Room).cells ({ frames := 0, cells := 0, slots := 0, locals := 0 } : Room).slots) := by
  refine MetFree.of_bodySF (plainFor_of_name pn_java_lang_StringLatin1) hisR ?_
  intro p e s m args below meth c s₁ Bd hml0 hP hK
  obtain ⟨rfl, hZ, hh⟩ := hP
  have hx := Bd.exec
  have hby := Bd.bytes
  have hml : c.maxLocals = 1 := hml0
  have hown : s.vm.findClass "java/lang/StringLatin1" = some m.cls := findClass_of_methodNamed Bd.named
  have hnm := (name_of_methodNamed Bd.named Bd.method).1
  have X0 : Stand p l e ({ frames := 0, cells := 0, slots := 0, locals := 0 } : Room) s m #[(.int p0)] below meth c s₁ [] 0 0 := Stand.of_body Bd
  have e0 : s₁.heap = h0 := by rw [← hh, Bd.state]; rfl
  have N0 := Fr.nil n0
  show own_Comes p e below s ({ frames := 0, cells := 0, slots := 0, locals := 0 } : Room).cells ({ frames := 0, cells := 0, slots := 0, locals := 0 } : Room).slots (Q17 Z  h0 n0) _
  rw [show entryFrame m #[(.int p0)] 1 = mkF m 0 #[.val (.int p0)] [] from ef_rm17 m p0]
  show own_Comes p e below s _ _ _ (s₁.setTop (mkF m 0 #[.val (.int p0)] []))
  refine own_by (fun _ kS => XS.iloadN X0.here hx rfl (hb hby d17_0) rfl kS) ?_
  show own_Comes p e below s _ _ _ (s₁.setTop (mkF m 1 #[.val (.int p0)] [(.int p0)]))
  refine own_by (fun _ kS => XS.sipush X0.here hx rfl (hb hby d17_1) kS) ?_
  show own_Comes p e below s _ _ _ (s₁.setTop (mkF m 4 #[.val (.int p0)] [(.int (255 : Int32)), (.int p0)]))
  refine own_by (fun _ kS => XS.icmpNo X0.here hx rfl (hb hby d17_4) rfl (flt k1).2.2.1 kS) ?_
  show own_Comes p e below s _ _ _ (s₁.setTop (mkF m 7 #[.val (.int p0)] []))
  refine own_by (fun _ kS => XS.iconst X0.here hx rfl (hb hby d17_7) kS) ?_
  show own_Comes p e below s _ _ _ (s₁.setTop (mkF m 8 #[.val (.int p0)] [(.int (1 : Int32))]))
  refine own_by (fun _ kS => XS.goto X0.here hx rfl (pc0 := 8) (pc' := 12) rfl (hb hby d17_8) (by decide) (by decide) kS) ?_
  show own_Comes p e below s _ _ _ (s₁.setTop (mkF m 12 #[.val (.int p0)] [(.int (1 : Int32))]))
  refine own_ret X0 (v := some (.int (1 : Int32))) (fun h => by rw [Bd.returns] at h; cases h) Bd.notSynchronized (by decide) (by decide) ?_ (fun fs hr => retN X0 hx (t := .boolean) Bd.returns (by simp) (hb hby d17_12) hr)
  rw [e0]; exact ⟨rfl, N0, rfl⟩
def Q18 (Z : State) (h0 : Heap) (n0 : Nat) (v : Option Value) (h : Heap) (L : List Loc) : Prop := ∃ a : Addr, v = some (.ref a) ∧ Fr n0 L ∧ Ext h0 h
theorem ef_rm18 (m : MethodId) (x0 : Int32) : entryFrame m #[(.int x0)] 1 = mkF m 0 #[.val (.int x0)] [] := by first | (simp [entryFrame, mkF, argsToLocals, Value.category]; done) | rfl
theorem d18_0 : decode jdk_43_method_46_code 0 = .ok (.iconst 1, 1) := by decide +kernel
theorem d18_1 : decode jdk_43_method_46_code 1 = .ok (.newarray .byte, 2) := by decide +kernel
theorem d18_3 : decode jdk_43_method_46_code 3 = .ok (.dup, 1) := by decide +kernel
theorem d18_4 : decode jdk_43_method_46_code 4 = .ok (.iconst 0, 1) := by decide +kernel
theorem d18_5 : decode jdk_43_method_46_code 5 = .ok (.iload_n 0, 1) := by decide +kernel
theorem d18_6 : decode jdk_43_method_46_code 6 = .ok (.i2b, 1) := by decide +kernel
theorem d18_7 : decode jdk_43_method_46_code 7 = .ok (.bastore, 1) := by decide +kernel
theorem d18_8 : decode jdk_43_method_46_code 8 = .ok (.areturn, 1) := by decide +kernel
set_option maxRecDepth 65536 in
set_option maxHeartbeats 40000000 in
theorem rm18 (l : Launch) (Z : State) (a0 : Array Value) (hw : ∀ d ∈ tables_1, d.before a0 Z = true) (ws : List Jvm.Cond) (p0 : Int32) (h0 : Heap) (n0 : Nat) (Z0 : n0 ≤ h0.size) :
    MetFree l (⟨"java/lang/StringLatin1", "toBytes", "(C)[B"⟩ : MethodName) (head1 (Jvm.Cond.code (⟨"java/lang/StringLatin1", "toBytes", "(C)[B"⟩ : MethodName) jdk_43_method_46_code 1 (some (.array .byte)) :: ws) ({ frames := 0, cells := 1, slots := 1, locals := 0 } : Room)) (fun aX UX => aX = #[(.int p0)] ∧ Z.Warmed39 UX.vm ∧ UX.heap = h0) (fun _ _ _ _ _ => True) (fun _ UX oX UX' => ∃ vX LX, oX = .returned vX ∧ Q18 Z  h0 n0 vX UX'.heap LX ∧ FrameEnd UX oX UX' LX ({ frames := 0, cells := 1, slots := 1, locals := 0 } : Room).cells ({ frames := 0, cells := 1, slots := 1, locals := 0 } : Room).slots) := by
  refine MetFree.of_bodySF (plainFor_of_name pn_java_lang_StringLatin1) hisR ?_
  intro p e s m args below meth c s₁ Bd hml0 hP hK
  obtain ⟨rfl, hZ, hh⟩ := hP
  have hx := Bd.exec
  have hby := Bd.bytes
  have hml : c.maxLocals = 1 := hml0
  have hown : s.vm.findClass "java/lang/StringLatin1" = some m.cls := findClass_of_methodNamed Bd.named
  have hnm := (name_of_methodNamed Bd.named Bd.method).1
  have X0 : Stand p l e ({ frames := 0, cells := 1, slots := 1, locals := 0 } : Room) s m #[(.int p0)] below meth c s₁ [] 0 0 := Stand.of_body Bd
  have e0 : s₁.heap = h0 := by rw [← hh, Bd.state]; rfl
  have N0 := Fr.nil n0
  show own_Comes p e below s ({ frames := 0, cells := 1, slots := 1, locals := 0 } : Room).cells ({ frames := 0, cells := 1, slots := 1, locals := 0 } : Room).slots (Q18 Z  h0 n0) _
  rw [show entryFrame m #[(.int p0)] 1 = mkF m 0 #[.val (.int p0)] [] from ef_rm18 m p0]
  show own_Comes p e below s _ _ _ (s₁.setTop (mkF m 0 #[.val (.int p0)] []))
  refine own_by (fun _ kS => XS.iconst X0.here hx rfl (hb hby d18_0) kS) ?_
  show own_Comes p e below s _ _ _ (s₁.setTop (mkF m 1 #[.val (.int p0)] [(.int (1 : Int32))]))
  obtain ⟨T66, h66, k66, X66, e66, E66, A66, st66⟩ := newP X0 hx hZ (hw _ (List.mem_of_getElem? (i := 24) rfl)) e0 (g := (mkF m 1 #[.val (.int p0)] [(.int (1 : Int32))])) rfl (hb hby d18_1) rfl (by decide) (cap := 1) (by decide) (by decide) (by decide) (by decide)
  obtain ⟨b66, g66⟩ : ∃ z, z = h0.size := ⟨_, rfl⟩
  rw [← g66] at A66 st66
  have g_b66 : n0 ≤ b66 := Nat.le_trans Z0 (Nat.le_of_eq g66.symm)
  refine own_by st66 ?_
  have V_b66 : Arv Z h66 b66 k66 .byte (1 : Int32) [(.int (0 : Int32))] (.int (0 : Int32)) := (Arv.new A66 (by decide)).pad (pad_rep [] (.int (0 : Int32)) 1)
  show own_Comes p e below s _ _ _ (T66.setTop (mkF m 3 #[.val (.int p0)] [(.ref b66)]))
  have sz_b66 : h0.size ≤ b66 := Nat.le_trans (Keep.refl h0 []).1 (Nat.le_of_eq g66.symm)
  refine own_by (fun _ kS => XS.dup X66.here hx rfl (hb hby d18_3) rfl rfl kS) ?_
  show own_Comes p e below s _ _ _ (T66.setTop (mkF m 4 #[.val (.int p0)] [(.ref b66), (.ref b66)]))
  refine own_by (fun _ kS => XS.iconst X66.here hx rfl (hb hby d18_4) kS) ?_
  show own_Comes p e below s _ _ _ (T66.setTop (mkF m 5 #[.val (.int p0)] [(.int (0 : Int32)), (.ref b66), (.ref b66)]))
  refine own_by (fun _ kS => XS.iloadN X66.here hx rfl (hb hby d18_5) rfl kS) ?_
  show own_Comes p e below s _ _ _ (T66.setTop (mkF m 6 #[.val (.int p0)] [(.int p0), (.int (0 : Int32)), (.ref b66), (.ref b66)]))
  refine own_by (fun _ kS => XS.i2b X66.here hx rfl (hb hby d18_6) rfl kS) ?_
  show own_Comes p e below s _ _ _ (T66.setTop (mkF m 7 #[.val (.int p0)] [(.int (p0.toInt8.toInt32)), (.int (0 : Int32)), (.ref b66), (.ref b66)]))
  have Vo67 := V_b66
  obtain ⟨cl67, Ar67, qA67, SA67, NA67, HA67, GA67⟩ := Vo67
  have hin67 : ¬ ((0 : Int32) < 0 ∨ cl67.slots.size ≤ ((0 : Int32)).toNatClampNeg) := inb_of SA67 ⟨by decide, by decide⟩
  obtain ⟨T68, h68, X68, e68, W68, st68⟩ := stB X66 hx hZ e66 Ar67 (j := (0 : Int32)) hin67 (g := (mkF m 7 #[.val (.int p0)] [(.int (p0.toInt8.toInt32)), (.int (0 : Int32)), (.ref b66), (.ref b66)])) rfl rfl (hb hby d18_7)
  refine own_by st68 ?_
  have V68 : Arv Z h68 b66 k66 .byte (1 : Int32) [(.int (p0.toInt8.toInt32.toInt8.toInt32))] (.int (0 : Int32)) := Arv.set Ar67 qA67 SA67 NA67 HA67 GA67 (by first | rfl | exact fits_nar_byte _) W68 0 rfl (Nat.le_of_ble_eq_true rfl)
  have N68 := Fr.snoc X68 N0 g_b66
  show own_Comes p e below s _ _ _ (T68.setTop (mkF m 8 #[.val (.int p0)] [(.ref b66)]))
  refine own_ret X68 (v := some (.ref b66)) (fun h => by rw [Bd.returns] at h; cases h) Bd.notSynchronized (by decide) (by decide) ?_ (fun fs hr => own_reta X68 hx Bd.returns rfl rfl (hb hby d18_8) hr)
  rw [e68]; exact ⟨_, rfl, N68, own_ext (((Keep.refl _ _).ext E66).wr W68 (Or.inr sz_b66))⟩
def Q16 (Z : State) (h0 : Heap) (n0 : Nat) (v : Option Value) (h : Heap) (L : List Loc) : Prop := ∃ a : Addr, v = some (.ref a) ∧ Fr n0 L ∧ Ext h0 h ∧ Exa Z h a "java/lang/String"
theorem ef_rm16 (m : MethodId) (x0 : Int32) : entryFrame m #[(.int x0)] 1 = mkF m 0 #[.val (.int x0)] [] := by first | (simp [entryFrame, mkF, argsToLocals, Value.category]; done) | rfl
theorem d16_0 : decode jdk_42_method_139_code 0 = .ok (.getstatic 38, 3) := by decide +kernel
theorem d16_3 : decode jdk_42_method_139_code 3 = .ok (.ifCond .eq 23, 3) := by decide +kernel
theorem d16_6 : decode jdk_42_method_139_code 6 = .ok (.iload_n 0, 1) := by decide +kernel
theorem pd__C_Z_238 : parseMethodDescriptor "(C)Z" = some ⟨[.char], some .boolean⟩ := by decide +kernel
theorem d16_7 : decode jdk_42_method_139_code 7 = .ok (.invokestatic 1015, 3) := by decide +kernel
theorem d16_10 : decode jdk_42_method_139_code 10 = .ok (.ifCond .eq 16, 3) := by decide +kernel
theorem d16_13 : decode jdk_42_method_139_code 13 = .ok (.new 10, 3) := by decide +kernel
theorem d16_16 : decode jdk_42_method_139_code 16 = .ok (.dup, 1) := by decide +kernel
theorem d16_17 : decode jdk_42_method_139_code 17 = .ok (.iload_n 0, 1) := by decide +kernel
theorem pd__C__B_305 : parseMethodDescriptor "(C)[B" = some ⟨[.char], some (.array .byte)⟩ := by decide +kernel
theorem d16_18 : decode jdk_42_method_139_code 18 = .ok (.invokestatic 1018, 3) := by decide +kernel
theorem d16_21 : decode jdk_42_method_139_code 21 = .ok (.iconst 0, 1) := by decide +kernel
theorem pd___BB_V_390 : parseMethodDescriptor "([BB)V" = some ⟨[(.array .byte), .byte], none⟩ := by decide +kernel
theorem d16_22 : decode jdk_42_method_139_code 22 = .ok (.invokespecial 209, 3) := by decide +kernel
theorem d16_25 : decode jdk_42_method_139_code 25 = .ok (.areturn, 1) := by decide +kernel
set_option maxRecDepth 65536 in
set_option maxHeartbeats 40000000 in
theorem rm16 (l : Launch) (Z : State) (a0 : Array Value) (hw : ∀ d ∈ tables_1, d.before a0 Z = true) (ws : List Jvm.Cond) (p0 zc : Int32) (h0 : Heap) (n0 : Nat) (Z0 : n0 ≤ h0.size) (k1 : ¬ (255 : Int32) < p0) (O0 : Old Z n0 h0) (Sz : Sta Z Z.heap "java/lang/String" "COMPACT_STRINGS" "Z" (.int zc)) (hzc : ¬ zc = 0) :
    MetFree l (⟨"java/lang/String", "valueOf", "(C)Ljava/lang/String;"⟩ : MethodName) (head1 (Jvm.Cond.code (⟨"java/lang/String", "valueOf", "(C)Ljava/lang/String;"⟩ : MethodName) jdk_42_method_139_code 1 (some (.object "java/lang/String")) :: ws) ({ frames := 2, cells := 2, slots := 5, locals := 27 } : Room)) (fun aX UX => aX = #[(.int p0)] ∧ Z.Warmed39 UX.vm ∧ UX.heap = h0) (fun _ _ _ _ _ => True) (fun _ UX oX UX' => ∃ vX LX, oX = .returned vX ∧ Q16 Z  h0 n0 vX UX'.heap LX ∧ FrameEnd UX oX UX' LX ({ frames := 2, cells := 2, slots := 5, locals := 27 } : Room).cells ({ frames := 2, cells := 2, slots := 5, locals := 27 } : Room).slots) := by
  refine MetFree.of_bodySF (plainFor_of_name pn_java_lang_String) hisR ?_
  intro p e s m args below meth c s₁ Bd hml0 hP hK
  obtain ⟨rfl, hZ, hh⟩ := hP
  have hx := Bd.exec
  have hby := Bd.bytes
  have hml : c.maxLocals = 1 := hml0
  have hown : s.vm.findClass "java/lang/String" = some m.cls := findClass_of_methodNamed Bd.named
  have hnm := (name_of_methodNamed Bd.named Bd.method).1
  have X0 : Stand p l e ({ frames := 2, cells := 2, slots := 5, locals := 27 } : Room) s m #[(.int p0)] below meth c s₁ [] 0 0 := Stand.of_body Bd
  have e0 : s₁.heap = h0 := by rw [← hh, Bd.state]; rfl
  have N0 := Fr.nil n0
  show own_Comes p e below s ({ frames := 2, cells := 2, slots := 5, locals := 27 } : Room).cells ({ frames := 2, cells := 2, slots := 5, locals := 27 } : Room).slots (Q16 Z  h0 n0) _
  rw [show entryFrame m #[(.int p0)] 1 = mkF m 0 #[.val (.int p0)] [] from ef_rm16 m p0]
  show own_Comes p e below s _ _ _ (s₁.setTop (mkF m 0 #[.val (.int p0)] []))
  obtain ⟨T69, X69, e69, st69⟩ := getS2 X0 hx hZ hown (host := "") (Or.inl (hw _ (List.mem_of_getElem? (i := 19) rfl))) Via.refl e0 (Sz.ext O0.2) (g := (mkF m 0 #[.val (.int p0)] [])) rfl (hb hby d16_0)
  refine own_by st69 ?_
  show own_Comes p e below s _ _ _ (T69.setTop (mkF m 3 #[.val (.int p0)] [(.int zc)]))
  refine own_by (fun _ kS => XS.ifNo X69.here hx rfl (hb hby d16_3) rfl ((if0 _ _).trans (feq hzc).1) kS) ?_
  show own_Comes p e below s _ _ _ (T69.setTop (mkF m 6 #[.val (.int p0)] []))
  refine own_by (fun _ kS => XS.iloadN X69.here hx rfl (hb hby d16_6) rfl kS) ?_
  show own_Comes p e below s _ _ _ (T69.setTop (mkF m 7 #[.val (.int p0)] [(.int p0)]))
  obtain ⟨_, _, ⟨T70, L70, k70, n70⟩, -, X70, ⟨Lc70, hQ70, l70, y70, z70⟩, st70⟩ := Jvm.LawKit.callS X69 hx (y := (⟨"java/lang/StringLatin1", "canEncode", "(C)Z"⟩ : MethodName)) hown (mvT hZ (hw _ (List.mem_of_getElem? (i := 97) rfl))) (mvT hZ (hw _ (List.mem_of_getElem? (i := 98) rfl))) (mvT hZ (hw _ (List.mem_of_getElem? (i := 99) rfl))) (mvT hZ (hw _ (List.mem_of_getElem? (i := 100) rfl))) (by decide) (backOf (W := 0) (rm17 l Z a0 hw [] p0 h0 n0 Z0 k1) hZ (hw _ (List.mem_of_getElem? (i := 100) rfl)) (hw _ (List.mem_of_getElem? (i := 99) rfl)) (by decide) (by decide)) (g := (mkF m 7 #[.val (.int p0)] [(.int p0)])) rfl (by rw [hml]; rfl) (argsL := [(.int p0)]) (rest := []) (lenOf pd__C_Z_238 rfl) rfl (by show 2 * 0 + _ ≤ _; exact Nat.le_of_eq rfl) (hb hby d16_7) (fun _ _ => ⟨rfl, e69, (by decide : 0 + 0 ≤ _), (by decide : 0 + 0 ≤ _)⟩)
  dsimp only [Pt.U, Pt.locs, Pt.cells, Pt.slots] at X70 l70 y70 z70 st70 hQ70
  subst l70 y70 z70
  obtain ⟨rfl, N70q, e70q⟩ := hQ70
  have N70 := Fr.app N0 N70q
  refine own_by st70 ?_
  have e70 : T70.heap = h0 := e70q
  show own_Comes p e below s _ _ _ (T70.setTop (mkF m 10 #[.val (.int p0)] [(.int (1 : Int32))]))
  have hb71 : ¬ ((1 : Int32) = (0 : Int32)) := by decide
  refine own_by (fun _ kS => XS.ifNo X70.here hx rfl (hb hby d16_10) rfl ((if0 _ _).trans (feq hb71).1) kS) ?_
  show own_Comes p e below s _ _ _ (T70.setTop (mkF m 13 #[.val (.int p0)] []))
  obtain ⟨T72, h72, X72, e72, E72, A72, D72, -, st72⟩ := newO X70 hx hZ hown (hw _ (List.mem_of_getElem? (i := 101) rfl)) (hw _ (List.mem_of_getElem? (i := 7) rfl)) (hw _ (List.mem_of_getElem? (i := 8) rfl)) e70 (g := (mkF m 13 #[.val (.int p0)] [])) rfl (hb hby d16_13) (by decide) (by decide)
  obtain ⟨b72, g72⟩ : ∃ z, z = h0.size := ⟨_, rfl⟩
  rw [← g72] at A72 D72 st72
  have g_b72 : n0 ≤ b72 := Nat.le_trans Z0 (Nat.le_of_eq g72.symm)
  refine own_by st72 ?_
  show own_Comes p e below s _ _ _ (T72.setTop (mkF m 16 #[.val (.int p0)] [(.ref b72)]))
  refine own_by (fun _ kS => XS.dup X72.here hx rfl (hb hby d16_16) rfl rfl kS) ?_
  show own_Comes p e below s _ _ _ (T72.setTop (mkF m 17 #[.val (.int p0)] [(.ref b72), (.ref b72)]))
  refine own_by (fun _ kS => XS.iloadN X72.here hx rfl (hb hby d16_17) rfl kS) ?_
  show own_Comes p e below s _ _ _ (T72.setTop (mkF m 18 #[.val (.int p0)] [(.int p0), (.ref b72), (.ref b72)]))
  have sz_b72 : h0.size ≤ b72 := Nat.le_trans (Keep.refl h0 []).1 (Nat.le_of_eq g72.symm)
  obtain ⟨_, _, ⟨T73, L73, k73, n73⟩, -, X73, ⟨Lc73, hQ73, l73, y73, z73⟩, st73⟩ := Jvm.LawKit.callS X72 hx (y := (⟨"java/lang/StringLatin1", "toBytes", "(C)[B"⟩ : MethodName)) hown (mvT hZ (hw _ (List.mem_of_getElem? (i := 102) rfl))) (mvT hZ (hw _ (List.mem_of_getElem? (i := 103) rfl))) (mvT hZ (hw _ (List.mem_of_getElem? (i := 99) rfl))) (mvT hZ (hw _ (List.mem_of_getElem? (i := 104) rfl))) (by decide) (backOf (W := 2) (rm18 l Z a0 hw [] p0 h72 n0 (Nat.le_trans Z0 E72.1)) hZ (hw _ (List.mem_of_getElem? (i := 104) rfl)) (hw _ (List.mem_of_getElem? (i := 99) rfl)) (by decide) (by decide)) (g := (mkF m 18 #[.val (.int p0)] [(.int p0), (.ref b72), (.ref b72)])) rfl (by rw [hml]; rfl) (argsL := [(.int p0)]) (rest := [(.ref b72), (.ref b72)]) (lenOf pd__C__B_305 rfl) rfl (by show 2 * 0 + _ ≤ _; exact Nat.le_of_eq rfl) (hb hby d16_18) (fun _ _ => ⟨rfl, e72, (by decide : 1 + 1 ≤ _), (by decide : 4 + 1 ≤ _)⟩)
  dsimp only [Pt.U, Pt.locs, Pt.cells, Pt.slots] at X73 l73 y73 z73 st73 hQ73
  subst l73 y73 z73
  obtain ⟨a73, rfl, N73q, E73⟩ := hQ73
  have N73 := Fr.app N70 N73q
  refine own_by st73 ?_
  show own_Comes p e below s _ _ _ (T73.setTop (mkF m 21 #[.val (.int p0)] [(.ref a73), (.ref b72), (.ref b72)]))
  refine own_by (fun _ kS => XS.iconst X73.here hx rfl (hb hby d16_21) kS) ?_
  show own_Comes p e below s _ _ _ (T73.setTop (mkF m 22 #[.val (.int p0)] [(.int (0 : Int32)), (.ref a73), (.ref b72), (.ref b72)]))
  have c74 := ((D72 (Or.inr (hw _ (List.mem_of_getElem? (i := 34) rfl))) (ty := (.array .byte)) (by decide)).ext E73)
  have c75 := ((D72 (Or.inr (hw _ (List.mem_of_getElem? (i := 32) rfl))) (ty := .byte) (by decide)).ext E73)
  obtain ⟨_, _, ⟨T76, L76, k76, n76⟩, -, X76, ⟨Lc76, hQ76, l76, y76, z76⟩, st76⟩ := X73.specialBack hx (y := (⟨"java/lang/String", "<init>", "([BB)V"⟩ : MethodName)) rfl hown (mvT hZ (hw _ (List.mem_of_getElem? (i := 105) rfl))) (mvT hZ (hw _ (List.mem_of_getElem? (i := 106) rfl))) (mvT hZ (hw _ (List.mem_of_getElem? (i := 107) rfl))) (by decide) (backOf (W := 1) (rm19 l Z a0 hw [] b72 a73 .null (.int 0) T73.heap n0 (Nat.le_trans (Nat.le_trans Z0 E72.1) E73.1) (A72.ext E73) c74 c75 g_b72) hZ (hw _ (List.mem_of_getElem? (i := 107) rfl)) (hw _ (List.mem_of_getElem? (i := 8) rfl)) (by decide) (by decide)) (g := (mkF m 22 #[.val (.int p0)] [(.int (0 : Int32)), (.ref a73), (.ref b72), (.ref b72)])) rfl (by rw [hml]; rfl) (Steps.refl _) (a := b72) (argsL := [(.ref a73), (.int (0 : Int32))]) (rest := [(.ref b72)]) (lenOf pd___BB_V_390 rfl) rfl (by show 2 * 0 + _ ≤ _; exact Nat.le_of_eq rfl) (hb hby d16_22) (fun _ _ => ⟨rfl, rfl, (by decide : 2 + 0 ≤ _), (by decide : 5 + 0 ≤ _)⟩)
  dsimp only [Pt.U, Pt.locs, Pt.cells, Pt.slots] at X76 l76 y76 z76 st76 hQ76
  subst l76 y76 z76
  obtain ⟨rfl, N76q, K76⟩ := hQ76
  have N76 := Fr.app N73 N76q
  refine own_tr st76 ?_
  show own_Comes p e below s _ _ _ (T76.setTop (mkF m 25 #[.val (.int p0)] [(.ref b72)]))
  refine own_ret X76 (v := some (.ref b72)) (fun h => by rw [Bd.returns] at h; cases h) Bd.notSynchronized (by decide) (by decide) ?_ (fun fs hr => own_reta X76 hx Bd.returns rfl rfl (hb hby d16_25) hr)
  exact ⟨_, rfl, N76, own_ext ((((Keep.refl _ _).ext E72).ext E73).trans K76 (allS (Or.inr sz_b72) all0)), ((A72.ext E73).keep K76)⟩
def Q1 (Z : State) (h0 : Heap) (n0 : Nat) (v : Option Value) (h : Heap) (L : List Loc) : Prop := ∃ a : Addr, v = some (.ref a) ∧ Fr n0 L ∧ Ext h0 h ∧ Exa Z h a "java/lang/String"
theorem ef_rm1 (m : MethodId) (x0 : Int32) (x1 : Int32) : entryFrame m #[(.int x0), (.int x1)] 3 = mkF m 0 #[.val (.int x0), .val (.int x1), .unset] [] := by first | (simp [entryFrame, mkF, argsToLocals, Value.category]; done) | rfl
theorem pn_com_example_callyard_callyard_cli_CommandLineOperandPinLaw : plainName "com/example/callyard/callyard/cli/CommandLineOperandPinLaw" = true := by first | (simp [plainName, overriddenIn]; done) | decide +kernel
theorem d1_0 : decode method_3_code 0 = .ok (.iconst 2, 1) := by decide +kernel
theorem d1_1 : decode method_3_code 1 = .ok (.newarray .char, 2) := by decide +kernel
theorem d1_3 : decode method_3_code 3 = .ok (.astore_n 2, 1) := by decide +kernel
theorem d1_4 : decode method_3_code 4 = .ok (.aload_n 2, 1) := by decide +kernel
theorem d1_5 : decode method_3_code 5 = .ok (.iconst 0, 1) := by decide +kernel
theorem d1_6 : decode method_3_code 6 = .ok (.iload_n 0, 1) := by decide +kernel
theorem d1_7 : decode method_3_code 7 = .ok (.castore, 1) := by decide +kernel
theorem d1_8 : decode method_3_code 8 = .ok (.aload_n 2, 1) := by decide +kernel
theorem d1_9 : decode method_3_code 9 = .ok (.iconst 1, 1) := by decide +kernel
theorem d1_10 : decode method_3_code 10 = .ok (.iload_n 1, 1) := by decide +kernel
theorem d1_11 : decode method_3_code 11 = .ok (.i2c, 1) := by decide +kernel
theorem d1_12 : decode method_3_code 12 = .ok (.castore, 1) := by decide +kernel
theorem d1_13 : decode method_3_code 13 = .ok (.new 24, 3) := by decide +kernel
theorem d1_16 : decode method_3_code 16 = .ok (.dup, 1) := by decide +kernel
theorem d1_17 : decode method_3_code 17 = .ok (.aload_n 2, 1) := by decide +kernel
theorem pd___C_V_325 : parseMethodDescriptor "([C)V" = some ⟨[(.array .char)], none⟩ := by decide +kernel
theorem d1_18 : decode method_3_code 18 = .ok (.invokespecial 46, 3) := by decide +kernel
theorem d1_21 : decode method_3_code 21 = .ok (.areturn, 1) := by decide +kernel
set_option maxRecDepth 65536 in
set_option maxHeartbeats 40000000 in
theorem rm1 (l : Launch) (Z : State) (a0 : Array Value) (hw : ∀ d ∈ tables_1, d.before a0 Z = true) (ws : List Jvm.Cond) (p0 p1 zc : Int32) (h0 : Heap) (n0 : Nat) (Z0 : n0 ≤ h0.size) (k0 : ¬ p0 < 0 ∧ ¬ (255 : Int32) < p0) (k1 : ¬ (p1.toUInt32.toUInt16.toUInt32.toInt32) < 0 ∧ ¬ (255 : Int32) < (p1.toUInt32.toUInt16.toUInt32.toInt32)) (O0 : Old Z n0 h0) (Sz : Sta Z Z.heap "java/lang/String" "COMPACT_STRINGS" "Z" (.int zc)) (hzc : ¬ zc = 0) :
    MetFree l (⟨"com/example/callyard/callyard/cli/CommandLineOperandPinLaw", "two", "(CI)Ljava/lang/String;"⟩ : MethodName) (head1 (Jvm.Cond.code (⟨"com/example/callyard/callyard/cli/CommandLineOperandPinLaw", "two", "(CI)Ljava/lang/String;"⟩ : MethodName) method_3_code 3 (some (.object "java/lang/String")) :: ws) ({ frames := 4, cells := 3, slots := 8, locals := 66 } : Room)) (fun aX UX => aX = #[(.int p0), (.int p1)] ∧ Z.Warmed39 UX.vm ∧ UX.heap = h0) (fun _ _ _ _ _ => True) (fun _ UX oX UX' => ∃ vX LX, oX = .returned vX ∧ Q1 Z  h0 n0 vX UX'.heap LX ∧ FrameEnd UX oX UX' LX ({ frames := 4, cells := 3, slots := 8, locals := 66 } : Room).cells ({ frames := 4, cells := 3, slots := 8, locals := 66 } : Room).slots) := by
  refine MetFree.of_bodySF (plainFor_of_name pn_com_example_callyard_callyard_cli_CommandLineOperandPinLaw) hisR ?_
  intro p e s m args below meth c s₁ Bd hml0 hP hK
  obtain ⟨rfl, hZ, hh⟩ := hP
  have hx := Bd.exec
  have hby := Bd.bytes
  have hml : c.maxLocals = 3 := hml0
  have hown : s.vm.findClass "com/example/callyard/callyard/cli/CommandLineOperandPinLaw" = some m.cls := findClass_of_methodNamed Bd.named
  have hnm := (name_of_methodNamed Bd.named Bd.method).1
  have X0 : Stand p l e ({ frames := 4, cells := 3, slots := 8, locals := 66 } : Room) s m #[(.int p0), (.int p1)] below meth c s₁ [] 0 0 := Stand.of_body Bd
  have e0 : s₁.heap = h0 := by rw [← hh, Bd.state]; rfl
  have N0 := Fr.nil n0
  show own_Comes p e below s ({ frames := 4, cells := 3, slots := 8, locals := 66 } : Room).cells ({ frames := 4, cells := 3, slots := 8, locals := 66 } : Room).slots (Q1 Z  h0 n0) _
  rw [show entryFrame m #[(.int p0), (.int p1)] 3 = mkF m 0 #[.val (.int p0), .val (.int p1), .unset] [] from ef_rm1 m p0 p1]
  show own_Comes p e below s _ _ _ (s₁.setTop (mkF m 0 #[.val (.int p0), .val (.int p1), .unset] []))
  refine own_by (fun _ kS => XS.iconst X0.here hx rfl (hb hby d1_0) kS) ?_
  show own_Comes p e below s _ _ _ (s₁.setTop (mkF m 1 #[.val (.int p0), .val (.int p1), .unset] [(.int (2 : Int32))]))
  obtain ⟨T77, h77, k77, X77, e77, E77, A77, st77⟩ := newP X0 hx hZ (hw _ (List.mem_of_getElem? (i := 5) rfl)) e0 (g := (mkF m 1 #[.val (.int p0), .val (.int p1), .unset] [(.int (2 : Int32))])) rfl (hb hby d1_1) rfl (by decide) (cap := 2) (by decide) (by decide) (by decide) (by decide)
  obtain ⟨b77, g77⟩ : ∃ z, z = h0.size := ⟨_, rfl⟩
  rw [← g77] at A77 st77
  have g_b77 : n0 ≤ b77 := Nat.le_trans Z0 (Nat.le_of_eq g77.symm)
  refine own_by st77 ?_
  have V_b77 : Arv Z h77 b77 k77 .char (2 : Int32) [(.int (0 : Int32)), (.int (0 : Int32))] (.int (0 : Int32)) := (Arv.new A77 (by decide)).pad (pad_rep [] (.int (0 : Int32)) 2)
  show own_Comes p e below s _ _ _ (T77.setTop (mkF m 3 #[.val (.int p0), .val (.int p1), .unset] [(.ref b77)]))
  have sz_b77 : h0.size ≤ b77 := Nat.le_trans (Keep.refl h0 []).1 (Nat.le_of_eq g77.symm)
  refine own_by (fun _ kS => XS.astoreN X77.here hx rfl (hb hby d1_3) rfl rfl (l' := #[.val (.int p0), .val (.int p1), .val (.ref b77)]) rfl kS) ?_
  show own_Comes p e below s _ _ _ (T77.setTop (mkF m 4 #[.val (.int p0), .val (.int p1), .val (.ref b77)] []))
  refine own_by (fun _ kS => XS.aloadN X77.here hx rfl (hb hby d1_4) rfl rfl kS) ?_
  show own_Comes p e below s _ _ _ (T77.setTop (mkF m 5 #[.val (.int p0), .val (.int p1), .val (.ref b77)] [(.ref b77)]))
  refine own_by (fun _ kS => XS.iconst X77.here hx rfl (hb hby d1_5) kS) ?_
  show own_Comes p e below s _ _ _ (T77.setTop (mkF m 6 #[.val (.int p0), .val (.int p1), .val (.ref b77)] [(.int (0 : Int32)), (.ref b77)]))
  refine own_by (fun _ kS => XS.iloadN X77.here hx rfl (hb hby d1_6) rfl kS) ?_
  show own_Comes p e below s _ _ _ (T77.setTop (mkF m 7 #[.val (.int p0), .val (.int p1), .val (.ref b77)] [(.int p0), (.int (0 : Int32)), (.ref b77)]))
  have Vo78 := V_b77
  obtain ⟨cl78, Ar78, qA78, SA78, NA78, HA78, GA78⟩ := Vo78
  have hin78 : ¬ ((0 : Int32) < 0 ∨ cl78.slots.size ≤ ((0 : Int32)).toNatClampNeg) := inb_of SA78 ⟨by decide, by decide⟩
  obtain ⟨T79, h79, X79, e79, W79, st79⟩ := stC X77 hx hZ e77 Ar78 (j := (0 : Int32)) hin78 (g := (mkF m 7 #[.val (.int p0), .val (.int p1), .val (.ref b77)] [(.int p0), (.int (0 : Int32)), (.ref b77)])) rfl rfl (hb hby d1_7)
  refine own_by st79 ?_
  have V79 : Arv Z h79 b77 k77 .char (2 : Int32) [(.int (nar .char p0)), (.int (0 : Int32))] (.int (0 : Int32)) := Arv.set Ar78 qA78 SA78 NA78 HA78 GA78 (by first | rfl | exact fits_nar_char _) W79 0 rfl (Nat.le_of_ble_eq_true rfl)
  have N79 := Fr.snoc X79 N0 g_b77
  show own_Comes p e below s _ _ _ (T79.setTop (mkF m 8 #[.val (.int p0), .val (.int p1), .val (.ref b77)] []))
  refine own_by (fun _ kS => XS.aloadN X79.here hx rfl (hb hby d1_8) rfl rfl kS) ?_
  show own_Comes p e below s _ _ _ (T79.setTop (mkF m 9 #[.val (.int p0), .val (.int p1), .val (.ref b77)] [(.ref b77)]))
  refine own_by (fun _ kS => XS.iconst X79.here hx rfl (hb hby d1_9) kS) ?_
  show own_Comes p e below s _ _ _ (T79.setTop (mkF m 10 #[.val (.int p0), .val (.int p1), .val (.ref b77)] [(.int (1 : Int32)), (.ref b77)]))
  refine own_by (fun _ kS => XS.iloadN X79.here hx rfl (hb hby d1_10) rfl kS) ?_
  show own_Comes p e below s _ _ _ (T79.setTop (mkF m 11 #[.val (.int p0), .val (.int p1), .val (.ref b77)] [(.int p1), (.int (1 : Int32)), (.ref b77)]))
  refine own_by (fun _ kS => XS.i2c X79.here hx rfl (hb hby d1_11) rfl kS) ?_
  show own_Comes p e below s _ _ _ (T79.setTop (mkF m 12 #[.val (.int p0), .val (.int p1), .val (.ref b77)] [(.int (p1.toUInt32.toUInt16.toUInt32.toInt32)), (.int (1 : Int32)), (.ref b77)]))
  have Vo80 := V79
  obtain ⟨cl80, Ar80, qA80, SA80, NA80, HA80, GA80⟩ := Vo80
  have hin80 : ¬ ((1 : Int32) < 0 ∨ cl80.slots.size ≤ ((1 : Int32)).toNatClampNeg) := inb_of SA80 ⟨by decide, by decide⟩
  obtain ⟨T81, h81, X81, e81, W81, st81⟩ := stC X79 hx hZ e79 Ar80 (j := (1 : Int32)) hin80 (g := (mkF m 12 #[.val (.int p0), .val (.int p1), .val (.ref b77)] [(.int (p1.toUInt32.toUInt16.toUInt32.toInt32)), (.int (1 : Int32)), (.ref b77)])) rfl rfl (hb hby d1_12)
  refine own_by st81 ?_
  have V81 : Arv Z h81 b77 k77 .char (2 : Int32) [(.int (nar .char p0)), (.int (nar .char (p1.toUInt32.toUInt16.toUInt32.toInt32)))] (.int (0 : Int32)) := Arv.set Ar80 qA80 SA80 NA80 HA80 GA80 (by first | rfl | exact fits_nar_char _) W81 1 rfl (Nat.le_of_ble_eq_true rfl)
  have N81 := Fr.snoc X81 N79 g_b77
  show own_Comes p e below s _ _ _ (T81.setTop (mkF m 13 #[.val (.int p0), .val (.int p1), .val (.ref b77)] []))
  have Vc := V81
  rw [own_narc k0, own_narc k1] at Vc
  obtain ⟨T82, h82, X82, e82, E82, A82, D82, -, st82⟩ := newO X81 hx hZ hown (hw _ (List.mem_of_getElem? (i := 6) rfl)) (hw _ (List.mem_of_getElem? (i := 7) rfl)) (hw _ (List.mem_of_getElem? (i := 8) rfl)) e81 (g := (mkF m 13 #[.val (.int p0), .val (.int p1), .val (.ref b77)] [])) rfl (hb hby d1_13) (by decide) (by decide)
  obtain ⟨b82, g82⟩ : ∃ z, z = h81.size := ⟨_, rfl⟩
  rw [← g82] at A82 D82 st82
  have g_b82 : n0 ≤ b82 := Nat.le_trans (Nat.le_trans (Nat.le_trans (Nat.le_trans Z0 E77.1) (Keep.of_wr W79).1) (Keep.of_wr W81).1) (Nat.le_of_eq g82.symm)
  refine own_by st82 ?_
  show own_Comes p e below s _ _ _ (T82.setTop (mkF m 16 #[.val (.int p0), .val (.int p1), .val (.ref b77)] [(.ref b82)]))
  refine own_by (fun _ kS => XS.dup X82.here hx rfl (hb hby d1_16) rfl rfl kS) ?_
  show own_Comes p e below s _ _ _ (T82.setTop (mkF m 17 #[.val (.int p0), .val (.int p1), .val (.ref b77)] [(.ref b82), (.ref b82)]))
  refine own_by (fun _ kS => XS.aloadN X82.here hx rfl (hb hby d1_17) rfl rfl kS) ?_
  show own_Comes p e below s _ _ _ (T82.setTop (mkF m 18 #[.val (.int p0), .val (.int p1), .val (.ref b77)] [(.ref b77), (.ref b82), (.ref b82)]))
  have sz_b82 : h0.size ≤ b82 := Nat.le_trans ((((Keep.refl h0 []).ext E77).wr W79 (Or.inr sz_b77)).wr W81 (Or.inr sz_b77)).1 (Nat.le_of_eq g82.symm)
  have hws : ∀ d ∈ StrChars.Road.words, d.before a0 Z = true := fun d hd => hw d ((by decide +kernel : ∀ d ∈ StrChars.Road.words, d ∈ tables_1) d hd)
  have hp : ∀ c ∈ [p0, (p1.toUInt32.toUInt16.toUInt32.toInt32)], ¬ c < 0 ∧ ¬ (255 : Int32) < c := fun c hc => by
    simp only [List.mem_cons, List.not_mem_nil, or_false] at hc
    rcases hc with rfl | rfl
    · exact k0
    · exact k1
  have c83 := ((((O0.ext E77).wr W79 g_b77).wr W81 g_b77).ext E82)
  obtain ⟨_, _, ⟨T84, L84, k84, n84⟩, -, X84, ⟨Lc84, hQ84, l84, y84, z84⟩, st84⟩ := X82.specialBack hx (y := (⟨"java/lang/String", "<init>", "([C)V"⟩ : MethodName)) rfl hown (mvT hZ (hw _ (List.mem_of_getElem? (i := 9) rfl))) (mvT hZ (hw _ (List.mem_of_getElem? (i := 10) rfl))) (mvT hZ (hw _ (List.mem_of_getElem? (i := 11) rfl))) (by decide) (StrChars.Road.backV (W := 1) hZ hws (kI := 4) (hw _ (List.mem_of_getElem? (i := 7) rfl)) (cs := [p0, (p1.toUInt32.toUInt16.toUInt32.toInt32)]) (bs := [p0, (p1.toUInt32.toUInt16.toUInt32.toInt32)].map (fun c => c.toInt8.toInt32)) (n := 2) (n0 := n0) g_b82 (Nat.le_trans (Nat.le_trans (Nat.le_trans (Nat.le_trans Z0 E77.1) (Keep.of_wr W79).1) (Keep.of_wr W81).1) E82.1) A82 (D82 (Or.inr (hw _ (List.mem_of_getElem? (i := 34) rfl))) (ty := (.array .byte)) (by decide)) (D82 (Or.inr (hw _ (List.mem_of_getElem? (i := 32) rfl))) (ty := .byte) (by decide)) (Vc.ext E82) (Sz.ext c83.2) hzc rfl rfl (by decide) (by decide) hp rfl (by decide) (by decide)) (g := (mkF m 18 #[.val (.int p0), .val (.int p1), .val (.ref b77)] [(.ref b77), (.ref b82), (.ref b82)])) rfl (by rw [hml]; rfl) (Steps.refl _) (a := b82) (argsL := [(.ref b77)]) (rest := [(.ref b82)]) (lenOf pd___C_V_325 rfl) rfl (by show 2 * 0 + _ ≤ _; exact Nat.le_of_eq rfl) (hb hby d1_18) (fun _ _ => ⟨rfl, e82, (by decide : 2 + 1 ≤ _), (by decide : 6 + 2 ≤ _)⟩)
  dsimp only [Pt.U, Pt.locs, Pt.cells, Pt.slots] at X84 l84 y84 z84 st84 hQ84
  subst l84 y84 z84
  obtain ⟨rfl, N84q, K84, Eb84, _, _, _, _, _, _, _, _⟩ := hQ84
  have N84 := Fr.app N81 N84q
  refine own_tr st84 ?_
  show own_Comes p e below s _ _ _ (T84.setTop (mkF m 21 #[.val (.int p0), .val (.int p1), .val (.ref b77)] [(.ref b82)]))
  refine own_ret X84 (v := some (.ref b82)) (fun h => by rw [Bd.returns] at h; cases h) Bd.notSynchronized (by decide) (by decide) ?_ (fun fs hr => own_reta X84 hx Bd.returns rfl rfl (hb hby d1_21) hr)
  exact ⟨_, rfl, N84, own_ext ((((((Keep.refl _ _).ext E77).wr W79 (Or.inr sz_b77)).wr W81 (Or.inr sz_b77)).ext E82).trans K84 (allS (Or.inr sz_b82) all0)), Eb84⟩
def Q0 (Z : State) (h0 : Heap) (n0 : Nat) (v : Option Value) (h : Heap) (L : List Loc) : Prop := v = some (.int (1 : Int32)) ∧ Fr n0 L
theorem ef_rm0 (m : MethodId) (x0 : Int32) (x1 : Int32) (x2 : Int32) (x3 : Int32) : entryFrame m #[(.int x0), (.int x1), (.int x2), (.int x3)] maxLocals = mkF m 0 #[.val (.int x0), .val (.int x1), .val (.int x2), .val (.int x3), .unset, .unset, .unset, .unset, .unset, .unset, .unset, .unset, .unset, .unset] [] := by first | (simp [entryFrame, mkF, argsToLocals, Value.category, maxLocals]; done) | rfl
theorem pd__CI_Ljava_lang_String__920 : parseMethodDescriptor "(CI)Ljava/lang/String;" = some ⟨[.char, .int], some (.object "java/lang/String")⟩ := by decide +kernel
theorem pd__Ljava_lang_Object__Z_838 : parseMethodDescriptor "(Ljava/lang/Object;)Z" = some ⟨[(.object "java/lang/Object")], some .boolean⟩ := by decide +kernel
theorem pd__C_Ljava_lang_String__847 : parseMethodDescriptor "(C)Ljava/lang/String;" = some ⟨[.char], some (.object "java/lang/String")⟩ := by decide +kernel
theorem pd__Ljava_util_List_ILjava_lang_String__Ljava_lang_String__66 : parseMethodDescriptor "(Ljava/util/List;ILjava/lang/String;)Ljava/lang/String;" = some ⟨[(.object "java/util/List"), .int, (.object "java/lang/String")], some (.object "java/lang/String")⟩ := by decide +kernel
set_option maxRecDepth 65536 in
set_option maxHeartbeats 40000000 in
theorem rm0 (l : Launch) (Z : State) (a0 : Array Value) (hw : ∀ d ∈ tables_1, d.before a0 Z = true) (ws : List Jvm.Cond) (p0 p1 p2 p3 : Int32) (de : Addr) (kd : ClassId) (zc : Int32) (h0 : Heap) (n0 : Nat) (Z0 : n0 ≤ h0.size) (O0 : Old Z n0 h0) (Sd : Sta Z Z.heap "java/util/ArrayList" "DEFAULTCAPACITY_EMPTY_ELEMENTDATA" "[Ljava/lang/Object;" (.ref de)) (Vd : Arv Z Z.heap de kd (.object "java/lang/Object") (0 : Int32) [] .null) (Sz : Sta Z Z.heap "java/lang/String" "COMPACT_STRINGS" "Z" (.int zc)) (hzc : ¬ zc = 0) :
    MetFree l x (head1 (Jvm.Cond.code x code maxLocals ret :: ws) room_1) (fun aX UX => aX = #[(.int p0), (.int p1), (.int p2), (.int p3)] ∧ Z.Warmed39 UX.vm ∧ UX.heap = h0) (fun _ _ _ _ _ => True) (fun _ UX oX UX' => ∃ vX LX, oX = .returned vX ∧ Q0 Z  h0 n0 vX UX'.heap LX ∧ FrameEnd UX oX UX' LX room_1.cells room_1.slots) := by
  refine MetFree.of_bodySF (plainFor_of_name pn_com_example_callyard_callyard_cli_CommandLineOperandPinLaw) hisR ?_
  intro p e s m args below meth c s₁ Bd hml0 hP hK
  obtain ⟨rfl, hZ, hh⟩ := hP
  have hx := Bd.exec
  have hby := Bd.bytes
  have hml : c.maxLocals = 14 := hml0
  have hown : s.vm.findClass "com/example/callyard/callyard/cli/CommandLineOperandPinLaw" = some m.cls := findClass_of_methodNamed Bd.named
  have hnm := (name_of_methodNamed Bd.named Bd.method).1
  have X0 : Stand p l e room_1 s m #[(.int p0), (.int p1), (.int p2), (.int p3)] below meth c s₁ [] 0 0 := Stand.of_body Bd
  have e0 : s₁.heap = h0 := by rw [← hh, Bd.state]; rfl
  have N0 := Fr.nil n0
  show own_Comes p e below s room_1.cells room_1.slots (Q0 Z  h0 n0) _
  rw [show entryFrame m #[(.int p0), (.int p1), (.int p2), (.int p3)] maxLocals = mkF m 0 #[.val (.int p0), .val (.int p1), .val (.int p2), .val (.int p3), .unset, .unset, .unset, .unset, .unset, .unset, .unset, .unset, .unset, .unset] [] from ef_rm0 m p0 p1 p2 p3]
  show own_Comes p e below s _ _ _ (s₁.setTop (mkF m 0 #[.val (.int p0), .val (.int p1), .val (.int p2), .val (.int p3), .unset, .unset, .unset, .unset, .unset, .unset, .unset, .unset, .unset, .unset] []))
  refine own_by (fun _ kS => XS.iconst X0.here hx rfl (hb hby at_0) kS) ?_
  show own_Comes p e below s _ _ _ (s₁.setTop (mkF m 1 #[.val (.int p0), .val (.int p1), .val (.int p2), .val (.int p3), .unset, .unset, .unset, .unset, .unset, .unset, .unset, .unset, .unset, .unset] [(.int (1 : Int32))]))
  refine own_by (fun _ kS => XS.iloadN X0.here hx rfl (hb hby at_1) rfl kS) ?_
  show own_Comes p e below s _ _ _ (s₁.setTop (mkF m 2 #[.val (.int p0), .val (.int p1), .val (.int p2), .val (.int p3), .unset, .unset, .unset, .unset, .unset, .unset, .unset, .unset, .unset, .unset] [(.int p0), (.int (1 : Int32))]))
  refine own_by (fun _ kS => XS.iconst X0.here hx rfl (hb hby at_2) kS) ?_
  show own_Comes p e below s _ _ _ (s₁.setTop (mkF m 3 #[.val (.int p0), .val (.int p1), .val (.int p2), .val (.int p3), .unset, .unset, .unset, .unset, .unset, .unset, .unset, .unset, .unset, .unset] [(.int (3 : Int32)), (.int p0), (.int (1 : Int32))]))
  refine own_by (fun _ kS => XS.iand X0.here hx rfl (hb hby at_3) rfl kS) ?_
  show own_Comes p e below s _ _ _ (s₁.setTop (mkF m 4 #[.val (.int p0), .val (.int p1), .val (.int p2), .val (.int p3), .unset, .unset, .unset, .unset, .unset, .unset, .unset, .unset, .unset, .unset] [(.int (p0 &&& (3 : Int32))), (.int (1 : Int32))]))
  refine own_by (fun _ kS => XS.iadd X0.here hx rfl (hb hby at_4) rfl kS) ?_
  show own_Comes p e below s _ _ _ (s₁.setTop (mkF m 5 #[.val (.int p0), .val (.int p1), .val (.int p2), .val (.int p3), .unset, .unset, .unset, .unset, .unset, .unset, .unset, .unset, .unset, .unset] [(.int ((1 : Int32) + (p0 &&& (3 : Int32))))]))
  obtain ⟨K, hK⟩ : ∃ z, z = ((1 : Int32) + (p0 &&& (3 : Int32))) := ⟨_, rfl⟩
  rw [show ((1 : Int32) + (p0 &&& (3 : Int32))) = K from hK.symm]
  show own_Comes p e below s _ _ _ (s₁.setTop (mkF m 5 #[.val (.int p0), .val (.int p1), .val (.int p2), .val (.int p3), .unset, .unset, .unset, .unset, .unset, .unset, .unset, .unset, .unset, .unset] [(.int K)]))
  have kK := own_k p0
  rw [← hK] at kK
  have hnz13 : ¬ K = 0 := fun q => by rw [q] at kK; exact absurd kK.1 (by decide)
  refine own_by (fun _ kS => XS.istore X0.here hx rfl (hb hby at_5) rfl (l' := #[.val (.int p0), .val (.int p1), .val (.int p2), .val (.int p3), .val (.int K), .unset, .unset, .unset, .unset, .unset, .unset, .unset, .unset, .unset]) rfl kS) ?_
  show own_Comes p e below s _ _ _ (s₁.setTop (mkF m 7 #[.val (.int p0), .val (.int p1), .val (.int p2), .val (.int p3), .val (.int K), .unset, .unset, .unset, .unset, .unset, .unset, .unset, .unset, .unset] []))
  refine own_by (fun _ kS => XS.iloadN X0.here hx rfl (hb hby at_7) rfl kS) ?_
  show own_Comes p e below s _ _ _ (s₁.setTop (mkF m 8 #[.val (.int p0), .val (.int p1), .val (.int p2), .val (.int p3), .val (.int K), .unset, .unset, .unset, .unset, .unset, .unset, .unset, .unset, .unset] [(.int p1)]))
  refine own_by (fun _ kS => X0.ldcInt hx hown (mvT hZ (hw _ (List.mem_of_getElem? (i := 0) rfl))) (g := (mkF m 8 #[.val (.int p0), .val (.int p1), .val (.int p2), .val (.int p3), .val (.int K), .unset, .unset, .unset, .unset, .unset, .unset, .unset, .unset, .unset] [(.int p1)])) rfl (hb hby at_8) _ kS) ?_
  show own_Comes p e below s _ _ _ (s₁.setTop (mkF m 10 #[.val (.int p0), .val (.int p1), .val (.int p2), .val (.int p3), .val (.int K), .unset, .unset, .unset, .unset, .unset, .unset, .unset, .unset, .unset] [(.int (2147483647 : Int32)), (.int p1)]))
  refine own_by (fun _ kS => XS.iand X0.here hx rfl (hb hby at_10) rfl kS) ?_
  show own_Comes p e below s _ _ _ (s₁.setTop (mkF m 11 #[.val (.int p0), .val (.int p1), .val (.int p2), .val (.int p3), .val (.int K), .unset, .unset, .unset, .unset, .unset, .unset, .unset, .unset, .unset] [(.int (p1 &&& (2147483647 : Int32)))]))
  refine own_by (fun _ kS => XS.iload X0.here hx rfl (hb hby at_11) rfl kS) ?_
  show own_Comes p e below s _ _ _ (s₁.setTop (mkF m 13 #[.val (.int p0), .val (.int p1), .val (.int p2), .val (.int p3), .val (.int K), .unset, .unset, .unset, .unset, .unset, .unset, .unset, .unset, .unset] [(.int K), (.int (p1 &&& (2147483647 : Int32)))]))
  refine own_by (fun _ kS => iremM X0 hx rfl (hb hby at_13) rfl hnz13 kS) ?_
  show own_Comes p e below s _ _ _ (s₁.setTop (mkF m 14 #[.val (.int p0), .val (.int p1), .val (.int p2), .val (.int p3), .val (.int K), .unset, .unset, .unset, .unset, .unset, .unset, .unset, .unset, .unset] [(.int ((p1 &&& (2147483647 : Int32)) % K))]))
  obtain ⟨I, hI⟩ : ∃ z, z = ((p1 &&& (2147483647 : Int32)) % K) := ⟨_, rfl⟩
  rw [show ((p1 &&& (2147483647 : Int32)) % K) = I from hI.symm]
  show own_Comes p e below s _ _ _ (s₁.setTop (mkF m 14 #[.val (.int p0), .val (.int p1), .val (.int p2), .val (.int p3), .val (.int K), .unset, .unset, .unset, .unset, .unset, .unset, .unset, .unset, .unset] [(.int I)]))
  have kI := own_ix p1 K kK
  rw [← hI] at kI
  refine own_by (fun _ kS => XS.istore X0.here hx rfl (hb hby at_14) rfl (l' := #[.val (.int p0), .val (.int p1), .val (.int p2), .val (.int p3), .val (.int K), .val (.int I), .unset, .unset, .unset, .unset, .unset, .unset, .unset, .unset]) rfl kS) ?_
  show own_Comes p e below s _ _ _ (s₁.setTop (mkF m 16 #[.val (.int p0), .val (.int p1), .val (.int p2), .val (.int p3), .val (.int K), .val (.int I), .unset, .unset, .unset, .unset, .unset, .unset, .unset, .unset] []))
  refine own_by (fun _ kS => XS.bipush X0.here hx rfl (hb hby at_16) kS) ?_
  show own_Comes p e below s _ _ _ (s₁.setTop (mkF m 18 #[.val (.int p0), .val (.int p1), .val (.int p2), .val (.int p3), .val (.int K), .val (.int I), .unset, .unset, .unset, .unset, .unset, .unset, .unset, .unset] [(.int (97 : Int32))]))
  refine own_by (fun _ kS => XS.iloadN X0.here hx rfl (hb hby at_18) rfl kS) ?_
  show own_Comes p e below s _ _ _ (s₁.setTop (mkF m 19 #[.val (.int p0), .val (.int p1), .val (.int p2), .val (.int p3), .val (.int K), .val (.int I), .unset, .unset, .unset, .unset, .unset, .unset, .unset, .unset] [(.int p2), (.int (97 : Int32))]))
  refine own_by (fun _ kS => XS.sipush X0.here hx rfl (hb hby at_19) kS) ?_
  show own_Comes p e below s _ _ _ (s₁.setTop (mkF m 22 #[.val (.int p0), .val (.int p1), .val (.int p2), .val (.int p3), .val (.int K), .val (.int I), .unset, .unset, .unset, .unset, .unset, .unset, .unset, .unset] [(.int (255 : Int32)), (.int p2), (.int (97 : Int32))]))
  refine own_by (fun _ kS => XS.iand X0.here hx rfl (hb hby at_22) rfl kS) ?_
  show own_Comes p e below s _ _ _ (s₁.setTop (mkF m 23 #[.val (.int p0), .val (.int p1), .val (.int p2), .val (.int p3), .val (.int K), .val (.int I), .unset, .unset, .unset, .unset, .unset, .unset, .unset, .unset] [(.int (p2 &&& (255 : Int32))), (.int (97 : Int32))]))
  obtain ⟨_, _, ⟨T85, L85, k85, n85⟩, -, X85, ⟨Lc85, hQ85, l85, y85, z85⟩, st85⟩ := Jvm.LawKit.callS X0 hx (y := (⟨"com/example/callyard/callyard/cli/CommandLineOperandPinLaw", "two", "(CI)Ljava/lang/String;"⟩ : MethodName)) hown (mvT hZ (hw _ (List.mem_of_getElem? (i := 1) rfl))) (mvT hZ (hw _ (List.mem_of_getElem? (i := 2) rfl))) (mvT hZ (hw _ (List.mem_of_getElem? (i := 3) rfl))) (mvT hZ (hw _ (List.mem_of_getElem? (i := 4) rfl))) (by decide) (backOf (W := 0) (rm1 l Z a0 hw [] (97 : Int32) (p2 &&& (255 : Int32)) zc h0 n0 Z0 ⟨by decide, by decide⟩ (own_and255 p2) O0 Sz hzc) hZ (hw _ (List.mem_of_getElem? (i := 4) rfl)) (hw _ (List.mem_of_getElem? (i := 3) rfl)) (by decide) (by decide)) (g := (mkF m 23 #[.val (.int p0), .val (.int p1), .val (.int p2), .val (.int p3), .val (.int K), .val (.int I), .unset, .unset, .unset, .unset, .unset, .unset, .unset, .unset] [(.int (p2 &&& (255 : Int32))), (.int (97 : Int32))])) rfl (by rw [hml]; rfl) (argsL := [(.int (97 : Int32)), (.int (p2 &&& (255 : Int32)))]) (rest := []) (lenOf pd__CI_Ljava_lang_String__920 rfl) rfl (by show 2 * 0 + _ ≤ _; exact Nat.le_of_eq rfl) (hb hby at_23) (fun _ _ => ⟨rfl, e0, (by decide : 0 + 3 ≤ _), (by decide : 0 + 8 ≤ _)⟩)
  dsimp only [Pt.U, Pt.locs, Pt.cells, Pt.slots] at X85 l85 y85 z85 st85 hQ85
  subst l85 y85 z85
  obtain ⟨a85, rfl, N85q, E85, Eb85⟩ := hQ85
  have N85 := Fr.app N0 N85q
  refine own_by st85 ?_
  show own_Comes p e below s _ _ _ (T85.setTop (mkF m 26 #[.val (.int p0), .val (.int p1), .val (.int p2), .val (.int p3), .val (.int K), .val (.int I), .unset, .unset, .unset, .unset, .unset, .unset, .unset, .unset] [(.ref a85)]))
  refine own_by (fun _ kS => XS.astore X85.here hx rfl (hb hby at_26) rfl rfl (l' := #[.val (.int p0), .val (.int p1), .val (.int p2), .val (.int p3), .val (.int K), .val (.int I), .val (.ref a85), .unset, .unset, .unset, .unset, .unset, .unset, .unset]) rfl kS) ?_
  show own_Comes p e below s _ _ _ (T85.setTop (mkF m 28 #[.val (.int p0), .val (.int p1), .val (.int p2), .val (.int p3), .val (.int K), .val (.int I), .val (.ref a85), .unset, .unset, .unset, .unset, .unset, .unset, .unset] []))
  refine own_by (fun _ kS => XS.bipush X85.here hx rfl (hb hby at_28) kS) ?_
  show own_Comes p e below s _ _ _ (T85.setTop (mkF m 30 #[.val (.int p0), .val (.int p1), .val (.int p2), .val (.int p3), .val (.int K), .val (.int I), .val (.ref a85), .unset, .unset, .unset, .unset, .unset, .unset, .unset] [(.int (98 : Int32))]))
  refine own_by (fun _ kS => XS.iloadN X85.here hx rfl (hb hby at_30) rfl kS) ?_
  show own_Comes p e below s _ _ _ (T85.setTop (mkF m 31 #[.val (.int p0), .val (.int p1), .val (.int p2), .val (.int p3), .val (.int K), .val (.int I), .val (.ref a85), .unset, .unset, .unset, .unset, .unset, .unset, .unset] [(.int p2), (.int (98 : Int32))]))
  refine own_by (fun _ kS => XS.bipush X85.here hx rfl (hb hby at_31) kS) ?_
  show own_Comes p e below s _ _ _ (T85.setTop (mkF m 33 #[.val (.int p0), .val (.int p1), .val (.int p2), .val (.int p3), .val (.int K), .val (.int I), .val (.ref a85), .unset, .unset, .unset, .unset, .unset, .unset, .unset] [(.int (8 : Int32)), (.int p2), (.int (98 : Int32))]))
  refine own_by (fun _ kS => XS.iushr X85.here hx rfl (hb hby at_33) rfl kS) ?_
  show own_Comes p e below s _ _ _ (T85.setTop (mkF m 34 #[.val (.int p0), .val (.int p1), .val (.int p2), .val (.int p3), .val (.int K), .val (.int I), .val (.ref a85), .unset, .unset, .unset, .unset, .unset, .unset, .unset] [(.int ((p2.toUInt32 >>> ((8 : Int32) &&& 31).toUInt32).toInt32)), (.int (98 : Int32))]))
  refine own_by (fun _ kS => XS.sipush X85.here hx rfl (hb hby at_34) kS) ?_
  show own_Comes p e below s _ _ _ (T85.setTop (mkF m 37 #[.val (.int p0), .val (.int p1), .val (.int p2), .val (.int p3), .val (.int K), .val (.int I), .val (.ref a85), .unset, .unset, .unset, .unset, .unset, .unset, .unset] [(.int (255 : Int32)), (.int ((p2.toUInt32 >>> ((8 : Int32) &&& 31).toUInt32).toInt32)), (.int (98 : Int32))]))
  refine own_by (fun _ kS => XS.iand X85.here hx rfl (hb hby at_37) rfl kS) ?_
  show own_Comes p e below s _ _ _ (T85.setTop (mkF m 38 #[.val (.int p0), .val (.int p1), .val (.int p2), .val (.int p3), .val (.int K), .val (.int I), .val (.ref a85), .unset, .unset, .unset, .unset, .unset, .unset, .unset] [(.int (((p2.toUInt32 >>> ((8 : Int32) &&& 31).toUInt32).toInt32) &&& (255 : Int32))), (.int (98 : Int32))]))
  obtain ⟨_, _, ⟨T86, L86, k86, n86⟩, -, X86, ⟨Lc86, hQ86, l86, y86, z86⟩, st86⟩ := Jvm.LawKit.callS X85 hx (y := (⟨"com/example/callyard/callyard/cli/CommandLineOperandPinLaw", "two", "(CI)Ljava/lang/String;"⟩ : MethodName)) hown (mvT hZ (hw _ (List.mem_of_getElem? (i := 1) rfl))) (mvT hZ (hw _ (List.mem_of_getElem? (i := 2) rfl))) (mvT hZ (hw _ (List.mem_of_getElem? (i := 3) rfl))) (mvT hZ (hw _ (List.mem_of_getElem? (i := 4) rfl))) (by decide) (backOf (W := 0) (rm1 l Z a0 hw [] (98 : Int32) (((p2.toUInt32 >>> ((8 : Int32) &&& 31).toUInt32).toInt32) &&& (255 : Int32)) zc T85.heap n0 (Nat.le_trans Z0 E85.1) ⟨by decide, by decide⟩ (own_and255 ((p2.toUInt32 >>> ((8 : Int32) &&& 31).toUInt32).toInt32)) (O0.ext E85) Sz hzc) hZ (hw _ (List.mem_of_getElem? (i := 4) rfl)) (hw _ (List.mem_of_getElem? (i := 3) rfl)) (by decide) (by decide)) (g := (mkF m 38 #[.val (.int p0), .val (.int p1), .val (.int p2), .val (.int p3), .val (.int K), .val (.int I), .val (.ref a85), .unset, .unset, .unset, .unset, .unset, .unset, .unset] [(.int (((p2.toUInt32 >>> ((8 : Int32) &&& 31).toUInt32).toInt32) &&& (255 : Int32))), (.int (98 : Int32))])) rfl (by rw [hml]; rfl) (argsL := [(.int (98 : Int32)), (.int (((p2.toUInt32 >>> ((8 : Int32) &&& 31).toUInt32).toInt32) &&& (255 : Int32)))]) (rest := []) (lenOf pd__CI_Ljava_lang_String__920 rfl) rfl (by show 2 * 0 + _ ≤ _; exact Nat.le_of_eq rfl) (hb hby at_38) (fun _ _ => ⟨rfl, rfl, (by decide : 3 + 3 ≤ _), (by decide : 8 + 8 ≤ _)⟩)
  dsimp only [Pt.U, Pt.locs, Pt.cells, Pt.slots] at X86 l86 y86 z86 st86 hQ86
  subst l86 y86 z86
  obtain ⟨a86, rfl, N86q, E86, Eb86⟩ := hQ86
  have N86 := Fr.app N85 N86q
  refine own_by st86 ?_
  show own_Comes p e below s _ _ _ (T86.setTop (mkF m 41 #[.val (.int p0), .val (.int p1), .val (.int p2), .val (.int p3), .val (.int K), .val (.int I), .val (.ref a85), .unset, .unset, .unset, .unset, .unset, .unset, .unset] [(.ref a86)]))
  refine own_by (fun _ kS => XS.astore X86.here hx rfl (hb hby at_41) rfl rfl (l' := #[.val (.int p0), .val (.int p1), .val (.int p2), .val (.int p3), .val (.int K), .val (.int I), .val (.ref a85), .val (.ref a86), .unset, .unset, .unset, .unset, .unset, .unset]) rfl kS) ?_
  show own_Comes p e below s _ _ _ (T86.setTop (mkF m 43 #[.val (.int p0), .val (.int p1), .val (.int p2), .val (.int p3), .val (.int K), .val (.int I), .val (.ref a85), .val (.ref a86), .unset, .unset, .unset, .unset, .unset, .unset] []))
  refine own_by (fun _ kS => XS.bipush X86.here hx rfl (hb hby at_43) kS) ?_
  show own_Comes p e below s _ _ _ (T86.setTop (mkF m 45 #[.val (.int p0), .val (.int p1), .val (.int p2), .val (.int p3), .val (.int K), .val (.int I), .val (.ref a85), .val (.ref a86), .unset, .unset, .unset, .unset, .unset, .unset] [(.int (99 : Int32))]))
  refine own_by (fun _ kS => XS.iloadN X86.here hx rfl (hb hby at_45) rfl kS) ?_
  show own_Comes p e below s _ _ _ (T86.setTop (mkF m 46 #[.val (.int p0), .val (.int p1), .val (.int p2), .val (.int p3), .val (.int K), .val (.int I), .val (.ref a85), .val (.ref a86), .unset, .unset, .unset, .unset, .unset, .unset] [(.int p2), (.int (99 : Int32))]))
  refine own_by (fun _ kS => XS.bipush X86.here hx rfl (hb hby at_46) kS) ?_
  show own_Comes p e below s _ _ _ (T86.setTop (mkF m 48 #[.val (.int p0), .val (.int p1), .val (.int p2), .val (.int p3), .val (.int K), .val (.int I), .val (.ref a85), .val (.ref a86), .unset, .unset, .unset, .unset, .unset, .unset] [(.int (16 : Int32)), (.int p2), (.int (99 : Int32))]))
  refine own_by (fun _ kS => XS.iushr X86.here hx rfl (hb hby at_48) rfl kS) ?_
  show own_Comes p e below s _ _ _ (T86.setTop (mkF m 49 #[.val (.int p0), .val (.int p1), .val (.int p2), .val (.int p3), .val (.int K), .val (.int I), .val (.ref a85), .val (.ref a86), .unset, .unset, .unset, .unset, .unset, .unset] [(.int ((p2.toUInt32 >>> ((16 : Int32) &&& 31).toUInt32).toInt32)), (.int (99 : Int32))]))
  refine own_by (fun _ kS => XS.sipush X86.here hx rfl (hb hby at_49) kS) ?_
  show own_Comes p e below s _ _ _ (T86.setTop (mkF m 52 #[.val (.int p0), .val (.int p1), .val (.int p2), .val (.int p3), .val (.int K), .val (.int I), .val (.ref a85), .val (.ref a86), .unset, .unset, .unset, .unset, .unset, .unset] [(.int (255 : Int32)), (.int ((p2.toUInt32 >>> ((16 : Int32) &&& 31).toUInt32).toInt32)), (.int (99 : Int32))]))
  refine own_by (fun _ kS => XS.iand X86.here hx rfl (hb hby at_52) rfl kS) ?_
  show own_Comes p e below s _ _ _ (T86.setTop (mkF m 53 #[.val (.int p0), .val (.int p1), .val (.int p2), .val (.int p3), .val (.int K), .val (.int I), .val (.ref a85), .val (.ref a86), .unset, .unset, .unset, .unset, .unset, .unset] [(.int (((p2.toUInt32 >>> ((16 : Int32) &&& 31).toUInt32).toInt32) &&& (255 : Int32))), (.int (99 : Int32))]))
  obtain ⟨_, _, ⟨T87, L87, k87, n87⟩, -, X87, ⟨Lc87, hQ87, l87, y87, z87⟩, st87⟩ := Jvm.LawKit.callS X86 hx (y := (⟨"com/example/callyard/callyard/cli/CommandLineOperandPinLaw", "two", "(CI)Ljava/lang/String;"⟩ : MethodName)) hown (mvT hZ (hw _ (List.mem_of_getElem? (i := 1) rfl))) (mvT hZ (hw _ (List.mem_of_getElem? (i := 2) rfl))) (mvT hZ (hw _ (List.mem_of_getElem? (i := 3) rfl))) (mvT hZ (hw _ (List.mem_of_getElem? (i := 4) rfl))) (by decide) (backOf (W := 0) (rm1 l Z a0 hw [] (99 : Int32) (((p2.toUInt32 >>> ((16 : Int32) &&& 31).toUInt32).toInt32) &&& (255 : Int32)) zc T86.heap n0 (Nat.le_trans (Nat.le_trans Z0 E85.1) E86.1) ⟨by decide, by decide⟩ (own_and255 ((p2.toUInt32 >>> ((16 : Int32) &&& 31).toUInt32).toInt32)) ((O0.ext E85).ext E86) Sz hzc) hZ (hw _ (List.mem_of_getElem? (i := 4) rfl)) (hw _ (List.mem_of_getElem? (i := 3) rfl)) (by decide) (by decide)) (g := (mkF m 53 #[.val (.int p0), .val (.int p1), .val (.int p2), .val (.int p3), .val (.int K), .val (.int I), .val (.ref a85), .val (.ref a86), .unset, .unset, .unset, .unset, .unset, .unset] [(.int (((p2.toUInt32 >>> ((16 : Int32) &&& 31).toUInt32).toInt32) &&& (255 : Int32))), (.int (99 : Int32))])) rfl (by rw [hml]; rfl) (argsL := [(.int (99 : Int32)), (.int (((p2.toUInt32 >>> ((16 : Int32) &&& 31).toUInt32).toInt32) &&& (255 : Int32)))]) (rest := []) (lenOf pd__CI_Ljava_lang_String__920 rfl) rfl (by show 2 * 0 + _ ≤ _; exact Nat.le_of_eq rfl) (hb hby at_53) (fun _ _ => ⟨rfl, rfl, (by decide : 6 + 3 ≤ _), (by decide : 16 + 8 ≤ _)⟩)
  dsimp only [Pt.U, Pt.locs, Pt.cells, Pt.slots] at X87 l87 y87 z87 st87 hQ87
  subst l87 y87 z87
  obtain ⟨a87, rfl, N87q, E87, Eb87⟩ := hQ87
  have N87 := Fr.app N86 N87q
  refine own_by st87 ?_
  show own_Comes p e below s _ _ _ (T87.setTop (mkF m 56 #[.val (.int p0), .val (.int p1), .val (.int p2), .val (.int p3), .val (.int K), .val (.int I), .val (.ref a85), .val (.ref a86), .unset, .unset, .unset, .unset, .unset, .unset] [(.ref a87)]))
  refine own_by (fun _ kS => XS.astore X87.here hx rfl (hb hby at_56) rfl rfl (l' := #[.val (.int p0), .val (.int p1), .val (.int p2), .val (.int p3), .val (.int K), .val (.int I), .val (.ref a85), .val (.ref a86), .val (.ref a87), .unset, .unset, .unset, .unset, .unset]) rfl kS) ?_
  show own_Comes p e below s _ _ _ (T87.setTop (mkF m 58 #[.val (.int p0), .val (.int p1), .val (.int p2), .val (.int p3), .val (.int K), .val (.int I), .val (.ref a85), .val (.ref a86), .val (.ref a87), .unset, .unset, .unset, .unset, .unset] []))
  refine own_by (fun _ kS => XS.bipush X87.here hx rfl (hb hby at_58) kS) ?_
  show own_Comes p e below s _ _ _ (T87.setTop (mkF m 60 #[.val (.int p0), .val (.int p1), .val (.int p2), .val (.int p3), .val (.int K), .val (.int I), .val (.ref a85), .val (.ref a86), .val (.ref a87), .unset, .unset, .unset, .unset, .unset] [(.int (100 : Int32))]))
  refine own_by (fun _ kS => XS.iloadN X87.here hx rfl (hb hby at_60) rfl kS) ?_
  show own_Comes p e below s _ _ _ (T87.setTop (mkF m 61 #[.val (.int p0), .val (.int p1), .val (.int p2), .val (.int p3), .val (.int K), .val (.int I), .val (.ref a85), .val (.ref a86), .val (.ref a87), .unset, .unset, .unset, .unset, .unset] [(.int p2), (.int (100 : Int32))]))
  refine own_by (fun _ kS => XS.bipush X87.here hx rfl (hb hby at_61) kS) ?_
  show own_Comes p e below s _ _ _ (T87.setTop (mkF m 63 #[.val (.int p0), .val (.int p1), .val (.int p2), .val (.int p3), .val (.int K), .val (.int I), .val (.ref a85), .val (.ref a86), .val (.ref a87), .unset, .unset, .unset, .unset, .unset] [(.int (24 : Int32)), (.int p2), (.int (100 : Int32))]))
  refine own_by (fun _ kS => XS.iushr X87.here hx rfl (hb hby at_63) rfl kS) ?_
  show own_Comes p e below s _ _ _ (T87.setTop (mkF m 64 #[.val (.int p0), .val (.int p1), .val (.int p2), .val (.int p3), .val (.int K), .val (.int I), .val (.ref a85), .val (.ref a86), .val (.ref a87), .unset, .unset, .unset, .unset, .unset] [(.int ((p2.toUInt32 >>> ((24 : Int32) &&& 31).toUInt32).toInt32)), (.int (100 : Int32))]))
  refine own_by (fun _ kS => XS.sipush X87.here hx rfl (hb hby at_64) kS) ?_
  show own_Comes p e below s _ _ _ (T87.setTop (mkF m 67 #[.val (.int p0), .val (.int p1), .val (.int p2), .val (.int p3), .val (.int K), .val (.int I), .val (.ref a85), .val (.ref a86), .val (.ref a87), .unset, .unset, .unset, .unset, .unset] [(.int (255 : Int32)), (.int ((p2.toUInt32 >>> ((24 : Int32) &&& 31).toUInt32).toInt32)), (.int (100 : Int32))]))
  refine own_by (fun _ kS => XS.iand X87.here hx rfl (hb hby at_67) rfl kS) ?_
  show own_Comes p e below s _ _ _ (T87.setTop (mkF m 68 #[.val (.int p0), .val (.int p1), .val (.int p2), .val (.int p3), .val (.int K), .val (.int I), .val (.ref a85), .val (.ref a86), .val (.ref a87), .unset, .unset, .unset, .unset, .unset] [(.int (((p2.toUInt32 >>> ((24 : Int32) &&& 31).toUInt32).toInt32) &&& (255 : Int32))), (.int (100 : Int32))]))
  obtain ⟨_, _, ⟨T88, L88, k88, n88⟩, -, X88, ⟨Lc88, hQ88, l88, y88, z88⟩, st88⟩ := Jvm.LawKit.callS X87 hx (y := (⟨"com/example/callyard/callyard/cli/CommandLineOperandPinLaw", "two", "(CI)Ljava/lang/String;"⟩ : MethodName)) hown (mvT hZ (hw _ (List.mem_of_getElem? (i := 1) rfl))) (mvT hZ (hw _ (List.mem_of_getElem? (i := 2) rfl))) (mvT hZ (hw _ (List.mem_of_getElem? (i := 3) rfl))) (mvT hZ (hw _ (List.mem_of_getElem? (i := 4) rfl))) (by decide) (backOf (W := 0) (rm1 l Z a0 hw [] (100 : Int32) (((p2.toUInt32 >>> ((24 : Int32) &&& 31).toUInt32).toInt32) &&& (255 : Int32)) zc T87.heap n0 (Nat.le_trans (Nat.le_trans (Nat.le_trans Z0 E85.1) E86.1) E87.1) ⟨by decide, by decide⟩ (own_and255 ((p2.toUInt32 >>> ((24 : Int32) &&& 31).toUInt32).toInt32)) (((O0.ext E85).ext E86).ext E87) Sz hzc) hZ (hw _ (List.mem_of_getElem? (i := 4) rfl)) (hw _ (List.mem_of_getElem? (i := 3) rfl)) (by decide) (by decide)) (g := (mkF m 68 #[.val (.int p0), .val (.int p1), .val (.int p2), .val (.int p3), .val (.int K), .val (.int I), .val (.ref a85), .val (.ref a86), .val (.ref a87), .unset, .unset, .unset, .unset, .unset] [(.int (((p2.toUInt32 >>> ((24 : Int32) &&& 31).toUInt32).toInt32) &&& (255 : Int32))), (.int (100 : Int32))])) rfl (by rw [hml]; rfl) (argsL := [(.int (100 : Int32)), (.int (((p2.toUInt32 >>> ((24 : Int32) &&& 31).toUInt32).toInt32) &&& (255 : Int32)))]) (rest := []) (lenOf pd__CI_Ljava_lang_String__920 rfl) rfl (by show 2 * 0 + _ ≤ _; exact Nat.le_of_eq rfl) (hb hby at_68) (fun _ _ => ⟨rfl, rfl, (by decide : 9 + 3 ≤ _), (by decide : 24 + 8 ≤ _)⟩)
  dsimp only [Pt.U, Pt.locs, Pt.cells, Pt.slots] at X88 l88 y88 z88 st88 hQ88
  subst l88 y88 z88
  obtain ⟨a88, rfl, N88q, E88, Eb88⟩ := hQ88
  have N88 := Fr.app N87 N88q
  refine own_by st88 ?_
  show own_Comes p e below s _ _ _ (T88.setTop (mkF m 71 #[.val (.int p0), .val (.int p1), .val (.int p2), .val (.int p3), .val (.int K), .val (.int I), .val (.ref a85), .val (.ref a86), .val (.ref a87), .unset, .unset, .unset, .unset, .unset] [(.ref a88)]))
  refine own_by (fun _ kS => XS.astore X88.here hx rfl (hb hby at_71) rfl rfl (l' := #[.val (.int p0), .val (.int p1), .val (.int p2), .val (.int p3), .val (.int K), .val (.int I), .val (.ref a85), .val (.ref a86), .val (.ref a87), .val (.ref a88), .unset, .unset, .unset, .unset]) rfl kS) ?_
  show own_Comes p e below s _ _ _ (T88.setTop (mkF m 73 #[.val (.int p0), .val (.int p1), .val (.int p2), .val (.int p3), .val (.int K), .val (.int I), .val (.ref a85), .val (.ref a86), .val (.ref a87), .val (.ref a88), .unset, .unset, .unset, .unset] []))
  obtain ⟨T89, h89, X89, e89, E89, A89, D89, -, st89⟩ := newO X88 hx hZ hown (hw _ (List.mem_of_getElem? (i := 35) rfl)) (hw _ (List.mem_of_getElem? (i := 36) rfl)) (hw _ (List.mem_of_getElem? (i := 37) rfl)) rfl (g := (mkF m 73 #[.val (.int p0), .val (.int p1), .val (.int p2), .val (.int p3), .val (.int K), .val (.int I), .val (.ref a85), .val (.ref a86), .val (.ref a87), .val (.ref a88), .unset, .unset, .unset, .unset] [])) rfl (hb hby at_73) (by decide) (by decide)
  obtain ⟨b89, g89⟩ : ∃ z, z = T88.heap.size := ⟨_, rfl⟩
  rw [← g89] at A89 D89 st89
  have g_b89 : n0 ≤ b89 := Nat.le_trans (Nat.le_trans (Nat.le_trans (Nat.le_trans (Nat.le_trans Z0 E85.1) E86.1) E87.1) E88.1) (Nat.le_of_eq g89.symm)
  refine own_by st89 ?_
  show own_Comes p e below s _ _ _ (T89.setTop (mkF m 76 #[.val (.int p0), .val (.int p1), .val (.int p2), .val (.int p3), .val (.int K), .val (.int I), .val (.ref a85), .val (.ref a86), .val (.ref a87), .val (.ref a88), .unset, .unset, .unset, .unset] [(.ref b89)]))
  refine own_by (fun _ kS => XS.dup X89.here hx rfl (hb hby at_76) rfl rfl kS) ?_
  show own_Comes p e below s _ _ _ (T89.setTop (mkF m 77 #[.val (.int p0), .val (.int p1), .val (.int p2), .val (.int p3), .val (.int K), .val (.int I), .val (.ref a85), .val (.ref a86), .val (.ref a87), .val (.ref a88), .unset, .unset, .unset, .unset] [(.ref b89), (.ref b89)]))
  have c90 := (((((O0.ext E85).ext E86).ext E87).ext E88).ext E89)
  obtain ⟨_, _, ⟨T91, L91, k91, n91⟩, -, X91, ⟨Lc91, hQ91, l91, y91, z91⟩, st91⟩ := X89.specialBack hx (y := (⟨"java/util/ArrayList", "<init>", "()V"⟩ : MethodName)) rfl hown (mvT hZ (hw _ (List.mem_of_getElem? (i := 38) rfl))) (mvT hZ (hw _ (List.mem_of_getElem? (i := 39) rfl))) (mvT hZ (hw _ (List.mem_of_getElem? (i := 40) rfl))) (by decide) (backOf (W := 1) (rm8 l Z a0 hw [] b89 de h89 n0 (Nat.le_trans (Nat.le_trans (Nat.le_trans (Nat.le_trans (Nat.le_trans Z0 E85.1) E86.1) E87.1) E88.1) E89.1) A89 (D89 (Or.inl (hw _ (List.mem_of_getElem? (i := 55) rfl))) (ty := .int) (by decide)) (D89 (Or.inl (hw _ (List.mem_of_getElem? (i := 71) rfl))) (ty := .int) (by decide)) (D89 (Or.inl (hw _ (List.mem_of_getElem? (i := 58) rfl))) (ty := (.array (.object "java/lang/Object"))) (by decide)) g_b89 c90 Sd) hZ (hw _ (List.mem_of_getElem? (i := 40) rfl)) (hw _ (List.mem_of_getElem? (i := 37) rfl)) (by decide) (by decide)) (g := (mkF m 77 #[.val (.int p0), .val (.int p1), .val (.int p2), .val (.int p3), .val (.int K), .val (.int I), .val (.ref a85), .val (.ref a86), .val (.ref a87), .val (.ref a88), .unset, .unset, .unset, .unset] [(.ref b89), (.ref b89)])) rfl (by rw [hml]; rfl) (Steps.refl _) (a := b89) (argsL := []) (rest := [(.ref b89)]) (lenOf pd___V_167 rfl) rfl (by show 2 * 0 + _ ≤ _; exact Nat.le_of_eq rfl) (hb hby at_77) (fun _ _ => ⟨rfl, e89, (by decide : 13 + 0 ≤ _), (by decide : 35 + 0 ≤ _)⟩)
  dsimp only [Pt.U, Pt.locs, Pt.cells, Pt.slots] at X91 l91 y91 z91 st91 hQ91
  subst l91 y91 z91
  obtain ⟨rfl, N91q, K91, Fm91, Fz91, Fd91⟩ := hQ91
  have N91 := Fr.app N88 N91q
  refine own_tr st91 ?_
  show own_Comes p e below s _ _ _ (T91.setTop (mkF m 80 #[.val (.int p0), .val (.int p1), .val (.int p2), .val (.int p3), .val (.int K), .val (.int I), .val (.ref a85), .val (.ref a86), .val (.ref a87), .val (.ref a88), .unset, .unset, .unset, .unset] [(.ref b89)]))
  refine own_by (fun _ kS => XS.astore X91.here hx rfl (hb hby at_80) rfl rfl (l' := #[.val (.int p0), .val (.int p1), .val (.int p2), .val (.int p3), .val (.int K), .val (.int I), .val (.ref a85), .val (.ref a86), .val (.ref a87), .val (.ref a88), .val (.ref b89), .unset, .unset, .unset]) rfl kS) ?_
  show own_Comes p e below s _ _ _ (T91.setTop (mkF m 82 #[.val (.int p0), .val (.int p1), .val (.int p2), .val (.int p3), .val (.int K), .val (.int I), .val (.ref a85), .val (.ref a86), .val (.ref a87), .val (.ref a88), .val (.ref b89), .unset, .unset, .unset] []))
  refine own_by (fun _ kS => XS.aload X91.here hx rfl (hb hby at_82) rfl rfl kS) ?_
  show own_Comes p e below s _ _ _ (T91.setTop (mkF m 84 #[.val (.int p0), .val (.int p1), .val (.int p2), .val (.int p3), .val (.int K), .val (.int I), .val (.ref a85), .val (.ref a86), .val (.ref a87), .val (.ref a88), .val (.ref b89), .unset, .unset, .unset] [(.ref b89)]))
  refine own_by (fun _ kS => XS.aload X91.here hx rfl (hb hby at_84) rfl rfl kS) ?_
  show own_Comes p e below s _ _ _ (T91.setTop (mkF m 86 #[.val (.int p0), .val (.int p1), .val (.int p2), .val (.int p3), .val (.int K), .val (.int I), .val (.ref a85), .val (.ref a86), .val (.ref a87), .val (.ref a88), .val (.ref b89), .unset, .unset, .unset] [(.ref a85), (.ref b89)]))
  have c92 := (((((Eb85.ext E86).ext E87).ext E88).ext E89).keep K91)
  obtain ⟨cq93, kq93, q93a, q93b, q93c⟩ := isOf hZ rfl (A89.keep K91)
  obtain ⟨_, _, ⟨T93, L93, k93, n93⟩, -, X93, ⟨Lc93, hQ93, l93, y93, z93⟩, st93⟩ := X91.interfaceBack hx (xi := (⟨"java/util/List", "add", "(Ljava/lang/Object;)Z"⟩ : MethodName)) (y := (⟨"java/util/ArrayList", "add", "(Ljava/lang/Object;)Z"⟩ : MethodName)) hown (mvT hZ (hw _ (List.mem_of_getElem? (i := 59) rfl))) (mvT hZ (hw _ (List.mem_of_getElem? (i := 60) rfl))) (mvT hZ (hw _ (List.mem_of_getElem? (i := 61) rfl))) (mvT hZ (hw _ (List.mem_of_getElem? (i := 62) rfl))) (mvT hZ (hw _ (List.mem_of_getElem? (i := 63) rfl))) (mvT hZ (hw _ (List.mem_of_getElem? (i := 64) rfl))) (mvT hZ (hw _ (List.mem_of_getElem? (i := 65) rfl))) (mvT hZ (hw _ (List.mem_of_getElem? (i := 66) rfl))) (by decide) (backOf (W := 0) (rm11g l Z a0 hw [] b89 a85 de (0 : Int32) kd T91.heap n0 (Nat.le_trans (Nat.le_trans (Nat.le_trans (Nat.le_trans (Nat.le_trans (Nat.le_trans Z0 E85.1) E86.1) E87.1) E88.1) E89.1) K91.1) (A89.keep K91) Fm91 Fz91 Fd91 g_b89 (c90.keep K91 (allS g_b89 all0)) Sd Vd c92) hZ (hw _ (List.mem_of_getElem? (i := 67) rfl)) (hw _ (List.mem_of_getElem? (i := 37) rfl)) (by decide) (by decide)) q93a q93b q93c (g := (mkF m 86 #[.val (.int p0), .val (.int p1), .val (.int p2), .val (.int p3), .val (.int K), .val (.int I), .val (.ref a85), .val (.ref a86), .val (.ref a87), .val (.ref a88), .val (.ref b89), .unset, .unset, .unset] [(.ref a85), (.ref b89)])) rfl (by rw [hml]; rfl) (Steps.refl _) (argsL := [(.ref a85)]) (rest := []) (lenOf pd__Ljava_lang_Object__Z_838 rfl) rfl (by show 2 * 0 + _ ≤ _; exact Nat.le_of_eq rfl) (hb hby at_86) (fun _ _ => ⟨rfl, rfl, (by decide : 13 + 1 ≤ _), (by decide : 35 + 10 ≤ _)⟩)
  dsimp only [Pt.U, Pt.locs, Pt.cells, Pt.slots] at X93 l93 y93 z93 st93 hQ93
  subst l93 y93 z93
  obtain ⟨rfl, N93q, K93, a93, k93, g_a93, hL93⟩ := hQ93
  have N93 := Fr.app N91 N93q
  refine own_tr st93 ?_
  show own_Comes p e below s _ _ _ (T93.setTop (mkF m 91 #[.val (.int p0), .val (.int p1), .val (.int p2), .val (.int p3), .val (.int K), .val (.int I), .val (.ref a85), .val (.ref a86), .val (.ref a87), .val (.ref a88), .val (.ref b89), .unset, .unset, .unset] [(.int (1 : Int32))]))
  have e0' : (0 : Int32).toInt = 0 := by decide
  have e1' : (1 : Int32).toInt = 1 := by decide
  have e2' : (2 : Int32).toInt = 2 := by decide
  have e3' : (3 : Int32).toInt = 3 := by decide
  have e4' : (4 : Int32).toInt = 4 := by decide
  refine own_by (fun _ kS => XS.pop X93.here hx rfl (hb hby at_91) rfl rfl kS) ?_
  show own_Comes p e below s _ _ _ (T93.setTop (mkF m 92 #[.val (.int p0), .val (.int p1), .val (.int p2), .val (.int p3), .val (.int K), .val (.int I), .val (.ref a85), .val (.ref a86), .val (.ref a87), .val (.ref a88), .val (.ref b89), .unset, .unset, .unset] []))
  refine own_by (fun _ kS => XS.iload X93.here hx rfl (hb hby at_92) rfl kS) ?_
  show own_Comes p e below s _ _ _ (T93.setTop (mkF m 94 #[.val (.int p0), .val (.int p1), .val (.int p2), .val (.int p3), .val (.int K), .val (.int I), .val (.ref a85), .val (.ref a86), .val (.ref a87), .val (.ref a88), .val (.ref b89), .unset, .unset, .unset] [(.int K)]))
  refine own_by (fun _ kS => XS.iconst X93.here hx rfl (hb hby at_94) kS) ?_
  show own_Comes p e below s _ _ _ (T93.setTop (mkF m 95 #[.val (.int p0), .val (.int p1), .val (.int p2), .val (.int p3), .val (.int K), .val (.int I), .val (.ref a85), .val (.ref a86), .val (.ref a87), .val (.ref a88), .val (.ref b89), .unset, .unset, .unset] [(.int (1 : Int32)), (.int K)]))
  by_cases hk1 : (1 : Int32) < K
  · refine own_by (fun _ kS => XS.icmpNo X93.here hx rfl (hb hby at_95) rfl (tlt hk1).2.2.2 kS) ?_
    show own_Comes p e below s _ _ _ (T93.setTop (mkF m 98 #[.val (.int p0), .val (.int p1), .val (.int p2), .val (.int p3), .val (.int K), .val (.int I), .val (.ref a85), .val (.ref a86), .val (.ref a87), .val (.ref a88), .val (.ref b89), .unset, .unset, .unset] []))
    refine own_by (fun _ kS => XS.aload X93.here hx rfl (hb hby at_98) rfl rfl kS) ?_
    show own_Comes p e below s _ _ _ (T93.setTop (mkF m 100 #[.val (.int p0), .val (.int p1), .val (.int p2), .val (.int p3), .val (.int K), .val (.int I), .val (.ref a85), .val (.ref a86), .val (.ref a87), .val (.ref a88), .val (.ref b89), .unset, .unset, .unset] [(.ref b89)]))
    refine own_by (fun _ kS => XS.aload X93.here hx rfl (hb hby at_100) rfl rfl kS) ?_
    show own_Comes p e below s _ _ _ (T93.setTop (mkF m 102 #[.val (.int p0), .val (.int p1), .val (.int p2), .val (.int p3), .val (.int K), .val (.int I), .val (.ref a85), .val (.ref a86), .val (.ref a87), .val (.ref a88), .val (.ref b89), .unset, .unset, .unset] [(.ref a86), (.ref b89)]))
    have c94 := (((((Eb86.ext E87).ext E88).ext E89).keep K91).keep K93)
    obtain ⟨cq95, kq95, q95a, q95b, q95c⟩ := isOf hZ rfl hL93.1
    obtain ⟨_, _, ⟨T95, L95, k95, n95⟩, -, X95, ⟨Lc95, hQ95, l95, y95, z95⟩, st95⟩ := X93.interfaceBack hx (xi := (⟨"java/util/List", "add", "(Ljava/lang/Object;)Z"⟩ : MethodName)) (y := (⟨"java/util/ArrayList", "add", "(Ljava/lang/Object;)Z"⟩ : MethodName)) hown (mvT hZ (hw _ (List.mem_of_getElem? (i := 59) rfl))) (mvT hZ (hw _ (List.mem_of_getElem? (i := 60) rfl))) (mvT hZ (hw _ (List.mem_of_getElem? (i := 61) rfl))) (mvT hZ (hw _ (List.mem_of_getElem? (i := 62) rfl))) (mvT hZ (hw _ (List.mem_of_getElem? (i := 63) rfl))) (mvT hZ (hw _ (List.mem_of_getElem? (i := 64) rfl))) (mvT hZ (hw _ (List.mem_of_getElem? (i := 65) rfl))) (mvT hZ (hw _ (List.mem_of_getElem? (i := 66) rfl))) (by decide) (backOf (W := 0) (rm11r l Z a0 hw [] b89 a86 a93 k93 (1 : Int32) [(.ref a85), .null, .null, .null, .null, .null, .null, .null, .null, .null] T93.heap n0 (Nat.le_trans (Nat.le_trans (Nat.le_trans (Nat.le_trans (Nat.le_trans (Nat.le_trans (Nat.le_trans Z0 E85.1) E86.1) E87.1) E88.1) E89.1) K91.1) K93.1) hL93 g_b89 g_a93 c94 (by decide) (by decide) (Nat.le_of_ble_eq_true rfl)) hZ (hw _ (List.mem_of_getElem? (i := 67) rfl)) (hw _ (List.mem_of_getElem? (i := 37) rfl)) (by decide) (by decide)) q95a q95b q95c (g := (mkF m 102 #[.val (.int p0), .val (.int p1), .val (.int p2), .val (.int p3), .val (.int K), .val (.int I), .val (.ref a85), .val (.ref a86), .val (.ref a87), .val (.ref a88), .val (.ref b89), .unset, .unset, .unset] [(.ref a86), (.ref b89)])) rfl (by rw [hml]; rfl) (Steps.refl _) (argsL := [(.ref a86)]) (rest := []) (lenOf pd__Ljava_lang_Object__Z_838 rfl) rfl (by show 2 * 0 + _ ≤ _; exact Nat.le_of_eq rfl) (hb hby at_102) (fun _ _ => ⟨rfl, rfl, (by decide : 14 + 0 ≤ _), (by decide : 45 + 0 ≤ _)⟩)
    dsimp only [Pt.U, Pt.locs, Pt.cells, Pt.slots] at X95 l95 y95 z95 st95 hQ95
    subst l95 y95 z95
    obtain ⟨rfl, N95q, K95, hL95⟩ := hQ95
    have N95 := Fr.app N93 N95q
    refine own_tr st95 ?_
    show own_Comes p e below s _ _ _ (T95.setTop (mkF m 107 #[.val (.int p0), .val (.int p1), .val (.int p2), .val (.int p3), .val (.int K), .val (.int I), .val (.ref a85), .val (.ref a86), .val (.ref a87), .val (.ref a88), .val (.ref b89), .unset, .unset, .unset] [(.int (1 : Int32))]))
    have hM95 : own_L Z T95.heap b89 a93 k93 (2 : Int32) [(.ref a85), (.ref a86), .null, .null, .null, .null, .null, .null, .null, .null] := hL95
    refine own_by (fun _ kS => XS.pop X95.here hx rfl (hb hby at_107) rfl rfl kS) ?_
    show own_Comes p e below s _ _ _ (T95.setTop (mkF m 108 #[.val (.int p0), .val (.int p1), .val (.int p2), .val (.int p3), .val (.int K), .val (.int I), .val (.ref a85), .val (.ref a86), .val (.ref a87), .val (.ref a88), .val (.ref b89), .unset, .unset, .unset] []))
    refine own_by (fun _ kS => XS.iload X95.here hx rfl (hb hby at_108) rfl kS) ?_
    show own_Comes p e below s _ _ _ (T95.setTop (mkF m 110 #[.val (.int p0), .val (.int p1), .val (.int p2), .val (.int p3), .val (.int K), .val (.int I), .val (.ref a85), .val (.ref a86), .val (.ref a87), .val (.ref a88), .val (.ref b89), .unset, .unset, .unset] [(.int K)]))
    refine own_by (fun _ kS => XS.iconst X95.here hx rfl (hb hby at_110) kS) ?_
    show own_Comes p e below s _ _ _ (T95.setTop (mkF m 111 #[.val (.int p0), .val (.int p1), .val (.int p2), .val (.int p3), .val (.int K), .val (.int I), .val (.ref a85), .val (.ref a86), .val (.ref a87), .val (.ref a88), .val (.ref b89), .unset, .unset, .unset] [(.int (2 : Int32)), (.int K)]))
    by_cases hk2 : (2 : Int32) < K
    · refine own_by (fun _ kS => XS.icmpNo X95.here hx rfl (hb hby at_111) rfl (tlt hk2).2.2.2 kS) ?_
      show own_Comes p e below s _ _ _ (T95.setTop (mkF m 114 #[.val (.int p0), .val (.int p1), .val (.int p2), .val (.int p3), .val (.int K), .val (.int I), .val (.ref a85), .val (.ref a86), .val (.ref a87), .val (.ref a88), .val (.ref b89), .unset, .unset, .unset] []))
      refine own_by (fun _ kS => XS.aload X95.here hx rfl (hb hby at_114) rfl rfl kS) ?_
      show own_Comes p e below s _ _ _ (T95.setTop (mkF m 116 #[.val (.int p0), .val (.int p1), .val (.int p2), .val (.int p3), .val (.int K), .val (.int I), .val (.ref a85), .val (.ref a86), .val (.ref a87), .val (.ref a88), .val (.ref b89), .unset, .unset, .unset] [(.ref b89)]))
      refine own_by (fun _ kS => XS.aload X95.here hx rfl (hb hby at_116) rfl rfl kS) ?_
      show own_Comes p e below s _ _ _ (T95.setTop (mkF m 118 #[.val (.int p0), .val (.int p1), .val (.int p2), .val (.int p3), .val (.int K), .val (.int I), .val (.ref a85), .val (.ref a86), .val (.ref a87), .val (.ref a88), .val (.ref b89), .unset, .unset, .unset] [(.ref a87), (.ref b89)]))
      have c96 := (((((Eb87.ext E88).ext E89).keep K91).keep K93).keep K95)
      obtain ⟨cq97, kq97, q97a, q97b, q97c⟩ := isOf hZ rfl hM95.1
      obtain ⟨_, _, ⟨T97, L97, k97, n97⟩, -, X97, ⟨Lc97, hQ97, l97, y97, z97⟩, st97⟩ := X95.interfaceBack hx (xi := (⟨"java/util/List", "add", "(Ljava/lang/Object;)Z"⟩ : MethodName)) (y := (⟨"java/util/ArrayList", "add", "(Ljava/lang/Object;)Z"⟩ : MethodName)) hown (mvT hZ (hw _ (List.mem_of_getElem? (i := 59) rfl))) (mvT hZ (hw _ (List.mem_of_getElem? (i := 60) rfl))) (mvT hZ (hw _ (List.mem_of_getElem? (i := 61) rfl))) (mvT hZ (hw _ (List.mem_of_getElem? (i := 62) rfl))) (mvT hZ (hw _ (List.mem_of_getElem? (i := 63) rfl))) (mvT hZ (hw _ (List.mem_of_getElem? (i := 64) rfl))) (mvT hZ (hw _ (List.mem_of_getElem? (i := 65) rfl))) (mvT hZ (hw _ (List.mem_of_getElem? (i := 66) rfl))) (by decide) (backOf (W := 0) (rm11r l Z a0 hw [] b89 a87 a93 k93 (2 : Int32) [(.ref a85), (.ref a86), .null, .null, .null, .null, .null, .null, .null, .null] T95.heap n0 (Nat.le_trans (Nat.le_trans (Nat.le_trans (Nat.le_trans (Nat.le_trans (Nat.le_trans (Nat.le_trans (Nat.le_trans Z0 E85.1) E86.1) E87.1) E88.1) E89.1) K91.1) K93.1) K95.1) hM95 g_b89 g_a93 c96 (by decide) (by decide) (Nat.le_of_ble_eq_true rfl)) hZ (hw _ (List.mem_of_getElem? (i := 67) rfl)) (hw _ (List.mem_of_getElem? (i := 37) rfl)) (by decide) (by decide)) q97a q97b q97c (g := (mkF m 118 #[.val (.int p0), .val (.int p1), .val (.int p2), .val (.int p3), .val (.int K), .val (.int I), .val (.ref a85), .val (.ref a86), .val (.ref a87), .val (.ref a88), .val (.ref b89), .unset, .unset, .unset] [(.ref a87), (.ref b89)])) rfl (by rw [hml]; rfl) (Steps.refl _) (argsL := [(.ref a87)]) (rest := []) (lenOf pd__Ljava_lang_Object__Z_838 rfl) rfl (by show 2 * 0 + _ ≤ _; exact Nat.le_of_eq rfl) (hb hby at_118) (fun _ _ => ⟨rfl, rfl, (by decide : 14 + 0 ≤ _), (by decide : 45 + 0 ≤ _)⟩)
      dsimp only [Pt.U, Pt.locs, Pt.cells, Pt.slots] at X97 l97 y97 z97 st97 hQ97
      subst l97 y97 z97
      obtain ⟨rfl, N97q, K97, hL97⟩ := hQ97
      have N97 := Fr.app N95 N97q
      refine own_tr st97 ?_
      show own_Comes p e below s _ _ _ (T97.setTop (mkF m 123 #[.val (.int p0), .val (.int p1), .val (.int p2), .val (.int p3), .val (.int K), .val (.int I), .val (.ref a85), .val (.ref a86), .val (.ref a87), .val (.ref a88), .val (.ref b89), .unset, .unset, .unset] [(.int (1 : Int32))]))
      have hM97 : own_L Z T97.heap b89 a93 k93 (3 : Int32) [(.ref a85), (.ref a86), (.ref a87), .null, .null, .null, .null, .null, .null, .null] := hL97
      refine own_by (fun _ kS => XS.pop X97.here hx rfl (hb hby at_123) rfl rfl kS) ?_
      show own_Comes p e below s _ _ _ (T97.setTop (mkF m 124 #[.val (.int p0), .val (.int p1), .val (.int p2), .val (.int p3), .val (.int K), .val (.int I), .val (.ref a85), .val (.ref a86), .val (.ref a87), .val (.ref a88), .val (.ref b89), .unset, .unset, .unset] []))
      refine own_by (fun _ kS => XS.iload X97.here hx rfl (hb hby at_124) rfl kS) ?_
      show own_Comes p e below s _ _ _ (T97.setTop (mkF m 126 #[.val (.int p0), .val (.int p1), .val (.int p2), .val (.int p3), .val (.int K), .val (.int I), .val (.ref a85), .val (.ref a86), .val (.ref a87), .val (.ref a88), .val (.ref b89), .unset, .unset, .unset] [(.int K)]))
      refine own_by (fun _ kS => XS.iconst X97.here hx rfl (hb hby at_126) kS) ?_
      show own_Comes p e below s _ _ _ (T97.setTop (mkF m 127 #[.val (.int p0), .val (.int p1), .val (.int p2), .val (.int p3), .val (.int K), .val (.int I), .val (.ref a85), .val (.ref a86), .val (.ref a87), .val (.ref a88), .val (.ref b89), .unset, .unset, .unset] [(.int (3 : Int32)), (.int K)]))
      by_cases hk3 : (3 : Int32) < K
      · refine own_by (fun _ kS => XS.icmpNo X97.here hx rfl (hb hby at_127) rfl (tlt hk3).2.2.2 kS) ?_
        show own_Comes p e below s _ _ _ (T97.setTop (mkF m 130 #[.val (.int p0), .val (.int p1), .val (.int p2), .val (.int p3), .val (.int K), .val (.int I), .val (.ref a85), .val (.ref a86), .val (.ref a87), .val (.ref a88), .val (.ref b89), .unset, .unset, .unset] []))
        refine own_by (fun _ kS => XS.aload X97.here hx rfl (hb hby at_130) rfl rfl kS) ?_
        show own_Comes p e below s _ _ _ (T97.setTop (mkF m 132 #[.val (.int p0), .val (.int p1), .val (.int p2), .val (.int p3), .val (.int K), .val (.int I), .val (.ref a85), .val (.ref a86), .val (.ref a87), .val (.ref a88), .val (.ref b89), .unset, .unset, .unset] [(.ref b89)]))
        refine own_by (fun _ kS => XS.aload X97.here hx rfl (hb hby at_132) rfl rfl kS) ?_
        show own_Comes p e below s _ _ _ (T97.setTop (mkF m 134 #[.val (.int p0), .val (.int p1), .val (.int p2), .val (.int p3), .val (.int K), .val (.int I), .val (.ref a85), .val (.ref a86), .val (.ref a87), .val (.ref a88), .val (.ref b89), .unset, .unset, .unset] [(.ref a88), (.ref b89)]))
        have c98 := (((((Eb88.ext E89).keep K91).keep K93).keep K95).keep K97)
        obtain ⟨cq99, kq99, q99a, q99b, q99c⟩ := isOf hZ rfl hM97.1
        obtain ⟨_, _, ⟨T99, L99, k99, n99⟩, -, X99, ⟨Lc99, hQ99, l99, y99, z99⟩, st99⟩ := X97.interfaceBack hx (xi := (⟨"java/util/List", "add", "(Ljava/lang/Object;)Z"⟩ : MethodName)) (y := (⟨"java/util/ArrayList", "add", "(Ljava/lang/Object;)Z"⟩ : MethodName)) hown (mvT hZ (hw _ (List.mem_of_getElem? (i := 59) rfl))) (mvT hZ (hw _ (List.mem_of_getElem? (i := 60) rfl))) (mvT hZ (hw _ (List.mem_of_getElem? (i := 61) rfl))) (mvT hZ (hw _ (List.mem_of_getElem? (i := 62) rfl))) (mvT hZ (hw _ (List.mem_of_getElem? (i := 63) rfl))) (mvT hZ (hw _ (List.mem_of_getElem? (i := 64) rfl))) (mvT hZ (hw _ (List.mem_of_getElem? (i := 65) rfl))) (mvT hZ (hw _ (List.mem_of_getElem? (i := 66) rfl))) (by decide) (backOf (W := 0) (rm11r l Z a0 hw [] b89 a88 a93 k93 (3 : Int32) [(.ref a85), (.ref a86), (.ref a87), .null, .null, .null, .null, .null, .null, .null] T97.heap n0 (Nat.le_trans (Nat.le_trans (Nat.le_trans (Nat.le_trans (Nat.le_trans (Nat.le_trans (Nat.le_trans (Nat.le_trans (Nat.le_trans Z0 E85.1) E86.1) E87.1) E88.1) E89.1) K91.1) K93.1) K95.1) K97.1) hM97 g_b89 g_a93 c98 (by decide) (by decide) (Nat.le_of_ble_eq_true rfl)) hZ (hw _ (List.mem_of_getElem? (i := 67) rfl)) (hw _ (List.mem_of_getElem? (i := 37) rfl)) (by decide) (by decide)) q99a q99b q99c (g := (mkF m 134 #[.val (.int p0), .val (.int p1), .val (.int p2), .val (.int p3), .val (.int K), .val (.int I), .val (.ref a85), .val (.ref a86), .val (.ref a87), .val (.ref a88), .val (.ref b89), .unset, .unset, .unset] [(.ref a88), (.ref b89)])) rfl (by rw [hml]; rfl) (Steps.refl _) (argsL := [(.ref a88)]) (rest := []) (lenOf pd__Ljava_lang_Object__Z_838 rfl) rfl (by show 2 * 0 + _ ≤ _; exact Nat.le_of_eq rfl) (hb hby at_134) (fun _ _ => ⟨rfl, rfl, (by decide : 14 + 0 ≤ _), (by decide : 45 + 0 ≤ _)⟩)
        dsimp only [Pt.U, Pt.locs, Pt.cells, Pt.slots] at X99 l99 y99 z99 st99 hQ99
        subst l99 y99 z99
        obtain ⟨rfl, N99q, K99, hL99⟩ := hQ99
        have N99 := Fr.app N97 N99q
        refine own_tr st99 ?_
        show own_Comes p e below s _ _ _ (T99.setTop (mkF m 139 #[.val (.int p0), .val (.int p1), .val (.int p2), .val (.int p3), .val (.int K), .val (.int I), .val (.ref a85), .val (.ref a86), .val (.ref a87), .val (.ref a88), .val (.ref b89), .unset, .unset, .unset] [(.int (1 : Int32))]))
        have hM99 : own_L Z T99.heap b89 a93 k93 (4 : Int32) [(.ref a85), (.ref a86), (.ref a87), (.ref a88), .null, .null, .null, .null, .null, .null] := hL99
        refine own_by (fun _ kS => XS.pop X99.here hx rfl (hb hby at_139) rfl rfl kS) ?_
        show own_Comes p e below s _ _ _ (T99.setTop (mkF m 140 #[.val (.int p0), .val (.int p1), .val (.int p2), .val (.int p3), .val (.int K), .val (.int I), .val (.ref a85), .val (.ref a86), .val (.ref a87), .val (.ref a88), .val (.ref b89), .unset, .unset, .unset] []))
        have hKe : K.toInt = 4 := by
          rw [Int32.lt_iff_toInt_lt] at hk1 hk2 hk3; omega
        have hKl : K = (4 : Int32) := own_ki hKe (by decide)
        rw [show K = (4 : Int32) from hKl]
        show own_Comes p e below s _ _ _ (T99.setTop (mkF m 140 #[.val (.int p0), .val (.int p1), .val (.int p2), .val (.int p3), .val (.int (4 : Int32)), .val (.int I), .val (.ref a85), .val (.ref a86), .val (.ref a87), .val (.ref a88), .val (.ref b89), .unset, .unset, .unset] []))
        refine own_by (fun _ kS => XS.iloadN X99.here hx rfl (hb hby at_140) rfl kS) ?_
        show own_Comes p e below s _ _ _ (T99.setTop (mkF m 141 #[.val (.int p0), .val (.int p1), .val (.int p2), .val (.int p3), .val (.int (4 : Int32)), .val (.int I), .val (.ref a85), .val (.ref a86), .val (.ref a87), .val (.ref a88), .val (.ref b89), .unset, .unset, .unset] [(.int p3)]))
        refine own_by (fun _ kS => XS.sipush X99.here hx rfl (hb hby at_141) kS) ?_
        show own_Comes p e below s _ _ _ (T99.setTop (mkF m 144 #[.val (.int p0), .val (.int p1), .val (.int p2), .val (.int p3), .val (.int (4 : Int32)), .val (.int I), .val (.ref a85), .val (.ref a86), .val (.ref a87), .val (.ref a88), .val (.ref b89), .unset, .unset, .unset] [(.int (255 : Int32)), (.int p3)]))
        refine own_by (fun _ kS => XS.iand X99.here hx rfl (hb hby at_144) rfl kS) ?_
        show own_Comes p e below s _ _ _ (T99.setTop (mkF m 145 #[.val (.int p0), .val (.int p1), .val (.int p2), .val (.int p3), .val (.int (4 : Int32)), .val (.int I), .val (.ref a85), .val (.ref a86), .val (.ref a87), .val (.ref a88), .val (.ref b89), .unset, .unset, .unset] [(.int (p3 &&& (255 : Int32)))]))
        refine own_by (fun _ kS => XS.i2c X99.here hx rfl (hb hby at_145) rfl kS) ?_
        show own_Comes p e below s _ _ _ (T99.setTop (mkF m 146 #[.val (.int p0), .val (.int p1), .val (.int p2), .val (.int p3), .val (.int (4 : Int32)), .val (.int I), .val (.ref a85), .val (.ref a86), .val (.ref a87), .val (.ref a88), .val (.ref b89), .unset, .unset, .unset] [(.int ((p3 &&& (255 : Int32)).toUInt32.toUInt16.toUInt32.toInt32))]))
        have c100 := (((((c90.keep K91 (allS g_b89 all0)).keep K93 (allS g_b89 all0)).keep K95 (allS g_b89 (allS g_a93 all0))).keep K97 (allS g_b89 (allS g_a93 all0))).keep K99 (allS g_b89 (allS g_a93 all0)))
        obtain ⟨_, _, ⟨T101, L101, k101, n101⟩, -, X101, ⟨Lc101, hQ101, l101, y101, z101⟩, st101⟩ := Jvm.LawKit.callS X99 hx (y := (⟨"java/lang/String", "valueOf", "(C)Ljava/lang/String;"⟩ : MethodName)) hown (mvT hZ (hw _ (List.mem_of_getElem? (i := 94) rfl))) (mvT hZ (hw _ (List.mem_of_getElem? (i := 95) rfl))) (mvT hZ (hw _ (List.mem_of_getElem? (i := 8) rfl))) (mvT hZ (hw _ (List.mem_of_getElem? (i := 96) rfl))) (by decide) (backOf (W := 0) (rm16 l Z a0 hw [] ((p3 &&& (255 : Int32)).toUInt32.toUInt16.toUInt32.toInt32) zc T99.heap n0 (Nat.le_trans (Nat.le_trans (Nat.le_trans (Nat.le_trans (Nat.le_trans (Nat.le_trans (Nat.le_trans (Nat.le_trans (Nat.le_trans (Nat.le_trans Z0 E85.1) E86.1) E87.1) E88.1) E89.1) K91.1) K93.1) K95.1) K97.1) K99.1) (own_and255 p3).2 c100 Sz hzc) hZ (hw _ (List.mem_of_getElem? (i := 96) rfl)) (hw _ (List.mem_of_getElem? (i := 8) rfl)) (by decide) (by decide)) (g := (mkF m 146 #[.val (.int p0), .val (.int p1), .val (.int p2), .val (.int p3), .val (.int (4 : Int32)), .val (.int I), .val (.ref a85), .val (.ref a86), .val (.ref a87), .val (.ref a88), .val (.ref b89), .unset, .unset, .unset] [(.int ((p3 &&& (255 : Int32)).toUInt32.toUInt16.toUInt32.toInt32))])) rfl (by rw [hml]; rfl) (argsL := [(.int ((p3 &&& (255 : Int32)).toUInt32.toUInt16.toUInt32.toInt32))]) (rest := []) (lenOf pd__C_Ljava_lang_String__847 rfl) rfl (by show 2 * 0 + _ ≤ _; exact Nat.le_of_eq rfl) (hb hby at_146) (fun _ _ => ⟨rfl, rfl, (by decide : 14 + 2 ≤ _), (by decide : 45 + 5 ≤ _)⟩)
        dsimp only [Pt.U, Pt.locs, Pt.cells, Pt.slots] at X101 l101 y101 z101 st101 hQ101
        subst l101 y101 z101
        obtain ⟨a101, rfl, N101q, E101, Eb101⟩ := hQ101
        have N101 := Fr.app N99 N101q
        refine own_by st101 ?_
        show own_Comes p e below s _ _ _ (T101.setTop (mkF m 149 #[.val (.int p0), .val (.int p1), .val (.int p2), .val (.int p3), .val (.int (4 : Int32)), .val (.int I), .val (.ref a85), .val (.ref a86), .val (.ref a87), .val (.ref a88), .val (.ref b89), .unset, .unset, .unset] [(.ref a101)]))
        refine own_by (fun _ kS => XS.astore X101.here hx rfl (hb hby at_149) rfl rfl (l' := #[.val (.int p0), .val (.int p1), .val (.int p2), .val (.int p3), .val (.int (4 : Int32)), .val (.int I), .val (.ref a85), .val (.ref a86), .val (.ref a87), .val (.ref a88), .val (.ref b89), .val (.ref a101), .unset, .unset]) rfl kS) ?_
        show own_Comes p e below s _ _ _ (T101.setTop (mkF m 151 #[.val (.int p0), .val (.int p1), .val (.int p2), .val (.int p3), .val (.int (4 : Int32)), .val (.int I), .val (.ref a85), .val (.ref a86), .val (.ref a87), .val (.ref a88), .val (.ref b89), .val (.ref a101), .unset, .unset] []))
        refine own_by (fun _ kS => XS.aload X101.here hx rfl (hb hby at_151) rfl rfl kS) ?_
        show own_Comes p e below s _ _ _ (T101.setTop (mkF m 153 #[.val (.int p0), .val (.int p1), .val (.int p2), .val (.int p3), .val (.int (4 : Int32)), .val (.int I), .val (.ref a85), .val (.ref a86), .val (.ref a87), .val (.ref a88), .val (.ref b89), .val (.ref a101), .unset, .unset] [(.ref b89)]))
        by_cases hi4_0 : I.toInt = 0
        · rw [show I = (0 : Int32) from own_ki (n := 0) (by omega) (by decide)]
          show own_Comes p e below s _ _ _ (T101.setTop (mkF m 153 #[.val (.int p0), .val (.int p1), .val (.int p2), .val (.int p3), .val (.int (4 : Int32)), .val (.int (0 : Int32)), .val (.ref a85), .val (.ref a86), .val (.ref a87), .val (.ref a88), .val (.ref b89), .val (.ref a101), .unset, .unset] [(.ref b89)]))
          refine own_by (fun _ kS => XS.iload X101.here hx rfl (hb hby at_153) rfl kS) ?_
          show own_Comes p e below s _ _ _ (T101.setTop (mkF m 155 #[.val (.int p0), .val (.int p1), .val (.int p2), .val (.int p3), .val (.int (4 : Int32)), .val (.int (0 : Int32)), .val (.ref a85), .val (.ref a86), .val (.ref a87), .val (.ref a88), .val (.ref b89), .val (.ref a101), .unset, .unset] [(.int (0 : Int32)), (.ref b89)]))
          refine own_by (fun _ kS => XS.aload X101.here hx rfl (hb hby at_155) rfl rfl kS) ?_
          show own_Comes p e below s _ _ _ (T101.setTop (mkF m 157 #[.val (.int p0), .val (.int p1), .val (.int p2), .val (.int p3), .val (.int (4 : Int32)), .val (.int (0 : Int32)), .val (.ref a85), .val (.ref a86), .val (.ref a87), .val (.ref a88), .val (.ref b89), .val (.ref a101), .unset, .unset] [(.ref a101), (.int (0 : Int32)), (.ref b89)]))
          have c102 := (((((c92.keep K93).keep K95).keep K97).keep K99).ext E101)
          obtain ⟨_, _, ⟨T103, L103, k103, n103⟩, -, X103, ⟨Lc103, hQ103, l103, y103, z103⟩, st103⟩ := Jvm.LawKit.callS X101 hx (y := (⟨"com/example/callyard/callyard/cli/CommandLine", "operand", "(Ljava/util/List;ILjava/lang/String;)Ljava/lang/String;"⟩ : MethodName)) hown (mvT hZ (hw _ (List.mem_of_getElem? (i := 108) rfl))) (mvT hZ (hw _ (List.mem_of_getElem? (i := 109) rfl))) (mvT hZ (hw _ (List.mem_of_getElem? (i := 110) rfl))) (mvT hZ (hw _ (List.mem_of_getElem? (i := 111) rfl))) (by decide) (backOf (W := 0) (rm20 l Z a0 hw [] b89 (0 : Int32) a101 a93 k93 (4 : Int32) [(.ref a85), (.ref a86), (.ref a87), (.ref a88), .null, .null, .null, .null, .null, .null] a85 T101.heap n0 (Nat.le_trans (Nat.le_trans (Nat.le_trans (Nat.le_trans (Nat.le_trans (Nat.le_trans (Nat.le_trans (Nat.le_trans (Nat.le_trans (Nat.le_trans (Nat.le_trans Z0 E85.1) E86.1) E87.1) E88.1) E89.1) K91.1) K93.1) K95.1) K97.1) K99.1) E101.1) (hM99.ext E101) (by decide) (by decide) (by decide) rfl c102) hZ (hw _ (List.mem_of_getElem? (i := 111) rfl)) (hw _ (List.mem_of_getElem? (i := 110) rfl)) (by decide) (by decide)) (g := (mkF m 157 #[.val (.int p0), .val (.int p1), .val (.int p2), .val (.int p3), .val (.int (4 : Int32)), .val (.int (0 : Int32)), .val (.ref a85), .val (.ref a86), .val (.ref a87), .val (.ref a88), .val (.ref b89), .val (.ref a101), .unset, .unset] [(.ref a101), (.int (0 : Int32)), (.ref b89)])) rfl (by rw [hml]; rfl) (argsL := [(.ref b89), (.int (0 : Int32)), (.ref a101)]) (rest := []) (lenOf pd__Ljava_util_List_ILjava_lang_String__Ljava_lang_String__66 rfl) rfl (by show 2 * 0 + _ ≤ _; exact Nat.le_of_eq rfl) (hb hby at_157) (fun _ _ => ⟨rfl, rfl, (by decide : 16 + 0 ≤ _), (by decide : 50 + 0 ≤ _)⟩)
          dsimp only [Pt.U, Pt.locs, Pt.cells, Pt.slots] at X103 l103 y103 z103 st103 hQ103
          subst l103 y103 z103
          obtain ⟨rfl, N103q, e103q⟩ := hQ103
          have N103 := Fr.app N101 N103q
          refine own_by st103 ?_
          have e103 : T103.heap = T101.heap := e103q
          show own_Comes p e below s _ _ _ (T103.setTop (mkF m 160 #[.val (.int p0), .val (.int p1), .val (.int p2), .val (.int p3), .val (.int (4 : Int32)), .val (.int (0 : Int32)), .val (.ref a85), .val (.ref a86), .val (.ref a87), .val (.ref a88), .val (.ref b89), .val (.ref a101), .unset, .unset] [(.ref a85)]))
          refine own_by (fun _ kS => XS.astore X103.here hx rfl (hb hby at_160) rfl rfl (l' := #[.val (.int p0), .val (.int p1), .val (.int p2), .val (.int p3), .val (.int (4 : Int32)), .val (.int (0 : Int32)), .val (.ref a85), .val (.ref a86), .val (.ref a87), .val (.ref a88), .val (.ref b89), .val (.ref a101), .val (.ref a85), .unset]) rfl kS) ?_
          show own_Comes p e below s _ _ _ (T103.setTop (mkF m 162 #[.val (.int p0), .val (.int p1), .val (.int p2), .val (.int p3), .val (.int (4 : Int32)), .val (.int (0 : Int32)), .val (.ref a85), .val (.ref a86), .val (.ref a87), .val (.ref a88), .val (.ref b89), .val (.ref a101), .val (.ref a85), .unset] []))
          refine own_by (fun _ kS => XS.iload X103.here hx rfl (hb hby at_162) rfl kS) ?_
          show own_Comes p e below s _ _ _ (T103.setTop (mkF m 164 #[.val (.int p0), .val (.int p1), .val (.int p2), .val (.int p3), .val (.int (4 : Int32)), .val (.int (0 : Int32)), .val (.ref a85), .val (.ref a86), .val (.ref a87), .val (.ref a88), .val (.ref b89), .val (.ref a101), .val (.ref a85), .unset] [(.int (0 : Int32))]))
          have hb104 : (0 : Int32) = (0 : Int32) := by decide
          refine own_by (fun _ kS => XS.ifNo X103.here hx rfl (hb hby at_164) rfl ((if0 _ _).trans (teq hb104).2) kS) ?_
          show own_Comes p e below s _ _ _ (T103.setTop (mkF m 167 #[.val (.int p0), .val (.int p1), .val (.int p2), .val (.int p3), .val (.int (4 : Int32)), .val (.int (0 : Int32)), .val (.ref a85), .val (.ref a86), .val (.ref a87), .val (.ref a88), .val (.ref b89), .val (.ref a101), .val (.ref a85), .unset] []))
          refine own_by (fun _ kS => XS.aload X103.here hx rfl (hb hby at_167) rfl rfl kS) ?_
          show own_Comes p e below s _ _ _ (T103.setTop (mkF m 169 #[.val (.int p0), .val (.int p1), .val (.int p2), .val (.int p3), .val (.int (4 : Int32)), .val (.int (0 : Int32)), .val (.ref a85), .val (.ref a86), .val (.ref a87), .val (.ref a88), .val (.ref b89), .val (.ref a101), .val (.ref a85), .unset] [(.ref a85)]))
          refine own_by (fun _ kS => XS.astore X103.here hx rfl (hb hby at_169) rfl rfl (l' := #[.val (.int p0), .val (.int p1), .val (.int p2), .val (.int p3), .val (.int (4 : Int32)), .val (.int (0 : Int32)), .val (.ref a85), .val (.ref a86), .val (.ref a87), .val (.ref a88), .val (.ref b89), .val (.ref a101), .val (.ref a85), .val (.ref a85)]) rfl kS) ?_
          show own_Comes p e below s _ _ _ (T103.setTop (mkF m 171 #[.val (.int p0), .val (.int p1), .val (.int p2), .val (.int p3), .val (.int (4 : Int32)), .val (.int (0 : Int32)), .val (.ref a85), .val (.ref a86), .val (.ref a87), .val (.ref a88), .val (.ref b89), .val (.ref a101), .val (.ref a85), .val (.ref a85)] []))
          refine own_by (fun _ kS => XS.goto X103.here hx rfl (pc0 := 171) (pc' := 204) rfl (hb hby at_171) (by decide) (by decide) kS) ?_
          show own_Comes p e below s _ _ _ (T103.setTop (mkF m 204 #[.val (.int p0), .val (.int p1), .val (.int p2), .val (.int p3), .val (.int (4 : Int32)), .val (.int (0 : Int32)), .val (.ref a85), .val (.ref a86), .val (.ref a87), .val (.ref a88), .val (.ref b89), .val (.ref a101), .val (.ref a85), .val (.ref a85)] []))
          refine own_by (fun _ kS => XS.aload X103.here hx rfl (hb hby at_204) rfl rfl kS) ?_
          show own_Comes p e below s _ _ _ (T103.setTop (mkF m 206 #[.val (.int p0), .val (.int p1), .val (.int p2), .val (.int p3), .val (.int (4 : Int32)), .val (.int (0 : Int32)), .val (.ref a85), .val (.ref a86), .val (.ref a87), .val (.ref a88), .val (.ref b89), .val (.ref a101), .val (.ref a85), .val (.ref a85)] [(.ref a85)]))
          refine own_by (fun _ kS => XS.ifnullNo X103.here hx rfl (hb hby at_206) rfl kS) ?_
          show own_Comes p e below s _ _ _ (T103.setTop (mkF m 209 #[.val (.int p0), .val (.int p1), .val (.int p2), .val (.int p3), .val (.int (4 : Int32)), .val (.int (0 : Int32)), .val (.ref a85), .val (.ref a86), .val (.ref a87), .val (.ref a88), .val (.ref b89), .val (.ref a101), .val (.ref a85), .val (.ref a85)] []))
          refine own_by (fun _ kS => XS.aload X103.here hx rfl (hb hby at_209) rfl rfl kS) ?_
          show own_Comes p e below s _ _ _ (T103.setTop (mkF m 211 #[.val (.int p0), .val (.int p1), .val (.int p2), .val (.int p3), .val (.int (4 : Int32)), .val (.int (0 : Int32)), .val (.ref a85), .val (.ref a86), .val (.ref a87), .val (.ref a88), .val (.ref b89), .val (.ref a101), .val (.ref a85), .val (.ref a85)] [(.ref a85)]))
          refine own_by (fun _ kS => XS.aload X103.here hx rfl (hb hby at_211) rfl rfl kS) ?_
          show own_Comes p e below s _ _ _ (T103.setTop (mkF m 213 #[.val (.int p0), .val (.int p1), .val (.int p2), .val (.int p3), .val (.int (4 : Int32)), .val (.int (0 : Int32)), .val (.ref a85), .val (.ref a86), .val (.ref a87), .val (.ref a88), .val (.ref b89), .val (.ref a101), .val (.ref a85), .val (.ref a85)] [(.ref a85), (.ref a85)]))
          obtain ⟨cq105, kq105, q105a, q105b, q105c⟩ := isOf hZ e103 c102
          obtain ⟨_, _, ⟨T105, L105, k105, n105⟩, -, X105, ⟨Lc105, hQ105, l105, y105, z105⟩, st105⟩ := X103.virtualBack hx (y := (⟨"java/lang/String", "equals", "(Ljava/lang/Object;)Z"⟩ : MethodName)) (z := (⟨"java/lang/String", "equals", "(Ljava/lang/Object;)Z"⟩ : MethodName)) hown (mvT hZ (hw _ (List.mem_of_getElem? (i := 142) rfl))) (mvT hZ (hw _ (List.mem_of_getElem? (i := 143) rfl))) (notFace_of_selects (args := #[]) (mvT hZ (hw _ (List.mem_of_getElem? (i := 145) rfl)))) (mvT hZ (hw _ (List.mem_of_getElem? (i := 145) rfl))) (mvT hZ (hw _ (List.mem_of_getElem? (i := 144) rfl))) (by decide) (backOf (W := 0) (rm26 l Z a0 hw [] a85 T101.heap n0 (Nat.le_trans (Nat.le_trans (Nat.le_trans (Nat.le_trans (Nat.le_trans (Nat.le_trans (Nat.le_trans (Nat.le_trans (Nat.le_trans (Nat.le_trans (Nat.le_trans Z0 E85.1) E86.1) E87.1) E88.1) E89.1) K91.1) K93.1) K95.1) K97.1) K99.1) E101.1)) hZ (hw _ (List.mem_of_getElem? (i := 146) rfl)) (hw _ (List.mem_of_getElem? (i := 8) rfl)) (by decide) (by decide)) q105a q105c (g := (mkF m 213 #[.val (.int p0), .val (.int p1), .val (.int p2), .val (.int p3), .val (.int (4 : Int32)), .val (.int (0 : Int32)), .val (.ref a85), .val (.ref a86), .val (.ref a87), .val (.ref a88), .val (.ref b89), .val (.ref a101), .val (.ref a85), .val (.ref a85)] [(.ref a85), (.ref a85)])) rfl (by rw [hml]; rfl) (Steps.refl _) (argsL := [(.ref a85)]) (rest := []) (lenOf pd__Ljava_lang_Object__Z_838 rfl) rfl (by show 2 * 0 + _ ≤ _; exact Nat.le_of_eq rfl) (hb hby at_213) (fun _ _ => ⟨rfl, e103, (by decide : 16 + 0 ≤ _), (by decide : 50 + 0 ≤ _)⟩)
          dsimp only [Pt.U, Pt.locs, Pt.cells, Pt.slots] at X105 l105 y105 z105 st105 hQ105
          subst l105 y105 z105
          obtain ⟨rfl, N105q, e105q⟩ := hQ105
          have N105 := Fr.app N103 N105q
          refine own_tr st105 ?_
          have e105 : T105.heap = T101.heap := e105q
          show own_Comes p e below s _ _ _ (T105.setTop (mkF m 216 #[.val (.int p0), .val (.int p1), .val (.int p2), .val (.int p3), .val (.int (4 : Int32)), .val (.int (0 : Int32)), .val (.ref a85), .val (.ref a86), .val (.ref a87), .val (.ref a88), .val (.ref b89), .val (.ref a101), .val (.ref a85), .val (.ref a85)] [(.int (1 : Int32))]))
          have hb106 : ¬ ((1 : Int32) = (0 : Int32)) := by decide
          refine own_by (fun _ kS => XS.ifNo X105.here hx rfl (hb hby at_216) rfl ((if0 _ _).trans (feq hb106).1) kS) ?_
          show own_Comes p e below s _ _ _ (T105.setTop (mkF m 219 #[.val (.int p0), .val (.int p1), .val (.int p2), .val (.int p3), .val (.int (4 : Int32)), .val (.int (0 : Int32)), .val (.ref a85), .val (.ref a86), .val (.ref a87), .val (.ref a88), .val (.ref b89), .val (.ref a101), .val (.ref a85), .val (.ref a85)] []))
          refine own_by (fun _ kS => XS.aload X105.here hx rfl (hb hby at_219) rfl rfl kS) ?_
          show own_Comes p e below s _ _ _ (T105.setTop (mkF m 221 #[.val (.int p0), .val (.int p1), .val (.int p2), .val (.int p3), .val (.int (4 : Int32)), .val (.int (0 : Int32)), .val (.ref a85), .val (.ref a86), .val (.ref a87), .val (.ref a88), .val (.ref b89), .val (.ref a101), .val (.ref a85), .val (.ref a85)] [(.ref b89)]))
          obtain ⟨cq107, kq107, q107a, q107b, q107c⟩ := isOf hZ e105 (hM99.ext E101).1
          obtain ⟨_, _, ⟨T107, L107, k107, n107⟩, -, X107, ⟨Lc107, hQ107, l107, y107, z107⟩, st107⟩ := X105.interfaceBack hx (xi := (⟨"java/util/List", "size", "()I"⟩ : MethodName)) (y := (⟨"java/util/ArrayList", "size", "()I"⟩ : MethodName)) hown (mvT hZ (hw _ (List.mem_of_getElem? (i := 147) rfl))) (mvT hZ (hw _ (List.mem_of_getElem? (i := 113) rfl))) (mvT hZ (hw _ (List.mem_of_getElem? (i := 114) rfl))) (mvT hZ (hw _ (List.mem_of_getElem? (i := 115) rfl))) (mvT hZ (hw _ (List.mem_of_getElem? (i := 116) rfl))) (mvT hZ (hw _ (List.mem_of_getElem? (i := 117) rfl))) (mvT hZ (hw _ (List.mem_of_getElem? (i := 118) rfl))) (mvT hZ (hw _ (List.mem_of_getElem? (i := 66) rfl))) (by decide) (backOf (W := 0) (rm21 l Z a0 hw [] b89 (4 : Int32) T101.heap n0 (Nat.le_trans (Nat.le_trans (Nat.le_trans (Nat.le_trans (Nat.le_trans (Nat.le_trans (Nat.le_trans (Nat.le_trans (Nat.le_trans (Nat.le_trans (Nat.le_trans Z0 E85.1) E86.1) E87.1) E88.1) E89.1) K91.1) K93.1) K95.1) K97.1) K99.1) E101.1) (hM99.ext E101).2.2.2.1) hZ (hw _ (List.mem_of_getElem? (i := 119) rfl)) (hw _ (List.mem_of_getElem? (i := 37) rfl)) (by decide) (by decide)) q107a q107b q107c (g := (mkF m 221 #[.val (.int p0), .val (.int p1), .val (.int p2), .val (.int p3), .val (.int (4 : Int32)), .val (.int (0 : Int32)), .val (.ref a85), .val (.ref a86), .val (.ref a87), .val (.ref a88), .val (.ref b89), .val (.ref a101), .val (.ref a85), .val (.ref a85)] [(.ref b89)])) rfl (by rw [hml]; rfl) (Steps.refl _) (argsL := []) (rest := []) (lenOf pd___I_154 rfl) rfl (by show 2 * 0 + _ ≤ _; exact Nat.le_of_eq rfl) (hb hby at_221) (fun _ _ => ⟨rfl, e105, (by decide : 16 + 0 ≤ _), (by decide : 50 + 0 ≤ _)⟩)
          dsimp only [Pt.U, Pt.locs, Pt.cells, Pt.slots] at X107 l107 y107 z107 st107 hQ107
          subst l107 y107 z107
          obtain ⟨rfl, N107q, e107q⟩ := hQ107
          have N107 := Fr.app N105 N107q
          refine own_tr st107 ?_
          have e107 : T107.heap = T101.heap := e107q
          show own_Comes p e below s _ _ _ (T107.setTop (mkF m 226 #[.val (.int p0), .val (.int p1), .val (.int p2), .val (.int p3), .val (.int (4 : Int32)), .val (.int (0 : Int32)), .val (.ref a85), .val (.ref a86), .val (.ref a87), .val (.ref a88), .val (.ref b89), .val (.ref a101), .val (.ref a85), .val (.ref a85)] [(.int (4 : Int32))]))
          refine own_by (fun _ kS => XS.iload X107.here hx rfl (hb hby at_226) rfl kS) ?_
          show own_Comes p e below s _ _ _ (T107.setTop (mkF m 228 #[.val (.int p0), .val (.int p1), .val (.int p2), .val (.int p3), .val (.int (4 : Int32)), .val (.int (0 : Int32)), .val (.ref a85), .val (.ref a86), .val (.ref a87), .val (.ref a88), .val (.ref b89), .val (.ref a101), .val (.ref a85), .val (.ref a85)] [(.int (4 : Int32)), (.int (4 : Int32))]))
          have hb108 : (4 : Int32) = (4 : Int32) := by decide
          refine own_by (fun _ kS => XS.icmpNo X107.here hx rfl (hb hby at_228) rfl (teq hb108).2 kS) ?_
          show own_Comes p e below s _ _ _ (T107.setTop (mkF m 231 #[.val (.int p0), .val (.int p1), .val (.int p2), .val (.int p3), .val (.int (4 : Int32)), .val (.int (0 : Int32)), .val (.ref a85), .val (.ref a86), .val (.ref a87), .val (.ref a88), .val (.ref b89), .val (.ref a101), .val (.ref a85), .val (.ref a85)] []))
          refine own_by (fun _ kS => XS.aload X107.here hx rfl (hb hby at_231) rfl rfl kS) ?_
          show own_Comes p e below s _ _ _ (T107.setTop (mkF m 233 #[.val (.int p0), .val (.int p1), .val (.int p2), .val (.int p3), .val (.int (4 : Int32)), .val (.int (0 : Int32)), .val (.ref a85), .val (.ref a86), .val (.ref a87), .val (.ref a88), .val (.ref b89), .val (.ref a101), .val (.ref a85), .val (.ref a85)] [(.ref b89)]))
          refine own_by (fun _ kS => XS.iconst X107.here hx rfl (hb hby at_233) kS) ?_
          show own_Comes p e below s _ _ _ (T107.setTop (mkF m 234 #[.val (.int p0), .val (.int p1), .val (.int p2), .val (.int p3), .val (.int (4 : Int32)), .val (.int (0 : Int32)), .val (.ref a85), .val (.ref a86), .val (.ref a87), .val (.ref a88), .val (.ref b89), .val (.ref a101), .val (.ref a85), .val (.ref a85)] [(.int (0 : Int32)), (.ref b89)]))
          obtain ⟨cq109, kq109, q109a, q109b, q109c⟩ := isOf hZ e107 (hM99.ext E101).1
          obtain ⟨_, _, ⟨T109, L109, k109, n109⟩, -, X109, ⟨Lc109, hQ109, l109, y109, z109⟩, st109⟩ := X107.interfaceBack hx (xi := (⟨"java/util/List", "get", "(I)Ljava/lang/Object;"⟩ : MethodName)) (y := (⟨"java/util/ArrayList", "get", "(I)Ljava/lang/Object;"⟩ : MethodName)) hown (mvT hZ (hw _ (List.mem_of_getElem? (i := 148) rfl))) (mvT hZ (hw _ (List.mem_of_getElem? (i := 121) rfl))) (mvT hZ (hw _ (List.mem_of_getElem? (i := 122) rfl))) (mvT hZ (hw _ (List.mem_of_getElem? (i := 123) rfl))) (mvT hZ (hw _ (List.mem_of_getElem? (i := 124) rfl))) (mvT hZ (hw _ (List.mem_of_getElem? (i := 125) rfl))) (mvT hZ (hw _ (List.mem_of_getElem? (i := 126) rfl))) (mvT hZ (hw _ (List.mem_of_getElem? (i := 66) rfl))) (by decide) (backOf (W := 0) (rm22 l Z a0 hw [] b89 (0 : Int32) a93 k93 (4 : Int32) [(.ref a85), (.ref a86), (.ref a87), (.ref a88), .null, .null, .null, .null, .null, .null] a85 T101.heap n0 (Nat.le_trans (Nat.le_trans (Nat.le_trans (Nat.le_trans (Nat.le_trans (Nat.le_trans (Nat.le_trans (Nat.le_trans (Nat.le_trans (Nat.le_trans (Nat.le_trans Z0 E85.1) E86.1) E87.1) E88.1) E89.1) K91.1) K93.1) K95.1) K97.1) K99.1) E101.1) (hM99.ext E101) (by decide) (by decide) (by decide) rfl) hZ (hw _ (List.mem_of_getElem? (i := 127) rfl)) (hw _ (List.mem_of_getElem? (i := 37) rfl)) (by decide) (by decide)) q109a q109b q109c (g := (mkF m 234 #[.val (.int p0), .val (.int p1), .val (.int p2), .val (.int p3), .val (.int (4 : Int32)), .val (.int (0 : Int32)), .val (.ref a85), .val (.ref a86), .val (.ref a87), .val (.ref a88), .val (.ref b89), .val (.ref a101), .val (.ref a85), .val (.ref a85)] [(.int (0 : Int32)), (.ref b89)])) rfl (by rw [hml]; rfl) (Steps.refl _) (argsL := [(.int (0 : Int32))]) (rest := []) (lenOf pd__I_Ljava_lang_Object__821 rfl) rfl (by show 2 * 0 + _ ≤ _; exact Nat.le_of_eq rfl) (hb hby at_234) (fun _ _ => ⟨rfl, e107, (by decide : 16 + 0 ≤ _), (by decide : 50 + 0 ≤ _)⟩)
          dsimp only [Pt.U, Pt.locs, Pt.cells, Pt.slots] at X109 l109 y109 z109 st109 hQ109
          subst l109 y109 z109
          obtain ⟨rfl, N109q, e109q⟩ := hQ109
          have N109 := Fr.app N107 N109q
          refine own_tr st109 ?_
          have e109 : T109.heap = T101.heap := e109q
          show own_Comes p e below s _ _ _ (T109.setTop (mkF m 239 #[.val (.int p0), .val (.int p1), .val (.int p2), .val (.int p3), .val (.int (4 : Int32)), .val (.int (0 : Int32)), .val (.ref a85), .val (.ref a86), .val (.ref a87), .val (.ref a88), .val (.ref b89), .val (.ref a101), .val (.ref a85), .val (.ref a85)] [(.ref a85)]))
          obtain ⟨T110, X110, e110, st110⟩ := castY X109 hx hZ hown (hw _ (List.mem_of_getElem? (i := 6) rfl)) e109 (Ins.self c102) (g := (mkF m 239 #[.val (.int p0), .val (.int p1), .val (.int p2), .val (.int p3), .val (.int (4 : Int32)), .val (.int (0 : Int32)), .val (.ref a85), .val (.ref a86), .val (.ref a87), .val (.ref a88), .val (.ref b89), .val (.ref a101), .val (.ref a85), .val (.ref a85)] [(.ref a85)])) rfl rfl (hb hby at_239)
          refine own_by st110 ?_
          show own_Comes p e below s _ _ _ (T110.setTop (mkF m 242 #[.val (.int p0), .val (.int p1), .val (.int p2), .val (.int p3), .val (.int (4 : Int32)), .val (.int (0 : Int32)), .val (.ref a85), .val (.ref a86), .val (.ref a87), .val (.ref a88), .val (.ref b89), .val (.ref a101), .val (.ref a85), .val (.ref a85)] [(.ref a85)]))
          refine own_by (fun _ kS => XS.aload X110.here hx rfl (hb hby at_242) rfl rfl kS) ?_
          show own_Comes p e below s _ _ _ (T110.setTop (mkF m 244 #[.val (.int p0), .val (.int p1), .val (.int p2), .val (.int p3), .val (.int (4 : Int32)), .val (.int (0 : Int32)), .val (.ref a85), .val (.ref a86), .val (.ref a87), .val (.ref a88), .val (.ref b89), .val (.ref a101), .val (.ref a85), .val (.ref a85)] [(.ref a85), (.ref a85)]))
          obtain ⟨cq111, kq111, q111a, q111b, q111c⟩ := isOf hZ e110 c102
          obtain ⟨_, _, ⟨T111, L111, k111, n111⟩, -, X111, ⟨Lc111, hQ111, l111, y111, z111⟩, st111⟩ := X110.virtualBack hx (y := (⟨"java/lang/String", "equals", "(Ljava/lang/Object;)Z"⟩ : MethodName)) (z := (⟨"java/lang/String", "equals", "(Ljava/lang/Object;)Z"⟩ : MethodName)) hown (mvT hZ (hw _ (List.mem_of_getElem? (i := 142) rfl))) (mvT hZ (hw _ (List.mem_of_getElem? (i := 143) rfl))) (notFace_of_selects (args := #[]) (mvT hZ (hw _ (List.mem_of_getElem? (i := 145) rfl)))) (mvT hZ (hw _ (List.mem_of_getElem? (i := 145) rfl))) (mvT hZ (hw _ (List.mem_of_getElem? (i := 144) rfl))) (by decide) (backOf (W := 0) (rm26 l Z a0 hw [] a85 T101.heap n0 (Nat.le_trans (Nat.le_trans (Nat.le_trans (Nat.le_trans (Nat.le_trans (Nat.le_trans (Nat.le_trans (Nat.le_trans (Nat.le_trans (Nat.le_trans (Nat.le_trans Z0 E85.1) E86.1) E87.1) E88.1) E89.1) K91.1) K93.1) K95.1) K97.1) K99.1) E101.1)) hZ (hw _ (List.mem_of_getElem? (i := 146) rfl)) (hw _ (List.mem_of_getElem? (i := 8) rfl)) (by decide) (by decide)) q111a q111c (g := (mkF m 244 #[.val (.int p0), .val (.int p1), .val (.int p2), .val (.int p3), .val (.int (4 : Int32)), .val (.int (0 : Int32)), .val (.ref a85), .val (.ref a86), .val (.ref a87), .val (.ref a88), .val (.ref b89), .val (.ref a101), .val (.ref a85), .val (.ref a85)] [(.ref a85), (.ref a85)])) rfl (by rw [hml]; rfl) (Steps.refl _) (argsL := [(.ref a85)]) (rest := []) (lenOf pd__Ljava_lang_Object__Z_838 rfl) rfl (by show 2 * 0 + _ ≤ _; exact Nat.le_of_eq rfl) (hb hby at_244) (fun _ _ => ⟨rfl, e110, (by decide : 16 + 0 ≤ _), (by decide : 50 + 0 ≤ _)⟩)
          dsimp only [Pt.U, Pt.locs, Pt.cells, Pt.slots] at X111 l111 y111 z111 st111 hQ111
          subst l111 y111 z111
          obtain ⟨rfl, N111q, e111q⟩ := hQ111
          have N111 := Fr.app N109 N111q
          refine own_tr st111 ?_
          have e111 : T111.heap = T101.heap := e111q
          show own_Comes p e below s _ _ _ (T111.setTop (mkF m 247 #[.val (.int p0), .val (.int p1), .val (.int p2), .val (.int p3), .val (.int (4 : Int32)), .val (.int (0 : Int32)), .val (.ref a85), .val (.ref a86), .val (.ref a87), .val (.ref a88), .val (.ref b89), .val (.ref a101), .val (.ref a85), .val (.ref a85)] [(.int (1 : Int32))]))
          have hb112 : ¬ ((1 : Int32) = (0 : Int32)) := by decide
          refine own_by (fun _ kS => XS.ifNo X111.here hx rfl (hb hby at_247) rfl ((if0 _ _).trans (feq hb112).1) kS) ?_
          show own_Comes p e below s _ _ _ (T111.setTop (mkF m 250 #[.val (.int p0), .val (.int p1), .val (.int p2), .val (.int p3), .val (.int (4 : Int32)), .val (.int (0 : Int32)), .val (.ref a85), .val (.ref a86), .val (.ref a87), .val (.ref a88), .val (.ref b89), .val (.ref a101), .val (.ref a85), .val (.ref a85)] []))
          refine own_by (fun _ kS => XS.iconst X111.here hx rfl (hb hby at_250) kS) ?_
          show own_Comes p e below s _ _ _ (T111.setTop (mkF m 251 #[.val (.int p0), .val (.int p1), .val (.int p2), .val (.int p3), .val (.int (4 : Int32)), .val (.int (0 : Int32)), .val (.ref a85), .val (.ref a86), .val (.ref a87), .val (.ref a88), .val (.ref b89), .val (.ref a101), .val (.ref a85), .val (.ref a85)] [(.int (1 : Int32))]))
          refine own_by (fun _ kS => XS.goto X111.here hx rfl (pc0 := 251) (pc' := 255) rfl (hb hby at_251) (by decide) (by decide) kS) ?_
          show own_Comes p e below s _ _ _ (T111.setTop (mkF m 255 #[.val (.int p0), .val (.int p1), .val (.int p2), .val (.int p3), .val (.int (4 : Int32)), .val (.int (0 : Int32)), .val (.ref a85), .val (.ref a86), .val (.ref a87), .val (.ref a88), .val (.ref b89), .val (.ref a101), .val (.ref a85), .val (.ref a85)] [(.int (1 : Int32))]))
          refine own_ret X111 (v := some (.int (1 : Int32))) (fun h => by rw [Bd.returns] at h; cases h) Bd.notSynchronized (by decide) (by decide) ?_ (fun fs hr => retN X111 hx (t := .boolean) Bd.returns (by simp) (hb hby at_255) hr)
          rw [e111]; exact ⟨rfl, N111⟩
        · have _hh : True := trivial
          by_cases hi4_1 : I.toInt = 1
          · rw [show I = (1 : Int32) from own_ki (n := 1) (by omega) (by decide)]
            show own_Comes p e below s _ _ _ (T101.setTop (mkF m 153 #[.val (.int p0), .val (.int p1), .val (.int p2), .val (.int p3), .val (.int (4 : Int32)), .val (.int (1 : Int32)), .val (.ref a85), .val (.ref a86), .val (.ref a87), .val (.ref a88), .val (.ref b89), .val (.ref a101), .unset, .unset] [(.ref b89)]))
            refine own_by (fun _ kS => XS.iload X101.here hx rfl (hb hby at_153) rfl kS) ?_
            show own_Comes p e below s _ _ _ (T101.setTop (mkF m 155 #[.val (.int p0), .val (.int p1), .val (.int p2), .val (.int p3), .val (.int (4 : Int32)), .val (.int (1 : Int32)), .val (.ref a85), .val (.ref a86), .val (.ref a87), .val (.ref a88), .val (.ref b89), .val (.ref a101), .unset, .unset] [(.int (1 : Int32)), (.ref b89)]))
            refine own_by (fun _ kS => XS.aload X101.here hx rfl (hb hby at_155) rfl rfl kS) ?_
            show own_Comes p e below s _ _ _ (T101.setTop (mkF m 157 #[.val (.int p0), .val (.int p1), .val (.int p2), .val (.int p3), .val (.int (4 : Int32)), .val (.int (1 : Int32)), .val (.ref a85), .val (.ref a86), .val (.ref a87), .val (.ref a88), .val (.ref b89), .val (.ref a101), .unset, .unset] [(.ref a101), (.int (1 : Int32)), (.ref b89)]))
            obtain ⟨_, _, ⟨T113, L113, k113, n113⟩, -, X113, ⟨Lc113, hQ113, l113, y113, z113⟩, st113⟩ := Jvm.LawKit.callS X101 hx (y := (⟨"com/example/callyard/callyard/cli/CommandLine", "operand", "(Ljava/util/List;ILjava/lang/String;)Ljava/lang/String;"⟩ : MethodName)) hown (mvT hZ (hw _ (List.mem_of_getElem? (i := 108) rfl))) (mvT hZ (hw _ (List.mem_of_getElem? (i := 109) rfl))) (mvT hZ (hw _ (List.mem_of_getElem? (i := 110) rfl))) (mvT hZ (hw _ (List.mem_of_getElem? (i := 111) rfl))) (by decide) (backOf (W := 0) (rm20 l Z a0 hw [] b89 (1 : Int32) a101 a93 k93 (4 : Int32) [(.ref a85), (.ref a86), (.ref a87), (.ref a88), .null, .null, .null, .null, .null, .null] a86 T101.heap n0 (Nat.le_trans (Nat.le_trans (Nat.le_trans (Nat.le_trans (Nat.le_trans (Nat.le_trans (Nat.le_trans (Nat.le_trans (Nat.le_trans (Nat.le_trans (Nat.le_trans Z0 E85.1) E86.1) E87.1) E88.1) E89.1) K91.1) K93.1) K95.1) K97.1) K99.1) E101.1) (hM99.ext E101) (by decide) (by decide) (by decide) rfl ((((c94.keep K95).keep K97).keep K99).ext E101)) hZ (hw _ (List.mem_of_getElem? (i := 111) rfl)) (hw _ (List.mem_of_getElem? (i := 110) rfl)) (by decide) (by decide)) (g := (mkF m 157 #[.val (.int p0), .val (.int p1), .val (.int p2), .val (.int p3), .val (.int (4 : Int32)), .val (.int (1 : Int32)), .val (.ref a85), .val (.ref a86), .val (.ref a87), .val (.ref a88), .val (.ref b89), .val (.ref a101), .unset, .unset] [(.ref a101), (.int (1 : Int32)), (.ref b89)])) rfl (by rw [hml]; rfl) (argsL := [(.ref b89), (.int (1 : Int32)), (.ref a101)]) (rest := []) (lenOf pd__Ljava_util_List_ILjava_lang_String__Ljava_lang_String__66 rfl) rfl (by show 2 * 0 + _ ≤ _; exact Nat.le_of_eq rfl) (hb hby at_157) (fun _ _ => ⟨rfl, rfl, (by decide : 16 + 0 ≤ _), (by decide : 50 + 0 ≤ _)⟩)
            dsimp only [Pt.U, Pt.locs, Pt.cells, Pt.slots] at X113 l113 y113 z113 st113 hQ113
            subst l113 y113 z113
            obtain ⟨rfl, N113q, e113q⟩ := hQ113
            have N113 := Fr.app N101 N113q
            refine own_by st113 ?_
            have e113 : T113.heap = T101.heap := e113q
            show own_Comes p e below s _ _ _ (T113.setTop (mkF m 160 #[.val (.int p0), .val (.int p1), .val (.int p2), .val (.int p3), .val (.int (4 : Int32)), .val (.int (1 : Int32)), .val (.ref a85), .val (.ref a86), .val (.ref a87), .val (.ref a88), .val (.ref b89), .val (.ref a101), .unset, .unset] [(.ref a86)]))
            refine own_by (fun _ kS => XS.astore X113.here hx rfl (hb hby at_160) rfl rfl (l' := #[.val (.int p0), .val (.int p1), .val (.int p2), .val (.int p3), .val (.int (4 : Int32)), .val (.int (1 : Int32)), .val (.ref a85), .val (.ref a86), .val (.ref a87), .val (.ref a88), .val (.ref b89), .val (.ref a101), .val (.ref a86), .unset]) rfl kS) ?_
            show own_Comes p e below s _ _ _ (T113.setTop (mkF m 162 #[.val (.int p0), .val (.int p1), .val (.int p2), .val (.int p3), .val (.int (4 : Int32)), .val (.int (1 : Int32)), .val (.ref a85), .val (.ref a86), .val (.ref a87), .val (.ref a88), .val (.ref b89), .val (.ref a101), .val (.ref a86), .unset] []))
            refine own_by (fun _ kS => XS.iload X113.here hx rfl (hb hby at_162) rfl kS) ?_
            show own_Comes p e below s _ _ _ (T113.setTop (mkF m 164 #[.val (.int p0), .val (.int p1), .val (.int p2), .val (.int p3), .val (.int (4 : Int32)), .val (.int (1 : Int32)), .val (.ref a85), .val (.ref a86), .val (.ref a87), .val (.ref a88), .val (.ref b89), .val (.ref a101), .val (.ref a86), .unset] [(.int (1 : Int32))]))
            have hb114 : ¬ ((1 : Int32) = (0 : Int32)) := by decide
            refine own_by (fun _ kS => XS.ifYes X113.here hx rfl (pc0 := 164) (pc' := 174) rfl (hb hby at_164) rfl ((if0 _ _).trans (feq hb114).2) (by decide) (by decide) kS) ?_
            show own_Comes p e below s _ _ _ (T113.setTop (mkF m 174 #[.val (.int p0), .val (.int p1), .val (.int p2), .val (.int p3), .val (.int (4 : Int32)), .val (.int (1 : Int32)), .val (.ref a85), .val (.ref a86), .val (.ref a87), .val (.ref a88), .val (.ref b89), .val (.ref a101), .val (.ref a86), .unset] []))
            refine own_by (fun _ kS => XS.iload X113.here hx rfl (hb hby at_174) rfl kS) ?_
            show own_Comes p e below s _ _ _ (T113.setTop (mkF m 176 #[.val (.int p0), .val (.int p1), .val (.int p2), .val (.int p3), .val (.int (4 : Int32)), .val (.int (1 : Int32)), .val (.ref a85), .val (.ref a86), .val (.ref a87), .val (.ref a88), .val (.ref b89), .val (.ref a101), .val (.ref a86), .unset] [(.int (1 : Int32))]))
            refine own_by (fun _ kS => XS.iconst X113.here hx rfl (hb hby at_176) kS) ?_
            show own_Comes p e below s _ _ _ (T113.setTop (mkF m 177 #[.val (.int p0), .val (.int p1), .val (.int p2), .val (.int p3), .val (.int (4 : Int32)), .val (.int (1 : Int32)), .val (.ref a85), .val (.ref a86), .val (.ref a87), .val (.ref a88), .val (.ref b89), .val (.ref a101), .val (.ref a86), .unset] [(.int (1 : Int32)), (.int (1 : Int32))]))
            have hb115 : (1 : Int32) = (1 : Int32) := by decide
            refine own_by (fun _ kS => XS.icmpNo X113.here hx rfl (hb hby at_177) rfl (teq hb115).2 kS) ?_
            show own_Comes p e below s _ _ _ (T113.setTop (mkF m 180 #[.val (.int p0), .val (.int p1), .val (.int p2), .val (.int p3), .val (.int (4 : Int32)), .val (.int (1 : Int32)), .val (.ref a85), .val (.ref a86), .val (.ref a87), .val (.ref a88), .val (.ref b89), .val (.ref a101), .val (.ref a86), .unset] []))
            refine own_by (fun _ kS => XS.aload X113.here hx rfl (hb hby at_180) rfl rfl kS) ?_
            show own_Comes p e below s _ _ _ (T113.setTop (mkF m 182 #[.val (.int p0), .val (.int p1), .val (.int p2), .val (.int p3), .val (.int (4 : Int32)), .val (.int (1 : Int32)), .val (.ref a85), .val (.ref a86), .val (.ref a87), .val (.ref a88), .val (.ref b89), .val (.ref a101), .val (.ref a86), .unset] [(.ref a86)]))
            refine own_by (fun _ kS => XS.astore X113.here hx rfl (hb hby at_182) rfl rfl (l' := #[.val (.int p0), .val (.int p1), .val (.int p2), .val (.int p3), .val (.int (4 : Int32)), .val (.int (1 : Int32)), .val (.ref a85), .val (.ref a86), .val (.ref a87), .val (.ref a88), .val (.ref b89), .val (.ref a101), .val (.ref a86), .val (.ref a86)]) rfl kS) ?_
            show own_Comes p e below s _ _ _ (T113.setTop (mkF m 184 #[.val (.int p0), .val (.int p1), .val (.int p2), .val (.int p3), .val (.int (4 : Int32)), .val (.int (1 : Int32)), .val (.ref a85), .val (.ref a86), .val (.ref a87), .val (.ref a88), .val (.ref b89), .val (.ref a101), .val (.ref a86), .val (.ref a86)] []))
            refine own_by (fun _ kS => XS.goto X113.here hx rfl (pc0 := 184) (pc' := 204) rfl (hb hby at_184) (by decide) (by decide) kS) ?_
            show own_Comes p e below s _ _ _ (T113.setTop (mkF m 204 #[.val (.int p0), .val (.int p1), .val (.int p2), .val (.int p3), .val (.int (4 : Int32)), .val (.int (1 : Int32)), .val (.ref a85), .val (.ref a86), .val (.ref a87), .val (.ref a88), .val (.ref b89), .val (.ref a101), .val (.ref a86), .val (.ref a86)] []))
            refine own_by (fun _ kS => XS.aload X113.here hx rfl (hb hby at_204) rfl rfl kS) ?_
            show own_Comes p e below s _ _ _ (T113.setTop (mkF m 206 #[.val (.int p0), .val (.int p1), .val (.int p2), .val (.int p3), .val (.int (4 : Int32)), .val (.int (1 : Int32)), .val (.ref a85), .val (.ref a86), .val (.ref a87), .val (.ref a88), .val (.ref b89), .val (.ref a101), .val (.ref a86), .val (.ref a86)] [(.ref a86)]))
            refine own_by (fun _ kS => XS.ifnullNo X113.here hx rfl (hb hby at_206) rfl kS) ?_
            show own_Comes p e below s _ _ _ (T113.setTop (mkF m 209 #[.val (.int p0), .val (.int p1), .val (.int p2), .val (.int p3), .val (.int (4 : Int32)), .val (.int (1 : Int32)), .val (.ref a85), .val (.ref a86), .val (.ref a87), .val (.ref a88), .val (.ref b89), .val (.ref a101), .val (.ref a86), .val (.ref a86)] []))
            refine own_by (fun _ kS => XS.aload X113.here hx rfl (hb hby at_209) rfl rfl kS) ?_
            show own_Comes p e below s _ _ _ (T113.setTop (mkF m 211 #[.val (.int p0), .val (.int p1), .val (.int p2), .val (.int p3), .val (.int (4 : Int32)), .val (.int (1 : Int32)), .val (.ref a85), .val (.ref a86), .val (.ref a87), .val (.ref a88), .val (.ref b89), .val (.ref a101), .val (.ref a86), .val (.ref a86)] [(.ref a86)]))
            refine own_by (fun _ kS => XS.aload X113.here hx rfl (hb hby at_211) rfl rfl kS) ?_
            show own_Comes p e below s _ _ _ (T113.setTop (mkF m 213 #[.val (.int p0), .val (.int p1), .val (.int p2), .val (.int p3), .val (.int (4 : Int32)), .val (.int (1 : Int32)), .val (.ref a85), .val (.ref a86), .val (.ref a87), .val (.ref a88), .val (.ref b89), .val (.ref a101), .val (.ref a86), .val (.ref a86)] [(.ref a86), (.ref a86)]))
            obtain ⟨cq116, kq116, q116a, q116b, q116c⟩ := isOf hZ e113 ((((c94.keep K95).keep K97).keep K99).ext E101)
            obtain ⟨_, _, ⟨T116, L116, k116, n116⟩, -, X116, ⟨Lc116, hQ116, l116, y116, z116⟩, st116⟩ := X113.virtualBack hx (y := (⟨"java/lang/String", "equals", "(Ljava/lang/Object;)Z"⟩ : MethodName)) (z := (⟨"java/lang/String", "equals", "(Ljava/lang/Object;)Z"⟩ : MethodName)) hown (mvT hZ (hw _ (List.mem_of_getElem? (i := 142) rfl))) (mvT hZ (hw _ (List.mem_of_getElem? (i := 143) rfl))) (notFace_of_selects (args := #[]) (mvT hZ (hw _ (List.mem_of_getElem? (i := 145) rfl)))) (mvT hZ (hw _ (List.mem_of_getElem? (i := 145) rfl))) (mvT hZ (hw _ (List.mem_of_getElem? (i := 144) rfl))) (by decide) (backOf (W := 0) (rm26 l Z a0 hw [] a86 T101.heap n0 (Nat.le_trans (Nat.le_trans (Nat.le_trans (Nat.le_trans (Nat.le_trans (Nat.le_trans (Nat.le_trans (Nat.le_trans (Nat.le_trans (Nat.le_trans (Nat.le_trans Z0 E85.1) E86.1) E87.1) E88.1) E89.1) K91.1) K93.1) K95.1) K97.1) K99.1) E101.1)) hZ (hw _ (List.mem_of_getElem? (i := 146) rfl)) (hw _ (List.mem_of_getElem? (i := 8) rfl)) (by decide) (by decide)) q116a q116c (g := (mkF m 213 #[.val (.int p0), .val (.int p1), .val (.int p2), .val (.int p3), .val (.int (4 : Int32)), .val (.int (1 : Int32)), .val (.ref a85), .val (.ref a86), .val (.ref a87), .val (.ref a88), .val (.ref b89), .val (.ref a101), .val (.ref a86), .val (.ref a86)] [(.ref a86), (.ref a86)])) rfl (by rw [hml]; rfl) (Steps.refl _) (argsL := [(.ref a86)]) (rest := []) (lenOf pd__Ljava_lang_Object__Z_838 rfl) rfl (by show 2 * 0 + _ ≤ _; exact Nat.le_of_eq rfl) (hb hby at_213) (fun _ _ => ⟨rfl, e113, (by decide : 16 + 0 ≤ _), (by decide : 50 + 0 ≤ _)⟩)
            dsimp only [Pt.U, Pt.locs, Pt.cells, Pt.slots] at X116 l116 y116 z116 st116 hQ116
            subst l116 y116 z116
            obtain ⟨rfl, N116q, e116q⟩ := hQ116
            have N116 := Fr.app N113 N116q
            refine own_tr st116 ?_
            have e116 : T116.heap = T101.heap := e116q
            show own_Comes p e below s _ _ _ (T116.setTop (mkF m 216 #[.val (.int p0), .val (.int p1), .val (.int p2), .val (.int p3), .val (.int (4 : Int32)), .val (.int (1 : Int32)), .val (.ref a85), .val (.ref a86), .val (.ref a87), .val (.ref a88), .val (.ref b89), .val (.ref a101), .val (.ref a86), .val (.ref a86)] [(.int (1 : Int32))]))
            have hb117 : ¬ ((1 : Int32) = (0 : Int32)) := by decide
            refine own_by (fun _ kS => XS.ifNo X116.here hx rfl (hb hby at_216) rfl ((if0 _ _).trans (feq hb117).1) kS) ?_
            show own_Comes p e below s _ _ _ (T116.setTop (mkF m 219 #[.val (.int p0), .val (.int p1), .val (.int p2), .val (.int p3), .val (.int (4 : Int32)), .val (.int (1 : Int32)), .val (.ref a85), .val (.ref a86), .val (.ref a87), .val (.ref a88), .val (.ref b89), .val (.ref a101), .val (.ref a86), .val (.ref a86)] []))
            refine own_by (fun _ kS => XS.aload X116.here hx rfl (hb hby at_219) rfl rfl kS) ?_
            show own_Comes p e below s _ _ _ (T116.setTop (mkF m 221 #[.val (.int p0), .val (.int p1), .val (.int p2), .val (.int p3), .val (.int (4 : Int32)), .val (.int (1 : Int32)), .val (.ref a85), .val (.ref a86), .val (.ref a87), .val (.ref a88), .val (.ref b89), .val (.ref a101), .val (.ref a86), .val (.ref a86)] [(.ref b89)]))
            obtain ⟨cq118, kq118, q118a, q118b, q118c⟩ := isOf hZ e116 (hM99.ext E101).1
            obtain ⟨_, _, ⟨T118, L118, k118, n118⟩, -, X118, ⟨Lc118, hQ118, l118, y118, z118⟩, st118⟩ := X116.interfaceBack hx (xi := (⟨"java/util/List", "size", "()I"⟩ : MethodName)) (y := (⟨"java/util/ArrayList", "size", "()I"⟩ : MethodName)) hown (mvT hZ (hw _ (List.mem_of_getElem? (i := 147) rfl))) (mvT hZ (hw _ (List.mem_of_getElem? (i := 113) rfl))) (mvT hZ (hw _ (List.mem_of_getElem? (i := 114) rfl))) (mvT hZ (hw _ (List.mem_of_getElem? (i := 115) rfl))) (mvT hZ (hw _ (List.mem_of_getElem? (i := 116) rfl))) (mvT hZ (hw _ (List.mem_of_getElem? (i := 117) rfl))) (mvT hZ (hw _ (List.mem_of_getElem? (i := 118) rfl))) (mvT hZ (hw _ (List.mem_of_getElem? (i := 66) rfl))) (by decide) (backOf (W := 0) (rm21 l Z a0 hw [] b89 (4 : Int32) T101.heap n0 (Nat.le_trans (Nat.le_trans (Nat.le_trans (Nat.le_trans (Nat.le_trans (Nat.le_trans (Nat.le_trans (Nat.le_trans (Nat.le_trans (Nat.le_trans (Nat.le_trans Z0 E85.1) E86.1) E87.1) E88.1) E89.1) K91.1) K93.1) K95.1) K97.1) K99.1) E101.1) (hM99.ext E101).2.2.2.1) hZ (hw _ (List.mem_of_getElem? (i := 119) rfl)) (hw _ (List.mem_of_getElem? (i := 37) rfl)) (by decide) (by decide)) q118a q118b q118c (g := (mkF m 221 #[.val (.int p0), .val (.int p1), .val (.int p2), .val (.int p3), .val (.int (4 : Int32)), .val (.int (1 : Int32)), .val (.ref a85), .val (.ref a86), .val (.ref a87), .val (.ref a88), .val (.ref b89), .val (.ref a101), .val (.ref a86), .val (.ref a86)] [(.ref b89)])) rfl (by rw [hml]; rfl) (Steps.refl _) (argsL := []) (rest := []) (lenOf pd___I_154 rfl) rfl (by show 2 * 0 + _ ≤ _; exact Nat.le_of_eq rfl) (hb hby at_221) (fun _ _ => ⟨rfl, e116, (by decide : 16 + 0 ≤ _), (by decide : 50 + 0 ≤ _)⟩)
            dsimp only [Pt.U, Pt.locs, Pt.cells, Pt.slots] at X118 l118 y118 z118 st118 hQ118
            subst l118 y118 z118
            obtain ⟨rfl, N118q, e118q⟩ := hQ118
            have N118 := Fr.app N116 N118q
            refine own_tr st118 ?_
            have e118 : T118.heap = T101.heap := e118q
            show own_Comes p e below s _ _ _ (T118.setTop (mkF m 226 #[.val (.int p0), .val (.int p1), .val (.int p2), .val (.int p3), .val (.int (4 : Int32)), .val (.int (1 : Int32)), .val (.ref a85), .val (.ref a86), .val (.ref a87), .val (.ref a88), .val (.ref b89), .val (.ref a101), .val (.ref a86), .val (.ref a86)] [(.int (4 : Int32))]))
            refine own_by (fun _ kS => XS.iload X118.here hx rfl (hb hby at_226) rfl kS) ?_
            show own_Comes p e below s _ _ _ (T118.setTop (mkF m 228 #[.val (.int p0), .val (.int p1), .val (.int p2), .val (.int p3), .val (.int (4 : Int32)), .val (.int (1 : Int32)), .val (.ref a85), .val (.ref a86), .val (.ref a87), .val (.ref a88), .val (.ref b89), .val (.ref a101), .val (.ref a86), .val (.ref a86)] [(.int (4 : Int32)), (.int (4 : Int32))]))
            have hb119 : (4 : Int32) = (4 : Int32) := by decide
            refine own_by (fun _ kS => XS.icmpNo X118.here hx rfl (hb hby at_228) rfl (teq hb119).2 kS) ?_
            show own_Comes p e below s _ _ _ (T118.setTop (mkF m 231 #[.val (.int p0), .val (.int p1), .val (.int p2), .val (.int p3), .val (.int (4 : Int32)), .val (.int (1 : Int32)), .val (.ref a85), .val (.ref a86), .val (.ref a87), .val (.ref a88), .val (.ref b89), .val (.ref a101), .val (.ref a86), .val (.ref a86)] []))
            refine own_by (fun _ kS => XS.aload X118.here hx rfl (hb hby at_231) rfl rfl kS) ?_
            show own_Comes p e below s _ _ _ (T118.setTop (mkF m 233 #[.val (.int p0), .val (.int p1), .val (.int p2), .val (.int p3), .val (.int (4 : Int32)), .val (.int (1 : Int32)), .val (.ref a85), .val (.ref a86), .val (.ref a87), .val (.ref a88), .val (.ref b89), .val (.ref a101), .val (.ref a86), .val (.ref a86)] [(.ref b89)]))
            refine own_by (fun _ kS => XS.iconst X118.here hx rfl (hb hby at_233) kS) ?_
            show own_Comes p e below s _ _ _ (T118.setTop (mkF m 234 #[.val (.int p0), .val (.int p1), .val (.int p2), .val (.int p3), .val (.int (4 : Int32)), .val (.int (1 : Int32)), .val (.ref a85), .val (.ref a86), .val (.ref a87), .val (.ref a88), .val (.ref b89), .val (.ref a101), .val (.ref a86), .val (.ref a86)] [(.int (0 : Int32)), (.ref b89)]))
            obtain ⟨cq120, kq120, q120a, q120b, q120c⟩ := isOf hZ e118 (hM99.ext E101).1
            obtain ⟨_, _, ⟨T120, L120, k120, n120⟩, -, X120, ⟨Lc120, hQ120, l120, y120, z120⟩, st120⟩ := X118.interfaceBack hx (xi := (⟨"java/util/List", "get", "(I)Ljava/lang/Object;"⟩ : MethodName)) (y := (⟨"java/util/ArrayList", "get", "(I)Ljava/lang/Object;"⟩ : MethodName)) hown (mvT hZ (hw _ (List.mem_of_getElem? (i := 148) rfl))) (mvT hZ (hw _ (List.mem_of_getElem? (i := 121) rfl))) (mvT hZ (hw _ (List.mem_of_getElem? (i := 122) rfl))) (mvT hZ (hw _ (List.mem_of_getElem? (i := 123) rfl))) (mvT hZ (hw _ (List.mem_of_getElem? (i := 124) rfl))) (mvT hZ (hw _ (List.mem_of_getElem? (i := 125) rfl))) (mvT hZ (hw _ (List.mem_of_getElem? (i := 126) rfl))) (mvT hZ (hw _ (List.mem_of_getElem? (i := 66) rfl))) (by decide) (backOf (W := 0) (rm22 l Z a0 hw [] b89 (0 : Int32) a93 k93 (4 : Int32) [(.ref a85), (.ref a86), (.ref a87), (.ref a88), .null, .null, .null, .null, .null, .null] a85 T101.heap n0 (Nat.le_trans (Nat.le_trans (Nat.le_trans (Nat.le_trans (Nat.le_trans (Nat.le_trans (Nat.le_trans (Nat.le_trans (Nat.le_trans (Nat.le_trans (Nat.le_trans Z0 E85.1) E86.1) E87.1) E88.1) E89.1) K91.1) K93.1) K95.1) K97.1) K99.1) E101.1) (hM99.ext E101) (by decide) (by decide) (by decide) rfl) hZ (hw _ (List.mem_of_getElem? (i := 127) rfl)) (hw _ (List.mem_of_getElem? (i := 37) rfl)) (by decide) (by decide)) q120a q120b q120c (g := (mkF m 234 #[.val (.int p0), .val (.int p1), .val (.int p2), .val (.int p3), .val (.int (4 : Int32)), .val (.int (1 : Int32)), .val (.ref a85), .val (.ref a86), .val (.ref a87), .val (.ref a88), .val (.ref b89), .val (.ref a101), .val (.ref a86), .val (.ref a86)] [(.int (0 : Int32)), (.ref b89)])) rfl (by rw [hml]; rfl) (Steps.refl _) (argsL := [(.int (0 : Int32))]) (rest := []) (lenOf pd__I_Ljava_lang_Object__821 rfl) rfl (by show 2 * 0 + _ ≤ _; exact Nat.le_of_eq rfl) (hb hby at_234) (fun _ _ => ⟨rfl, e118, (by decide : 16 + 0 ≤ _), (by decide : 50 + 0 ≤ _)⟩)
            dsimp only [Pt.U, Pt.locs, Pt.cells, Pt.slots] at X120 l120 y120 z120 st120 hQ120
            subst l120 y120 z120
            obtain ⟨rfl, N120q, e120q⟩ := hQ120
            have N120 := Fr.app N118 N120q
            refine own_tr st120 ?_
            have e120 : T120.heap = T101.heap := e120q
            show own_Comes p e below s _ _ _ (T120.setTop (mkF m 239 #[.val (.int p0), .val (.int p1), .val (.int p2), .val (.int p3), .val (.int (4 : Int32)), .val (.int (1 : Int32)), .val (.ref a85), .val (.ref a86), .val (.ref a87), .val (.ref a88), .val (.ref b89), .val (.ref a101), .val (.ref a86), .val (.ref a86)] [(.ref a85)]))
            have c121 := (((((c92.keep K93).keep K95).keep K97).keep K99).ext E101)
            obtain ⟨T122, X122, e122, st122⟩ := castY X120 hx hZ hown (hw _ (List.mem_of_getElem? (i := 6) rfl)) e120 (Ins.self c121) (g := (mkF m 239 #[.val (.int p0), .val (.int p1), .val (.int p2), .val (.int p3), .val (.int (4 : Int32)), .val (.int (1 : Int32)), .val (.ref a85), .val (.ref a86), .val (.ref a87), .val (.ref a88), .val (.ref b89), .val (.ref a101), .val (.ref a86), .val (.ref a86)] [(.ref a85)])) rfl rfl (hb hby at_239)
            refine own_by st122 ?_
            show own_Comes p e below s _ _ _ (T122.setTop (mkF m 242 #[.val (.int p0), .val (.int p1), .val (.int p2), .val (.int p3), .val (.int (4 : Int32)), .val (.int (1 : Int32)), .val (.ref a85), .val (.ref a86), .val (.ref a87), .val (.ref a88), .val (.ref b89), .val (.ref a101), .val (.ref a86), .val (.ref a86)] [(.ref a85)]))
            refine own_by (fun _ kS => XS.aload X122.here hx rfl (hb hby at_242) rfl rfl kS) ?_
            show own_Comes p e below s _ _ _ (T122.setTop (mkF m 244 #[.val (.int p0), .val (.int p1), .val (.int p2), .val (.int p3), .val (.int (4 : Int32)), .val (.int (1 : Int32)), .val (.ref a85), .val (.ref a86), .val (.ref a87), .val (.ref a88), .val (.ref b89), .val (.ref a101), .val (.ref a86), .val (.ref a86)] [(.ref a85), (.ref a85)]))
            obtain ⟨cq123, kq123, q123a, q123b, q123c⟩ := isOf hZ e122 c121
            obtain ⟨_, _, ⟨T123, L123, k123, n123⟩, -, X123, ⟨Lc123, hQ123, l123, y123, z123⟩, st123⟩ := X122.virtualBack hx (y := (⟨"java/lang/String", "equals", "(Ljava/lang/Object;)Z"⟩ : MethodName)) (z := (⟨"java/lang/String", "equals", "(Ljava/lang/Object;)Z"⟩ : MethodName)) hown (mvT hZ (hw _ (List.mem_of_getElem? (i := 142) rfl))) (mvT hZ (hw _ (List.mem_of_getElem? (i := 143) rfl))) (notFace_of_selects (args := #[]) (mvT hZ (hw _ (List.mem_of_getElem? (i := 145) rfl)))) (mvT hZ (hw _ (List.mem_of_getElem? (i := 145) rfl))) (mvT hZ (hw _ (List.mem_of_getElem? (i := 144) rfl))) (by decide) (backOf (W := 0) (rm26 l Z a0 hw [] a85 T101.heap n0 (Nat.le_trans (Nat.le_trans (Nat.le_trans (Nat.le_trans (Nat.le_trans (Nat.le_trans (Nat.le_trans (Nat.le_trans (Nat.le_trans (Nat.le_trans (Nat.le_trans Z0 E85.1) E86.1) E87.1) E88.1) E89.1) K91.1) K93.1) K95.1) K97.1) K99.1) E101.1)) hZ (hw _ (List.mem_of_getElem? (i := 146) rfl)) (hw _ (List.mem_of_getElem? (i := 8) rfl)) (by decide) (by decide)) q123a q123c (g := (mkF m 244 #[.val (.int p0), .val (.int p1), .val (.int p2), .val (.int p3), .val (.int (4 : Int32)), .val (.int (1 : Int32)), .val (.ref a85), .val (.ref a86), .val (.ref a87), .val (.ref a88), .val (.ref b89), .val (.ref a101), .val (.ref a86), .val (.ref a86)] [(.ref a85), (.ref a85)])) rfl (by rw [hml]; rfl) (Steps.refl _) (argsL := [(.ref a85)]) (rest := []) (lenOf pd__Ljava_lang_Object__Z_838 rfl) rfl (by show 2 * 0 + _ ≤ _; exact Nat.le_of_eq rfl) (hb hby at_244) (fun _ _ => ⟨rfl, e122, (by decide : 16 + 0 ≤ _), (by decide : 50 + 0 ≤ _)⟩)
            dsimp only [Pt.U, Pt.locs, Pt.cells, Pt.slots] at X123 l123 y123 z123 st123 hQ123
            subst l123 y123 z123
            obtain ⟨rfl, N123q, e123q⟩ := hQ123
            have N123 := Fr.app N120 N123q
            refine own_tr st123 ?_
            have e123 : T123.heap = T101.heap := e123q
            show own_Comes p e below s _ _ _ (T123.setTop (mkF m 247 #[.val (.int p0), .val (.int p1), .val (.int p2), .val (.int p3), .val (.int (4 : Int32)), .val (.int (1 : Int32)), .val (.ref a85), .val (.ref a86), .val (.ref a87), .val (.ref a88), .val (.ref b89), .val (.ref a101), .val (.ref a86), .val (.ref a86)] [(.int (1 : Int32))]))
            have hb124 : ¬ ((1 : Int32) = (0 : Int32)) := by decide
            refine own_by (fun _ kS => XS.ifNo X123.here hx rfl (hb hby at_247) rfl ((if0 _ _).trans (feq hb124).1) kS) ?_
            show own_Comes p e below s _ _ _ (T123.setTop (mkF m 250 #[.val (.int p0), .val (.int p1), .val (.int p2), .val (.int p3), .val (.int (4 : Int32)), .val (.int (1 : Int32)), .val (.ref a85), .val (.ref a86), .val (.ref a87), .val (.ref a88), .val (.ref b89), .val (.ref a101), .val (.ref a86), .val (.ref a86)] []))
            refine own_by (fun _ kS => XS.iconst X123.here hx rfl (hb hby at_250) kS) ?_
            show own_Comes p e below s _ _ _ (T123.setTop (mkF m 251 #[.val (.int p0), .val (.int p1), .val (.int p2), .val (.int p3), .val (.int (4 : Int32)), .val (.int (1 : Int32)), .val (.ref a85), .val (.ref a86), .val (.ref a87), .val (.ref a88), .val (.ref b89), .val (.ref a101), .val (.ref a86), .val (.ref a86)] [(.int (1 : Int32))]))
            refine own_by (fun _ kS => XS.goto X123.here hx rfl (pc0 := 251) (pc' := 255) rfl (hb hby at_251) (by decide) (by decide) kS) ?_
            show own_Comes p e below s _ _ _ (T123.setTop (mkF m 255 #[.val (.int p0), .val (.int p1), .val (.int p2), .val (.int p3), .val (.int (4 : Int32)), .val (.int (1 : Int32)), .val (.ref a85), .val (.ref a86), .val (.ref a87), .val (.ref a88), .val (.ref b89), .val (.ref a101), .val (.ref a86), .val (.ref a86)] [(.int (1 : Int32))]))
            refine own_ret X123 (v := some (.int (1 : Int32))) (fun h => by rw [Bd.returns] at h; cases h) Bd.notSynchronized (by decide) (by decide) ?_ (fun fs hr => retN X123 hx (t := .boolean) Bd.returns (by simp) (hb hby at_255) hr)
            rw [e123]; exact ⟨rfl, N123⟩
          · have _hh : True := trivial
            by_cases hi4_2 : I.toInt = 2
            · rw [show I = (2 : Int32) from own_ki (n := 2) (by omega) (by decide)]
              show own_Comes p e below s _ _ _ (T101.setTop (mkF m 153 #[.val (.int p0), .val (.int p1), .val (.int p2), .val (.int p3), .val (.int (4 : Int32)), .val (.int (2 : Int32)), .val (.ref a85), .val (.ref a86), .val (.ref a87), .val (.ref a88), .val (.ref b89), .val (.ref a101), .unset, .unset] [(.ref b89)]))
              refine own_by (fun _ kS => XS.iload X101.here hx rfl (hb hby at_153) rfl kS) ?_
              show own_Comes p e below s _ _ _ (T101.setTop (mkF m 155 #[.val (.int p0), .val (.int p1), .val (.int p2), .val (.int p3), .val (.int (4 : Int32)), .val (.int (2 : Int32)), .val (.ref a85), .val (.ref a86), .val (.ref a87), .val (.ref a88), .val (.ref b89), .val (.ref a101), .unset, .unset] [(.int (2 : Int32)), (.ref b89)]))
              refine own_by (fun _ kS => XS.aload X101.here hx rfl (hb hby at_155) rfl rfl kS) ?_
              show own_Comes p e below s _ _ _ (T101.setTop (mkF m 157 #[.val (.int p0), .val (.int p1), .val (.int p2), .val (.int p3), .val (.int (4 : Int32)), .val (.int (2 : Int32)), .val (.ref a85), .val (.ref a86), .val (.ref a87), .val (.ref a88), .val (.ref b89), .val (.ref a101), .unset, .unset] [(.ref a101), (.int (2 : Int32)), (.ref b89)]))
              obtain ⟨_, _, ⟨T125, L125, k125, n125⟩, -, X125, ⟨Lc125, hQ125, l125, y125, z125⟩, st125⟩ := Jvm.LawKit.callS X101 hx (y := (⟨"com/example/callyard/callyard/cli/CommandLine", "operand", "(Ljava/util/List;ILjava/lang/String;)Ljava/lang/String;"⟩ : MethodName)) hown (mvT hZ (hw _ (List.mem_of_getElem? (i := 108) rfl))) (mvT hZ (hw _ (List.mem_of_getElem? (i := 109) rfl))) (mvT hZ (hw _ (List.mem_of_getElem? (i := 110) rfl))) (mvT hZ (hw _ (List.mem_of_getElem? (i := 111) rfl))) (by decide) (backOf (W := 0) (rm20 l Z a0 hw [] b89 (2 : Int32) a101 a93 k93 (4 : Int32) [(.ref a85), (.ref a86), (.ref a87), (.ref a88), .null, .null, .null, .null, .null, .null] a87 T101.heap n0 (Nat.le_trans (Nat.le_trans (Nat.le_trans (Nat.le_trans (Nat.le_trans (Nat.le_trans (Nat.le_trans (Nat.le_trans (Nat.le_trans (Nat.le_trans (Nat.le_trans Z0 E85.1) E86.1) E87.1) E88.1) E89.1) K91.1) K93.1) K95.1) K97.1) K99.1) E101.1) (hM99.ext E101) (by decide) (by decide) (by decide) rfl (((c96.keep K97).keep K99).ext E101)) hZ (hw _ (List.mem_of_getElem? (i := 111) rfl)) (hw _ (List.mem_of_getElem? (i := 110) rfl)) (by decide) (by decide)) (g := (mkF m 157 #[.val (.int p0), .val (.int p1), .val (.int p2), .val (.int p3), .val (.int (4 : Int32)), .val (.int (2 : Int32)), .val (.ref a85), .val (.ref a86), .val (.ref a87), .val (.ref a88), .val (.ref b89), .val (.ref a101), .unset, .unset] [(.ref a101), (.int (2 : Int32)), (.ref b89)])) rfl (by rw [hml]; rfl) (argsL := [(.ref b89), (.int (2 : Int32)), (.ref a101)]) (rest := []) (lenOf pd__Ljava_util_List_ILjava_lang_String__Ljava_lang_String__66 rfl) rfl (by show 2 * 0 + _ ≤ _; exact Nat.le_of_eq rfl) (hb hby at_157) (fun _ _ => ⟨rfl, rfl, (by decide : 16 + 0 ≤ _), (by decide : 50 + 0 ≤ _)⟩)
              dsimp only [Pt.U, Pt.locs, Pt.cells, Pt.slots] at X125 l125 y125 z125 st125 hQ125
              subst l125 y125 z125
              obtain ⟨rfl, N125q, e125q⟩ := hQ125
              have N125 := Fr.app N101 N125q
              refine own_by st125 ?_
              have e125 : T125.heap = T101.heap := e125q
              show own_Comes p e below s _ _ _ (T125.setTop (mkF m 160 #[.val (.int p0), .val (.int p1), .val (.int p2), .val (.int p3), .val (.int (4 : Int32)), .val (.int (2 : Int32)), .val (.ref a85), .val (.ref a86), .val (.ref a87), .val (.ref a88), .val (.ref b89), .val (.ref a101), .unset, .unset] [(.ref a87)]))
              refine own_by (fun _ kS => XS.astore X125.here hx rfl (hb hby at_160) rfl rfl (l' := #[.val (.int p0), .val (.int p1), .val (.int p2), .val (.int p3), .val (.int (4 : Int32)), .val (.int (2 : Int32)), .val (.ref a85), .val (.ref a86), .val (.ref a87), .val (.ref a88), .val (.ref b89), .val (.ref a101), .val (.ref a87), .unset]) rfl kS) ?_
              show own_Comes p e below s _ _ _ (T125.setTop (mkF m 162 #[.val (.int p0), .val (.int p1), .val (.int p2), .val (.int p3), .val (.int (4 : Int32)), .val (.int (2 : Int32)), .val (.ref a85), .val (.ref a86), .val (.ref a87), .val (.ref a88), .val (.ref b89), .val (.ref a101), .val (.ref a87), .unset] []))
              refine own_by (fun _ kS => XS.iload X125.here hx rfl (hb hby at_162) rfl kS) ?_
              show own_Comes p e below s _ _ _ (T125.setTop (mkF m 164 #[.val (.int p0), .val (.int p1), .val (.int p2), .val (.int p3), .val (.int (4 : Int32)), .val (.int (2 : Int32)), .val (.ref a85), .val (.ref a86), .val (.ref a87), .val (.ref a88), .val (.ref b89), .val (.ref a101), .val (.ref a87), .unset] [(.int (2 : Int32))]))
              have hb126 : ¬ ((2 : Int32) = (0 : Int32)) := by decide
              refine own_by (fun _ kS => XS.ifYes X125.here hx rfl (pc0 := 164) (pc' := 174) rfl (hb hby at_164) rfl ((if0 _ _).trans (feq hb126).2) (by decide) (by decide) kS) ?_
              show own_Comes p e below s _ _ _ (T125.setTop (mkF m 174 #[.val (.int p0), .val (.int p1), .val (.int p2), .val (.int p3), .val (.int (4 : Int32)), .val (.int (2 : Int32)), .val (.ref a85), .val (.ref a86), .val (.ref a87), .val (.ref a88), .val (.ref b89), .val (.ref a101), .val (.ref a87), .unset] []))
              refine own_by (fun _ kS => XS.iload X125.here hx rfl (hb hby at_174) rfl kS) ?_
              show own_Comes p e below s _ _ _ (T125.setTop (mkF m 176 #[.val (.int p0), .val (.int p1), .val (.int p2), .val (.int p3), .val (.int (4 : Int32)), .val (.int (2 : Int32)), .val (.ref a85), .val (.ref a86), .val (.ref a87), .val (.ref a88), .val (.ref b89), .val (.ref a101), .val (.ref a87), .unset] [(.int (2 : Int32))]))
              refine own_by (fun _ kS => XS.iconst X125.here hx rfl (hb hby at_176) kS) ?_
              show own_Comes p e below s _ _ _ (T125.setTop (mkF m 177 #[.val (.int p0), .val (.int p1), .val (.int p2), .val (.int p3), .val (.int (4 : Int32)), .val (.int (2 : Int32)), .val (.ref a85), .val (.ref a86), .val (.ref a87), .val (.ref a88), .val (.ref b89), .val (.ref a101), .val (.ref a87), .unset] [(.int (1 : Int32)), (.int (2 : Int32))]))
              have hb127 : ¬ ((2 : Int32) = (1 : Int32)) := by decide
              refine own_by (fun _ kS => XS.icmpYes X125.here hx rfl (pc0 := 177) (pc' := 187) rfl (hb hby at_177) rfl (feq hb127).2 (by decide) (by decide) kS) ?_
              show own_Comes p e below s _ _ _ (T125.setTop (mkF m 187 #[.val (.int p0), .val (.int p1), .val (.int p2), .val (.int p3), .val (.int (4 : Int32)), .val (.int (2 : Int32)), .val (.ref a85), .val (.ref a86), .val (.ref a87), .val (.ref a88), .val (.ref b89), .val (.ref a101), .val (.ref a87), .unset] []))
              refine own_by (fun _ kS => XS.iload X125.here hx rfl (hb hby at_187) rfl kS) ?_
              show own_Comes p e below s _ _ _ (T125.setTop (mkF m 189 #[.val (.int p0), .val (.int p1), .val (.int p2), .val (.int p3), .val (.int (4 : Int32)), .val (.int (2 : Int32)), .val (.ref a85), .val (.ref a86), .val (.ref a87), .val (.ref a88), .val (.ref b89), .val (.ref a101), .val (.ref a87), .unset] [(.int (2 : Int32))]))
              refine own_by (fun _ kS => XS.iconst X125.here hx rfl (hb hby at_189) kS) ?_
              show own_Comes p e below s _ _ _ (T125.setTop (mkF m 190 #[.val (.int p0), .val (.int p1), .val (.int p2), .val (.int p3), .val (.int (4 : Int32)), .val (.int (2 : Int32)), .val (.ref a85), .val (.ref a86), .val (.ref a87), .val (.ref a88), .val (.ref b89), .val (.ref a101), .val (.ref a87), .unset] [(.int (2 : Int32)), (.int (2 : Int32))]))
              have hb128 : (2 : Int32) = (2 : Int32) := by decide
              refine own_by (fun _ kS => XS.icmpNo X125.here hx rfl (hb hby at_190) rfl (teq hb128).2 kS) ?_
              show own_Comes p e below s _ _ _ (T125.setTop (mkF m 193 #[.val (.int p0), .val (.int p1), .val (.int p2), .val (.int p3), .val (.int (4 : Int32)), .val (.int (2 : Int32)), .val (.ref a85), .val (.ref a86), .val (.ref a87), .val (.ref a88), .val (.ref b89), .val (.ref a101), .val (.ref a87), .unset] []))
              refine own_by (fun _ kS => XS.aload X125.here hx rfl (hb hby at_193) rfl rfl kS) ?_
              show own_Comes p e below s _ _ _ (T125.setTop (mkF m 195 #[.val (.int p0), .val (.int p1), .val (.int p2), .val (.int p3), .val (.int (4 : Int32)), .val (.int (2 : Int32)), .val (.ref a85), .val (.ref a86), .val (.ref a87), .val (.ref a88), .val (.ref b89), .val (.ref a101), .val (.ref a87), .unset] [(.ref a87)]))
              refine own_by (fun _ kS => XS.astore X125.here hx rfl (hb hby at_195) rfl rfl (l' := #[.val (.int p0), .val (.int p1), .val (.int p2), .val (.int p3), .val (.int (4 : Int32)), .val (.int (2 : Int32)), .val (.ref a85), .val (.ref a86), .val (.ref a87), .val (.ref a88), .val (.ref b89), .val (.ref a101), .val (.ref a87), .val (.ref a87)]) rfl kS) ?_
              show own_Comes p e below s _ _ _ (T125.setTop (mkF m 197 #[.val (.int p0), .val (.int p1), .val (.int p2), .val (.int p3), .val (.int (4 : Int32)), .val (.int (2 : Int32)), .val (.ref a85), .val (.ref a86), .val (.ref a87), .val (.ref a88), .val (.ref b89), .val (.ref a101), .val (.ref a87), .val (.ref a87)] []))
              refine own_by (fun _ kS => XS.goto X125.here hx rfl (pc0 := 197) (pc' := 204) rfl (hb hby at_197) (by decide) (by decide) kS) ?_
              show own_Comes p e below s _ _ _ (T125.setTop (mkF m 204 #[.val (.int p0), .val (.int p1), .val (.int p2), .val (.int p3), .val (.int (4 : Int32)), .val (.int (2 : Int32)), .val (.ref a85), .val (.ref a86), .val (.ref a87), .val (.ref a88), .val (.ref b89), .val (.ref a101), .val (.ref a87), .val (.ref a87)] []))
              refine own_by (fun _ kS => XS.aload X125.here hx rfl (hb hby at_204) rfl rfl kS) ?_
              show own_Comes p e below s _ _ _ (T125.setTop (mkF m 206 #[.val (.int p0), .val (.int p1), .val (.int p2), .val (.int p3), .val (.int (4 : Int32)), .val (.int (2 : Int32)), .val (.ref a85), .val (.ref a86), .val (.ref a87), .val (.ref a88), .val (.ref b89), .val (.ref a101), .val (.ref a87), .val (.ref a87)] [(.ref a87)]))
              refine own_by (fun _ kS => XS.ifnullNo X125.here hx rfl (hb hby at_206) rfl kS) ?_
              show own_Comes p e below s _ _ _ (T125.setTop (mkF m 209 #[.val (.int p0), .val (.int p1), .val (.int p2), .val (.int p3), .val (.int (4 : Int32)), .val (.int (2 : Int32)), .val (.ref a85), .val (.ref a86), .val (.ref a87), .val (.ref a88), .val (.ref b89), .val (.ref a101), .val (.ref a87), .val (.ref a87)] []))
              refine own_by (fun _ kS => XS.aload X125.here hx rfl (hb hby at_209) rfl rfl kS) ?_
              show own_Comes p e below s _ _ _ (T125.setTop (mkF m 211 #[.val (.int p0), .val (.int p1), .val (.int p2), .val (.int p3), .val (.int (4 : Int32)), .val (.int (2 : Int32)), .val (.ref a85), .val (.ref a86), .val (.ref a87), .val (.ref a88), .val (.ref b89), .val (.ref a101), .val (.ref a87), .val (.ref a87)] [(.ref a87)]))
              refine own_by (fun _ kS => XS.aload X125.here hx rfl (hb hby at_211) rfl rfl kS) ?_
              show own_Comes p e below s _ _ _ (T125.setTop (mkF m 213 #[.val (.int p0), .val (.int p1), .val (.int p2), .val (.int p3), .val (.int (4 : Int32)), .val (.int (2 : Int32)), .val (.ref a85), .val (.ref a86), .val (.ref a87), .val (.ref a88), .val (.ref b89), .val (.ref a101), .val (.ref a87), .val (.ref a87)] [(.ref a87), (.ref a87)]))
              obtain ⟨cq129, kq129, q129a, q129b, q129c⟩ := isOf hZ e125 (((c96.keep K97).keep K99).ext E101)
              obtain ⟨_, _, ⟨T129, L129, k129, n129⟩, -, X129, ⟨Lc129, hQ129, l129, y129, z129⟩, st129⟩ := X125.virtualBack hx (y := (⟨"java/lang/String", "equals", "(Ljava/lang/Object;)Z"⟩ : MethodName)) (z := (⟨"java/lang/String", "equals", "(Ljava/lang/Object;)Z"⟩ : MethodName)) hown (mvT hZ (hw _ (List.mem_of_getElem? (i := 142) rfl))) (mvT hZ (hw _ (List.mem_of_getElem? (i := 143) rfl))) (notFace_of_selects (args := #[]) (mvT hZ (hw _ (List.mem_of_getElem? (i := 145) rfl)))) (mvT hZ (hw _ (List.mem_of_getElem? (i := 145) rfl))) (mvT hZ (hw _ (List.mem_of_getElem? (i := 144) rfl))) (by decide) (backOf (W := 0) (rm26 l Z a0 hw [] a87 T101.heap n0 (Nat.le_trans (Nat.le_trans (Nat.le_trans (Nat.le_trans (Nat.le_trans (Nat.le_trans (Nat.le_trans (Nat.le_trans (Nat.le_trans (Nat.le_trans (Nat.le_trans Z0 E85.1) E86.1) E87.1) E88.1) E89.1) K91.1) K93.1) K95.1) K97.1) K99.1) E101.1)) hZ (hw _ (List.mem_of_getElem? (i := 146) rfl)) (hw _ (List.mem_of_getElem? (i := 8) rfl)) (by decide) (by decide)) q129a q129c (g := (mkF m 213 #[.val (.int p0), .val (.int p1), .val (.int p2), .val (.int p3), .val (.int (4 : Int32)), .val (.int (2 : Int32)), .val (.ref a85), .val (.ref a86), .val (.ref a87), .val (.ref a88), .val (.ref b89), .val (.ref a101), .val (.ref a87), .val (.ref a87)] [(.ref a87), (.ref a87)])) rfl (by rw [hml]; rfl) (Steps.refl _) (argsL := [(.ref a87)]) (rest := []) (lenOf pd__Ljava_lang_Object__Z_838 rfl) rfl (by show 2 * 0 + _ ≤ _; exact Nat.le_of_eq rfl) (hb hby at_213) (fun _ _ => ⟨rfl, e125, (by decide : 16 + 0 ≤ _), (by decide : 50 + 0 ≤ _)⟩)
              dsimp only [Pt.U, Pt.locs, Pt.cells, Pt.slots] at X129 l129 y129 z129 st129 hQ129
              subst l129 y129 z129
              obtain ⟨rfl, N129q, e129q⟩ := hQ129
              have N129 := Fr.app N125 N129q
              refine own_tr st129 ?_
              have e129 : T129.heap = T101.heap := e129q
              show own_Comes p e below s _ _ _ (T129.setTop (mkF m 216 #[.val (.int p0), .val (.int p1), .val (.int p2), .val (.int p3), .val (.int (4 : Int32)), .val (.int (2 : Int32)), .val (.ref a85), .val (.ref a86), .val (.ref a87), .val (.ref a88), .val (.ref b89), .val (.ref a101), .val (.ref a87), .val (.ref a87)] [(.int (1 : Int32))]))
              have hb130 : ¬ ((1 : Int32) = (0 : Int32)) := by decide
              refine own_by (fun _ kS => XS.ifNo X129.here hx rfl (hb hby at_216) rfl ((if0 _ _).trans (feq hb130).1) kS) ?_
              show own_Comes p e below s _ _ _ (T129.setTop (mkF m 219 #[.val (.int p0), .val (.int p1), .val (.int p2), .val (.int p3), .val (.int (4 : Int32)), .val (.int (2 : Int32)), .val (.ref a85), .val (.ref a86), .val (.ref a87), .val (.ref a88), .val (.ref b89), .val (.ref a101), .val (.ref a87), .val (.ref a87)] []))
              refine own_by (fun _ kS => XS.aload X129.here hx rfl (hb hby at_219) rfl rfl kS) ?_
              show own_Comes p e below s _ _ _ (T129.setTop (mkF m 221 #[.val (.int p0), .val (.int p1), .val (.int p2), .val (.int p3), .val (.int (4 : Int32)), .val (.int (2 : Int32)), .val (.ref a85), .val (.ref a86), .val (.ref a87), .val (.ref a88), .val (.ref b89), .val (.ref a101), .val (.ref a87), .val (.ref a87)] [(.ref b89)]))
              obtain ⟨cq131, kq131, q131a, q131b, q131c⟩ := isOf hZ e129 (hM99.ext E101).1
              obtain ⟨_, _, ⟨T131, L131, k131, n131⟩, -, X131, ⟨Lc131, hQ131, l131, y131, z131⟩, st131⟩ := X129.interfaceBack hx (xi := (⟨"java/util/List", "size", "()I"⟩ : MethodName)) (y := (⟨"java/util/ArrayList", "size", "()I"⟩ : MethodName)) hown (mvT hZ (hw _ (List.mem_of_getElem? (i := 147) rfl))) (mvT hZ (hw _ (List.mem_of_getElem? (i := 113) rfl))) (mvT hZ (hw _ (List.mem_of_getElem? (i := 114) rfl))) (mvT hZ (hw _ (List.mem_of_getElem? (i := 115) rfl))) (mvT hZ (hw _ (List.mem_of_getElem? (i := 116) rfl))) (mvT hZ (hw _ (List.mem_of_getElem? (i := 117) rfl))) (mvT hZ (hw _ (List.mem_of_getElem? (i := 118) rfl))) (mvT hZ (hw _ (List.mem_of_getElem? (i := 66) rfl))) (by decide) (backOf (W := 0) (rm21 l Z a0 hw [] b89 (4 : Int32) T101.heap n0 (Nat.le_trans (Nat.le_trans (Nat.le_trans (Nat.le_trans (Nat.le_trans (Nat.le_trans (Nat.le_trans (Nat.le_trans (Nat.le_trans (Nat.le_trans (Nat.le_trans Z0 E85.1) E86.1) E87.1) E88.1) E89.1) K91.1) K93.1) K95.1) K97.1) K99.1) E101.1) (hM99.ext E101).2.2.2.1) hZ (hw _ (List.mem_of_getElem? (i := 119) rfl)) (hw _ (List.mem_of_getElem? (i := 37) rfl)) (by decide) (by decide)) q131a q131b q131c (g := (mkF m 221 #[.val (.int p0), .val (.int p1), .val (.int p2), .val (.int p3), .val (.int (4 : Int32)), .val (.int (2 : Int32)), .val (.ref a85), .val (.ref a86), .val (.ref a87), .val (.ref a88), .val (.ref b89), .val (.ref a101), .val (.ref a87), .val (.ref a87)] [(.ref b89)])) rfl (by rw [hml]; rfl) (Steps.refl _) (argsL := []) (rest := []) (lenOf pd___I_154 rfl) rfl (by show 2 * 0 + _ ≤ _; exact Nat.le_of_eq rfl) (hb hby at_221) (fun _ _ => ⟨rfl, e129, (by decide : 16 + 0 ≤ _), (by decide : 50 + 0 ≤ _)⟩)
              dsimp only [Pt.U, Pt.locs, Pt.cells, Pt.slots] at X131 l131 y131 z131 st131 hQ131
              subst l131 y131 z131
              obtain ⟨rfl, N131q, e131q⟩ := hQ131
              have N131 := Fr.app N129 N131q
              refine own_tr st131 ?_
              have e131 : T131.heap = T101.heap := e131q
              show own_Comes p e below s _ _ _ (T131.setTop (mkF m 226 #[.val (.int p0), .val (.int p1), .val (.int p2), .val (.int p3), .val (.int (4 : Int32)), .val (.int (2 : Int32)), .val (.ref a85), .val (.ref a86), .val (.ref a87), .val (.ref a88), .val (.ref b89), .val (.ref a101), .val (.ref a87), .val (.ref a87)] [(.int (4 : Int32))]))
              refine own_by (fun _ kS => XS.iload X131.here hx rfl (hb hby at_226) rfl kS) ?_
              show own_Comes p e below s _ _ _ (T131.setTop (mkF m 228 #[.val (.int p0), .val (.int p1), .val (.int p2), .val (.int p3), .val (.int (4 : Int32)), .val (.int (2 : Int32)), .val (.ref a85), .val (.ref a86), .val (.ref a87), .val (.ref a88), .val (.ref b89), .val (.ref a101), .val (.ref a87), .val (.ref a87)] [(.int (4 : Int32)), (.int (4 : Int32))]))
              have hb132 : (4 : Int32) = (4 : Int32) := by decide
              refine own_by (fun _ kS => XS.icmpNo X131.here hx rfl (hb hby at_228) rfl (teq hb132).2 kS) ?_
              show own_Comes p e below s _ _ _ (T131.setTop (mkF m 231 #[.val (.int p0), .val (.int p1), .val (.int p2), .val (.int p3), .val (.int (4 : Int32)), .val (.int (2 : Int32)), .val (.ref a85), .val (.ref a86), .val (.ref a87), .val (.ref a88), .val (.ref b89), .val (.ref a101), .val (.ref a87), .val (.ref a87)] []))
              refine own_by (fun _ kS => XS.aload X131.here hx rfl (hb hby at_231) rfl rfl kS) ?_
              show own_Comes p e below s _ _ _ (T131.setTop (mkF m 233 #[.val (.int p0), .val (.int p1), .val (.int p2), .val (.int p3), .val (.int (4 : Int32)), .val (.int (2 : Int32)), .val (.ref a85), .val (.ref a86), .val (.ref a87), .val (.ref a88), .val (.ref b89), .val (.ref a101), .val (.ref a87), .val (.ref a87)] [(.ref b89)]))
              refine own_by (fun _ kS => XS.iconst X131.here hx rfl (hb hby at_233) kS) ?_
              show own_Comes p e below s _ _ _ (T131.setTop (mkF m 234 #[.val (.int p0), .val (.int p1), .val (.int p2), .val (.int p3), .val (.int (4 : Int32)), .val (.int (2 : Int32)), .val (.ref a85), .val (.ref a86), .val (.ref a87), .val (.ref a88), .val (.ref b89), .val (.ref a101), .val (.ref a87), .val (.ref a87)] [(.int (0 : Int32)), (.ref b89)]))
              obtain ⟨cq133, kq133, q133a, q133b, q133c⟩ := isOf hZ e131 (hM99.ext E101).1
              obtain ⟨_, _, ⟨T133, L133, k133, n133⟩, -, X133, ⟨Lc133, hQ133, l133, y133, z133⟩, st133⟩ := X131.interfaceBack hx (xi := (⟨"java/util/List", "get", "(I)Ljava/lang/Object;"⟩ : MethodName)) (y := (⟨"java/util/ArrayList", "get", "(I)Ljava/lang/Object;"⟩ : MethodName)) hown (mvT hZ (hw _ (List.mem_of_getElem? (i := 148) rfl))) (mvT hZ (hw _ (List.mem_of_getElem? (i := 121) rfl))) (mvT hZ (hw _ (List.mem_of_getElem? (i := 122) rfl))) (mvT hZ (hw _ (List.mem_of_getElem? (i := 123) rfl))) (mvT hZ (hw _ (List.mem_of_getElem? (i := 124) rfl))) (mvT hZ (hw _ (List.mem_of_getElem? (i := 125) rfl))) (mvT hZ (hw _ (List.mem_of_getElem? (i := 126) rfl))) (mvT hZ (hw _ (List.mem_of_getElem? (i := 66) rfl))) (by decide) (backOf (W := 0) (rm22 l Z a0 hw [] b89 (0 : Int32) a93 k93 (4 : Int32) [(.ref a85), (.ref a86), (.ref a87), (.ref a88), .null, .null, .null, .null, .null, .null] a85 T101.heap n0 (Nat.le_trans (Nat.le_trans (Nat.le_trans (Nat.le_trans (Nat.le_trans (Nat.le_trans (Nat.le_trans (Nat.le_trans (Nat.le_trans (Nat.le_trans (Nat.le_trans Z0 E85.1) E86.1) E87.1) E88.1) E89.1) K91.1) K93.1) K95.1) K97.1) K99.1) E101.1) (hM99.ext E101) (by decide) (by decide) (by decide) rfl) hZ (hw _ (List.mem_of_getElem? (i := 127) rfl)) (hw _ (List.mem_of_getElem? (i := 37) rfl)) (by decide) (by decide)) q133a q133b q133c (g := (mkF m 234 #[.val (.int p0), .val (.int p1), .val (.int p2), .val (.int p3), .val (.int (4 : Int32)), .val (.int (2 : Int32)), .val (.ref a85), .val (.ref a86), .val (.ref a87), .val (.ref a88), .val (.ref b89), .val (.ref a101), .val (.ref a87), .val (.ref a87)] [(.int (0 : Int32)), (.ref b89)])) rfl (by rw [hml]; rfl) (Steps.refl _) (argsL := [(.int (0 : Int32))]) (rest := []) (lenOf pd__I_Ljava_lang_Object__821 rfl) rfl (by show 2 * 0 + _ ≤ _; exact Nat.le_of_eq rfl) (hb hby at_234) (fun _ _ => ⟨rfl, e131, (by decide : 16 + 0 ≤ _), (by decide : 50 + 0 ≤ _)⟩)
              dsimp only [Pt.U, Pt.locs, Pt.cells, Pt.slots] at X133 l133 y133 z133 st133 hQ133
              subst l133 y133 z133
              obtain ⟨rfl, N133q, e133q⟩ := hQ133
              have N133 := Fr.app N131 N133q
              refine own_tr st133 ?_
              have e133 : T133.heap = T101.heap := e133q
              show own_Comes p e below s _ _ _ (T133.setTop (mkF m 239 #[.val (.int p0), .val (.int p1), .val (.int p2), .val (.int p3), .val (.int (4 : Int32)), .val (.int (2 : Int32)), .val (.ref a85), .val (.ref a86), .val (.ref a87), .val (.ref a88), .val (.ref b89), .val (.ref a101), .val (.ref a87), .val (.ref a87)] [(.ref a85)]))
              have c134 := (((((c92.keep K93).keep K95).keep K97).keep K99).ext E101)
              obtain ⟨T135, X135, e135, st135⟩ := castY X133 hx hZ hown (hw _ (List.mem_of_getElem? (i := 6) rfl)) e133 (Ins.self c134) (g := (mkF m 239 #[.val (.int p0), .val (.int p1), .val (.int p2), .val (.int p3), .val (.int (4 : Int32)), .val (.int (2 : Int32)), .val (.ref a85), .val (.ref a86), .val (.ref a87), .val (.ref a88), .val (.ref b89), .val (.ref a101), .val (.ref a87), .val (.ref a87)] [(.ref a85)])) rfl rfl (hb hby at_239)
              refine own_by st135 ?_
              show own_Comes p e below s _ _ _ (T135.setTop (mkF m 242 #[.val (.int p0), .val (.int p1), .val (.int p2), .val (.int p3), .val (.int (4 : Int32)), .val (.int (2 : Int32)), .val (.ref a85), .val (.ref a86), .val (.ref a87), .val (.ref a88), .val (.ref b89), .val (.ref a101), .val (.ref a87), .val (.ref a87)] [(.ref a85)]))
              refine own_by (fun _ kS => XS.aload X135.here hx rfl (hb hby at_242) rfl rfl kS) ?_
              show own_Comes p e below s _ _ _ (T135.setTop (mkF m 244 #[.val (.int p0), .val (.int p1), .val (.int p2), .val (.int p3), .val (.int (4 : Int32)), .val (.int (2 : Int32)), .val (.ref a85), .val (.ref a86), .val (.ref a87), .val (.ref a88), .val (.ref b89), .val (.ref a101), .val (.ref a87), .val (.ref a87)] [(.ref a85), (.ref a85)]))
              obtain ⟨cq136, kq136, q136a, q136b, q136c⟩ := isOf hZ e135 c134
              obtain ⟨_, _, ⟨T136, L136, k136, n136⟩, -, X136, ⟨Lc136, hQ136, l136, y136, z136⟩, st136⟩ := X135.virtualBack hx (y := (⟨"java/lang/String", "equals", "(Ljava/lang/Object;)Z"⟩ : MethodName)) (z := (⟨"java/lang/String", "equals", "(Ljava/lang/Object;)Z"⟩ : MethodName)) hown (mvT hZ (hw _ (List.mem_of_getElem? (i := 142) rfl))) (mvT hZ (hw _ (List.mem_of_getElem? (i := 143) rfl))) (notFace_of_selects (args := #[]) (mvT hZ (hw _ (List.mem_of_getElem? (i := 145) rfl)))) (mvT hZ (hw _ (List.mem_of_getElem? (i := 145) rfl))) (mvT hZ (hw _ (List.mem_of_getElem? (i := 144) rfl))) (by decide) (backOf (W := 0) (rm26 l Z a0 hw [] a85 T101.heap n0 (Nat.le_trans (Nat.le_trans (Nat.le_trans (Nat.le_trans (Nat.le_trans (Nat.le_trans (Nat.le_trans (Nat.le_trans (Nat.le_trans (Nat.le_trans (Nat.le_trans Z0 E85.1) E86.1) E87.1) E88.1) E89.1) K91.1) K93.1) K95.1) K97.1) K99.1) E101.1)) hZ (hw _ (List.mem_of_getElem? (i := 146) rfl)) (hw _ (List.mem_of_getElem? (i := 8) rfl)) (by decide) (by decide)) q136a q136c (g := (mkF m 244 #[.val (.int p0), .val (.int p1), .val (.int p2), .val (.int p3), .val (.int (4 : Int32)), .val (.int (2 : Int32)), .val (.ref a85), .val (.ref a86), .val (.ref a87), .val (.ref a88), .val (.ref b89), .val (.ref a101), .val (.ref a87), .val (.ref a87)] [(.ref a85), (.ref a85)])) rfl (by rw [hml]; rfl) (Steps.refl _) (argsL := [(.ref a85)]) (rest := []) (lenOf pd__Ljava_lang_Object__Z_838 rfl) rfl (by show 2 * 0 + _ ≤ _; exact Nat.le_of_eq rfl) (hb hby at_244) (fun _ _ => ⟨rfl, e135, (by decide : 16 + 0 ≤ _), (by decide : 50 + 0 ≤ _)⟩)
              dsimp only [Pt.U, Pt.locs, Pt.cells, Pt.slots] at X136 l136 y136 z136 st136 hQ136
              subst l136 y136 z136
              obtain ⟨rfl, N136q, e136q⟩ := hQ136
              have N136 := Fr.app N133 N136q
              refine own_tr st136 ?_
              have e136 : T136.heap = T101.heap := e136q
              show own_Comes p e below s _ _ _ (T136.setTop (mkF m 247 #[.val (.int p0), .val (.int p1), .val (.int p2), .val (.int p3), .val (.int (4 : Int32)), .val (.int (2 : Int32)), .val (.ref a85), .val (.ref a86), .val (.ref a87), .val (.ref a88), .val (.ref b89), .val (.ref a101), .val (.ref a87), .val (.ref a87)] [(.int (1 : Int32))]))
              have hb137 : ¬ ((1 : Int32) = (0 : Int32)) := by decide
              refine own_by (fun _ kS => XS.ifNo X136.here hx rfl (hb hby at_247) rfl ((if0 _ _).trans (feq hb137).1) kS) ?_
              show own_Comes p e below s _ _ _ (T136.setTop (mkF m 250 #[.val (.int p0), .val (.int p1), .val (.int p2), .val (.int p3), .val (.int (4 : Int32)), .val (.int (2 : Int32)), .val (.ref a85), .val (.ref a86), .val (.ref a87), .val (.ref a88), .val (.ref b89), .val (.ref a101), .val (.ref a87), .val (.ref a87)] []))
              refine own_by (fun _ kS => XS.iconst X136.here hx rfl (hb hby at_250) kS) ?_
              show own_Comes p e below s _ _ _ (T136.setTop (mkF m 251 #[.val (.int p0), .val (.int p1), .val (.int p2), .val (.int p3), .val (.int (4 : Int32)), .val (.int (2 : Int32)), .val (.ref a85), .val (.ref a86), .val (.ref a87), .val (.ref a88), .val (.ref b89), .val (.ref a101), .val (.ref a87), .val (.ref a87)] [(.int (1 : Int32))]))
              refine own_by (fun _ kS => XS.goto X136.here hx rfl (pc0 := 251) (pc' := 255) rfl (hb hby at_251) (by decide) (by decide) kS) ?_
              show own_Comes p e below s _ _ _ (T136.setTop (mkF m 255 #[.val (.int p0), .val (.int p1), .val (.int p2), .val (.int p3), .val (.int (4 : Int32)), .val (.int (2 : Int32)), .val (.ref a85), .val (.ref a86), .val (.ref a87), .val (.ref a88), .val (.ref b89), .val (.ref a101), .val (.ref a87), .val (.ref a87)] [(.int (1 : Int32))]))
              refine own_ret X136 (v := some (.int (1 : Int32))) (fun h => by rw [Bd.returns] at h; cases h) Bd.notSynchronized (by decide) (by decide) ?_ (fun fs hr => retN X136 hx (t := .boolean) Bd.returns (by simp) (hb hby at_255) hr)
              rw [e136]; exact ⟨rfl, N136⟩
            · have _hh : True := trivial
              rw [show I = (3 : Int32) from own_ki (n := 3) (by omega) (by decide)]
              show own_Comes p e below s _ _ _ (T101.setTop (mkF m 153 #[.val (.int p0), .val (.int p1), .val (.int p2), .val (.int p3), .val (.int (4 : Int32)), .val (.int (3 : Int32)), .val (.ref a85), .val (.ref a86), .val (.ref a87), .val (.ref a88), .val (.ref b89), .val (.ref a101), .unset, .unset] [(.ref b89)]))
              refine own_by (fun _ kS => XS.iload X101.here hx rfl (hb hby at_153) rfl kS) ?_
              show own_Comes p e below s _ _ _ (T101.setTop (mkF m 155 #[.val (.int p0), .val (.int p1), .val (.int p2), .val (.int p3), .val (.int (4 : Int32)), .val (.int (3 : Int32)), .val (.ref a85), .val (.ref a86), .val (.ref a87), .val (.ref a88), .val (.ref b89), .val (.ref a101), .unset, .unset] [(.int (3 : Int32)), (.ref b89)]))
              refine own_by (fun _ kS => XS.aload X101.here hx rfl (hb hby at_155) rfl rfl kS) ?_
              show own_Comes p e below s _ _ _ (T101.setTop (mkF m 157 #[.val (.int p0), .val (.int p1), .val (.int p2), .val (.int p3), .val (.int (4 : Int32)), .val (.int (3 : Int32)), .val (.ref a85), .val (.ref a86), .val (.ref a87), .val (.ref a88), .val (.ref b89), .val (.ref a101), .unset, .unset] [(.ref a101), (.int (3 : Int32)), (.ref b89)]))
              obtain ⟨_, _, ⟨T138, L138, k138, n138⟩, -, X138, ⟨Lc138, hQ138, l138, y138, z138⟩, st138⟩ := Jvm.LawKit.callS X101 hx (y := (⟨"com/example/callyard/callyard/cli/CommandLine", "operand", "(Ljava/util/List;ILjava/lang/String;)Ljava/lang/String;"⟩ : MethodName)) hown (mvT hZ (hw _ (List.mem_of_getElem? (i := 108) rfl))) (mvT hZ (hw _ (List.mem_of_getElem? (i := 109) rfl))) (mvT hZ (hw _ (List.mem_of_getElem? (i := 110) rfl))) (mvT hZ (hw _ (List.mem_of_getElem? (i := 111) rfl))) (by decide) (backOf (W := 0) (rm20 l Z a0 hw [] b89 (3 : Int32) a101 a93 k93 (4 : Int32) [(.ref a85), (.ref a86), (.ref a87), (.ref a88), .null, .null, .null, .null, .null, .null] a88 T101.heap n0 (Nat.le_trans (Nat.le_trans (Nat.le_trans (Nat.le_trans (Nat.le_trans (Nat.le_trans (Nat.le_trans (Nat.le_trans (Nat.le_trans (Nat.le_trans (Nat.le_trans Z0 E85.1) E86.1) E87.1) E88.1) E89.1) K91.1) K93.1) K95.1) K97.1) K99.1) E101.1) (hM99.ext E101) (by decide) (by decide) (by decide) rfl ((c98.keep K99).ext E101)) hZ (hw _ (List.mem_of_getElem? (i := 111) rfl)) (hw _ (List.mem_of_getElem? (i := 110) rfl)) (by decide) (by decide)) (g := (mkF m 157 #[.val (.int p0), .val (.int p1), .val (.int p2), .val (.int p3), .val (.int (4 : Int32)), .val (.int (3 : Int32)), .val (.ref a85), .val (.ref a86), .val (.ref a87), .val (.ref a88), .val (.ref b89), .val (.ref a101), .unset, .unset] [(.ref a101), (.int (3 : Int32)), (.ref b89)])) rfl (by rw [hml]; rfl) (argsL := [(.ref b89), (.int (3 : Int32)), (.ref a101)]) (rest := []) (lenOf pd__Ljava_util_List_ILjava_lang_String__Ljava_lang_String__66 rfl) rfl (by show 2 * 0 + _ ≤ _; exact Nat.le_of_eq rfl) (hb hby at_157) (fun _ _ => ⟨rfl, rfl, (by decide : 16 + 0 ≤ _), (by decide : 50 + 0 ≤ _)⟩)
              dsimp only [Pt.U, Pt.locs, Pt.cells, Pt.slots] at X138 l138 y138 z138 st138 hQ138
              subst l138 y138 z138
              obtain ⟨rfl, N138q, e138q⟩ := hQ138
              have N138 := Fr.app N101 N138q
              refine own_by st138 ?_
              have e138 : T138.heap = T101.heap := e138q
              show own_Comes p e below s _ _ _ (T138.setTop (mkF m 160 #[.val (.int p0), .val (.int p1), .val (.int p2), .val (.int p3), .val (.int (4 : Int32)), .val (.int (3 : Int32)), .val (.ref a85), .val (.ref a86), .val (.ref a87), .val (.ref a88), .val (.ref b89), .val (.ref a101), .unset, .unset] [(.ref a88)]))
              refine own_by (fun _ kS => XS.astore X138.here hx rfl (hb hby at_160) rfl rfl (l' := #[.val (.int p0), .val (.int p1), .val (.int p2), .val (.int p3), .val (.int (4 : Int32)), .val (.int (3 : Int32)), .val (.ref a85), .val (.ref a86), .val (.ref a87), .val (.ref a88), .val (.ref b89), .val (.ref a101), .val (.ref a88), .unset]) rfl kS) ?_
              show own_Comes p e below s _ _ _ (T138.setTop (mkF m 162 #[.val (.int p0), .val (.int p1), .val (.int p2), .val (.int p3), .val (.int (4 : Int32)), .val (.int (3 : Int32)), .val (.ref a85), .val (.ref a86), .val (.ref a87), .val (.ref a88), .val (.ref b89), .val (.ref a101), .val (.ref a88), .unset] []))
              refine own_by (fun _ kS => XS.iload X138.here hx rfl (hb hby at_162) rfl kS) ?_
              show own_Comes p e below s _ _ _ (T138.setTop (mkF m 164 #[.val (.int p0), .val (.int p1), .val (.int p2), .val (.int p3), .val (.int (4 : Int32)), .val (.int (3 : Int32)), .val (.ref a85), .val (.ref a86), .val (.ref a87), .val (.ref a88), .val (.ref b89), .val (.ref a101), .val (.ref a88), .unset] [(.int (3 : Int32))]))
              have hb139 : ¬ ((3 : Int32) = (0 : Int32)) := by decide
              refine own_by (fun _ kS => XS.ifYes X138.here hx rfl (pc0 := 164) (pc' := 174) rfl (hb hby at_164) rfl ((if0 _ _).trans (feq hb139).2) (by decide) (by decide) kS) ?_
              show own_Comes p e below s _ _ _ (T138.setTop (mkF m 174 #[.val (.int p0), .val (.int p1), .val (.int p2), .val (.int p3), .val (.int (4 : Int32)), .val (.int (3 : Int32)), .val (.ref a85), .val (.ref a86), .val (.ref a87), .val (.ref a88), .val (.ref b89), .val (.ref a101), .val (.ref a88), .unset] []))
              refine own_by (fun _ kS => XS.iload X138.here hx rfl (hb hby at_174) rfl kS) ?_
              show own_Comes p e below s _ _ _ (T138.setTop (mkF m 176 #[.val (.int p0), .val (.int p1), .val (.int p2), .val (.int p3), .val (.int (4 : Int32)), .val (.int (3 : Int32)), .val (.ref a85), .val (.ref a86), .val (.ref a87), .val (.ref a88), .val (.ref b89), .val (.ref a101), .val (.ref a88), .unset] [(.int (3 : Int32))]))
              refine own_by (fun _ kS => XS.iconst X138.here hx rfl (hb hby at_176) kS) ?_
              show own_Comes p e below s _ _ _ (T138.setTop (mkF m 177 #[.val (.int p0), .val (.int p1), .val (.int p2), .val (.int p3), .val (.int (4 : Int32)), .val (.int (3 : Int32)), .val (.ref a85), .val (.ref a86), .val (.ref a87), .val (.ref a88), .val (.ref b89), .val (.ref a101), .val (.ref a88), .unset] [(.int (1 : Int32)), (.int (3 : Int32))]))
              have hb140 : ¬ ((3 : Int32) = (1 : Int32)) := by decide
              refine own_by (fun _ kS => XS.icmpYes X138.here hx rfl (pc0 := 177) (pc' := 187) rfl (hb hby at_177) rfl (feq hb140).2 (by decide) (by decide) kS) ?_
              show own_Comes p e below s _ _ _ (T138.setTop (mkF m 187 #[.val (.int p0), .val (.int p1), .val (.int p2), .val (.int p3), .val (.int (4 : Int32)), .val (.int (3 : Int32)), .val (.ref a85), .val (.ref a86), .val (.ref a87), .val (.ref a88), .val (.ref b89), .val (.ref a101), .val (.ref a88), .unset] []))
              refine own_by (fun _ kS => XS.iload X138.here hx rfl (hb hby at_187) rfl kS) ?_
              show own_Comes p e below s _ _ _ (T138.setTop (mkF m 189 #[.val (.int p0), .val (.int p1), .val (.int p2), .val (.int p3), .val (.int (4 : Int32)), .val (.int (3 : Int32)), .val (.ref a85), .val (.ref a86), .val (.ref a87), .val (.ref a88), .val (.ref b89), .val (.ref a101), .val (.ref a88), .unset] [(.int (3 : Int32))]))
              refine own_by (fun _ kS => XS.iconst X138.here hx rfl (hb hby at_189) kS) ?_
              show own_Comes p e below s _ _ _ (T138.setTop (mkF m 190 #[.val (.int p0), .val (.int p1), .val (.int p2), .val (.int p3), .val (.int (4 : Int32)), .val (.int (3 : Int32)), .val (.ref a85), .val (.ref a86), .val (.ref a87), .val (.ref a88), .val (.ref b89), .val (.ref a101), .val (.ref a88), .unset] [(.int (2 : Int32)), (.int (3 : Int32))]))
              have hb141 : ¬ ((3 : Int32) = (2 : Int32)) := by decide
              refine own_by (fun _ kS => XS.icmpYes X138.here hx rfl (pc0 := 190) (pc' := 200) rfl (hb hby at_190) rfl (feq hb141).2 (by decide) (by decide) kS) ?_
              show own_Comes p e below s _ _ _ (T138.setTop (mkF m 200 #[.val (.int p0), .val (.int p1), .val (.int p2), .val (.int p3), .val (.int (4 : Int32)), .val (.int (3 : Int32)), .val (.ref a85), .val (.ref a86), .val (.ref a87), .val (.ref a88), .val (.ref b89), .val (.ref a101), .val (.ref a88), .unset] []))
              refine own_by (fun _ kS => XS.aload X138.here hx rfl (hb hby at_200) rfl rfl kS) ?_
              show own_Comes p e below s _ _ _ (T138.setTop (mkF m 202 #[.val (.int p0), .val (.int p1), .val (.int p2), .val (.int p3), .val (.int (4 : Int32)), .val (.int (3 : Int32)), .val (.ref a85), .val (.ref a86), .val (.ref a87), .val (.ref a88), .val (.ref b89), .val (.ref a101), .val (.ref a88), .unset] [(.ref a88)]))
              refine own_by (fun _ kS => XS.astore X138.here hx rfl (hb hby at_202) rfl rfl (l' := #[.val (.int p0), .val (.int p1), .val (.int p2), .val (.int p3), .val (.int (4 : Int32)), .val (.int (3 : Int32)), .val (.ref a85), .val (.ref a86), .val (.ref a87), .val (.ref a88), .val (.ref b89), .val (.ref a101), .val (.ref a88), .val (.ref a88)]) rfl kS) ?_
              show own_Comes p e below s _ _ _ (T138.setTop (mkF m 204 #[.val (.int p0), .val (.int p1), .val (.int p2), .val (.int p3), .val (.int (4 : Int32)), .val (.int (3 : Int32)), .val (.ref a85), .val (.ref a86), .val (.ref a87), .val (.ref a88), .val (.ref b89), .val (.ref a101), .val (.ref a88), .val (.ref a88)] []))
              refine own_by (fun _ kS => XS.aload X138.here hx rfl (hb hby at_204) rfl rfl kS) ?_
              show own_Comes p e below s _ _ _ (T138.setTop (mkF m 206 #[.val (.int p0), .val (.int p1), .val (.int p2), .val (.int p3), .val (.int (4 : Int32)), .val (.int (3 : Int32)), .val (.ref a85), .val (.ref a86), .val (.ref a87), .val (.ref a88), .val (.ref b89), .val (.ref a101), .val (.ref a88), .val (.ref a88)] [(.ref a88)]))
              refine own_by (fun _ kS => XS.ifnullNo X138.here hx rfl (hb hby at_206) rfl kS) ?_
              show own_Comes p e below s _ _ _ (T138.setTop (mkF m 209 #[.val (.int p0), .val (.int p1), .val (.int p2), .val (.int p3), .val (.int (4 : Int32)), .val (.int (3 : Int32)), .val (.ref a85), .val (.ref a86), .val (.ref a87), .val (.ref a88), .val (.ref b89), .val (.ref a101), .val (.ref a88), .val (.ref a88)] []))
              refine own_by (fun _ kS => XS.aload X138.here hx rfl (hb hby at_209) rfl rfl kS) ?_
              show own_Comes p e below s _ _ _ (T138.setTop (mkF m 211 #[.val (.int p0), .val (.int p1), .val (.int p2), .val (.int p3), .val (.int (4 : Int32)), .val (.int (3 : Int32)), .val (.ref a85), .val (.ref a86), .val (.ref a87), .val (.ref a88), .val (.ref b89), .val (.ref a101), .val (.ref a88), .val (.ref a88)] [(.ref a88)]))
              refine own_by (fun _ kS => XS.aload X138.here hx rfl (hb hby at_211) rfl rfl kS) ?_
              show own_Comes p e below s _ _ _ (T138.setTop (mkF m 213 #[.val (.int p0), .val (.int p1), .val (.int p2), .val (.int p3), .val (.int (4 : Int32)), .val (.int (3 : Int32)), .val (.ref a85), .val (.ref a86), .val (.ref a87), .val (.ref a88), .val (.ref b89), .val (.ref a101), .val (.ref a88), .val (.ref a88)] [(.ref a88), (.ref a88)]))
              obtain ⟨cq142, kq142, q142a, q142b, q142c⟩ := isOf hZ e138 ((c98.keep K99).ext E101)
              obtain ⟨_, _, ⟨T142, L142, k142, n142⟩, -, X142, ⟨Lc142, hQ142, l142, y142, z142⟩, st142⟩ := X138.virtualBack hx (y := (⟨"java/lang/String", "equals", "(Ljava/lang/Object;)Z"⟩ : MethodName)) (z := (⟨"java/lang/String", "equals", "(Ljava/lang/Object;)Z"⟩ : MethodName)) hown (mvT hZ (hw _ (List.mem_of_getElem? (i := 142) rfl))) (mvT hZ (hw _ (List.mem_of_getElem? (i := 143) rfl))) (notFace_of_selects (args := #[]) (mvT hZ (hw _ (List.mem_of_getElem? (i := 145) rfl)))) (mvT hZ (hw _ (List.mem_of_getElem? (i := 145) rfl))) (mvT hZ (hw _ (List.mem_of_getElem? (i := 144) rfl))) (by decide) (backOf (W := 0) (rm26 l Z a0 hw [] a88 T101.heap n0 (Nat.le_trans (Nat.le_trans (Nat.le_trans (Nat.le_trans (Nat.le_trans (Nat.le_trans (Nat.le_trans (Nat.le_trans (Nat.le_trans (Nat.le_trans (Nat.le_trans Z0 E85.1) E86.1) E87.1) E88.1) E89.1) K91.1) K93.1) K95.1) K97.1) K99.1) E101.1)) hZ (hw _ (List.mem_of_getElem? (i := 146) rfl)) (hw _ (List.mem_of_getElem? (i := 8) rfl)) (by decide) (by decide)) q142a q142c (g := (mkF m 213 #[.val (.int p0), .val (.int p1), .val (.int p2), .val (.int p3), .val (.int (4 : Int32)), .val (.int (3 : Int32)), .val (.ref a85), .val (.ref a86), .val (.ref a87), .val (.ref a88), .val (.ref b89), .val (.ref a101), .val (.ref a88), .val (.ref a88)] [(.ref a88), (.ref a88)])) rfl (by rw [hml]; rfl) (Steps.refl _) (argsL := [(.ref a88)]) (rest := []) (lenOf pd__Ljava_lang_Object__Z_838 rfl) rfl (by show 2 * 0 + _ ≤ _; exact Nat.le_of_eq rfl) (hb hby at_213) (fun _ _ => ⟨rfl, e138, (by decide : 16 + 0 ≤ _), (by decide : 50 + 0 ≤ _)⟩)
              dsimp only [Pt.U, Pt.locs, Pt.cells, Pt.slots] at X142 l142 y142 z142 st142 hQ142
              subst l142 y142 z142
              obtain ⟨rfl, N142q, e142q⟩ := hQ142
              have N142 := Fr.app N138 N142q
              refine own_tr st142 ?_
              have e142 : T142.heap = T101.heap := e142q
              show own_Comes p e below s _ _ _ (T142.setTop (mkF m 216 #[.val (.int p0), .val (.int p1), .val (.int p2), .val (.int p3), .val (.int (4 : Int32)), .val (.int (3 : Int32)), .val (.ref a85), .val (.ref a86), .val (.ref a87), .val (.ref a88), .val (.ref b89), .val (.ref a101), .val (.ref a88), .val (.ref a88)] [(.int (1 : Int32))]))
              have hb143 : ¬ ((1 : Int32) = (0 : Int32)) := by decide
              refine own_by (fun _ kS => XS.ifNo X142.here hx rfl (hb hby at_216) rfl ((if0 _ _).trans (feq hb143).1) kS) ?_
              show own_Comes p e below s _ _ _ (T142.setTop (mkF m 219 #[.val (.int p0), .val (.int p1), .val (.int p2), .val (.int p3), .val (.int (4 : Int32)), .val (.int (3 : Int32)), .val (.ref a85), .val (.ref a86), .val (.ref a87), .val (.ref a88), .val (.ref b89), .val (.ref a101), .val (.ref a88), .val (.ref a88)] []))
              refine own_by (fun _ kS => XS.aload X142.here hx rfl (hb hby at_219) rfl rfl kS) ?_
              show own_Comes p e below s _ _ _ (T142.setTop (mkF m 221 #[.val (.int p0), .val (.int p1), .val (.int p2), .val (.int p3), .val (.int (4 : Int32)), .val (.int (3 : Int32)), .val (.ref a85), .val (.ref a86), .val (.ref a87), .val (.ref a88), .val (.ref b89), .val (.ref a101), .val (.ref a88), .val (.ref a88)] [(.ref b89)]))
              obtain ⟨cq144, kq144, q144a, q144b, q144c⟩ := isOf hZ e142 (hM99.ext E101).1
              obtain ⟨_, _, ⟨T144, L144, k144, n144⟩, -, X144, ⟨Lc144, hQ144, l144, y144, z144⟩, st144⟩ := X142.interfaceBack hx (xi := (⟨"java/util/List", "size", "()I"⟩ : MethodName)) (y := (⟨"java/util/ArrayList", "size", "()I"⟩ : MethodName)) hown (mvT hZ (hw _ (List.mem_of_getElem? (i := 147) rfl))) (mvT hZ (hw _ (List.mem_of_getElem? (i := 113) rfl))) (mvT hZ (hw _ (List.mem_of_getElem? (i := 114) rfl))) (mvT hZ (hw _ (List.mem_of_getElem? (i := 115) rfl))) (mvT hZ (hw _ (List.mem_of_getElem? (i := 116) rfl))) (mvT hZ (hw _ (List.mem_of_getElem? (i := 117) rfl))) (mvT hZ (hw _ (List.mem_of_getElem? (i := 118) rfl))) (mvT hZ (hw _ (List.mem_of_getElem? (i := 66) rfl))) (by decide) (backOf (W := 0) (rm21 l Z a0 hw [] b89 (4 : Int32) T101.heap n0 (Nat.le_trans (Nat.le_trans (Nat.le_trans (Nat.le_trans (Nat.le_trans (Nat.le_trans (Nat.le_trans (Nat.le_trans (Nat.le_trans (Nat.le_trans (Nat.le_trans Z0 E85.1) E86.1) E87.1) E88.1) E89.1) K91.1) K93.1) K95.1) K97.1) K99.1) E101.1) (hM99.ext E101).2.2.2.1) hZ (hw _ (List.mem_of_getElem? (i := 119) rfl)) (hw _ (List.mem_of_getElem? (i := 37) rfl)) (by decide) (by decide)) q144a q144b q144c (g := (mkF m 221 #[.val (.int p0), .val (.int p1), .val (.int p2), .val (.int p3), .val (.int (4 : Int32)), .val (.int (3 : Int32)), .val (.ref a85), .val (.ref a86), .val (.ref a87), .val (.ref a88), .val (.ref b89), .val (.ref a101), .val (.ref a88), .val (.ref a88)] [(.ref b89)])) rfl (by rw [hml]; rfl) (Steps.refl _) (argsL := []) (rest := []) (lenOf pd___I_154 rfl) rfl (by show 2 * 0 + _ ≤ _; exact Nat.le_of_eq rfl) (hb hby at_221) (fun _ _ => ⟨rfl, e142, (by decide : 16 + 0 ≤ _), (by decide : 50 + 0 ≤ _)⟩)
              dsimp only [Pt.U, Pt.locs, Pt.cells, Pt.slots] at X144 l144 y144 z144 st144 hQ144
              subst l144 y144 z144
              obtain ⟨rfl, N144q, e144q⟩ := hQ144
              have N144 := Fr.app N142 N144q
              refine own_tr st144 ?_
              have e144 : T144.heap = T101.heap := e144q
              show own_Comes p e below s _ _ _ (T144.setTop (mkF m 226 #[.val (.int p0), .val (.int p1), .val (.int p2), .val (.int p3), .val (.int (4 : Int32)), .val (.int (3 : Int32)), .val (.ref a85), .val (.ref a86), .val (.ref a87), .val (.ref a88), .val (.ref b89), .val (.ref a101), .val (.ref a88), .val (.ref a88)] [(.int (4 : Int32))]))
              refine own_by (fun _ kS => XS.iload X144.here hx rfl (hb hby at_226) rfl kS) ?_
              show own_Comes p e below s _ _ _ (T144.setTop (mkF m 228 #[.val (.int p0), .val (.int p1), .val (.int p2), .val (.int p3), .val (.int (4 : Int32)), .val (.int (3 : Int32)), .val (.ref a85), .val (.ref a86), .val (.ref a87), .val (.ref a88), .val (.ref b89), .val (.ref a101), .val (.ref a88), .val (.ref a88)] [(.int (4 : Int32)), (.int (4 : Int32))]))
              have hb145 : (4 : Int32) = (4 : Int32) := by decide
              refine own_by (fun _ kS => XS.icmpNo X144.here hx rfl (hb hby at_228) rfl (teq hb145).2 kS) ?_
              show own_Comes p e below s _ _ _ (T144.setTop (mkF m 231 #[.val (.int p0), .val (.int p1), .val (.int p2), .val (.int p3), .val (.int (4 : Int32)), .val (.int (3 : Int32)), .val (.ref a85), .val (.ref a86), .val (.ref a87), .val (.ref a88), .val (.ref b89), .val (.ref a101), .val (.ref a88), .val (.ref a88)] []))
              refine own_by (fun _ kS => XS.aload X144.here hx rfl (hb hby at_231) rfl rfl kS) ?_
              show own_Comes p e below s _ _ _ (T144.setTop (mkF m 233 #[.val (.int p0), .val (.int p1), .val (.int p2), .val (.int p3), .val (.int (4 : Int32)), .val (.int (3 : Int32)), .val (.ref a85), .val (.ref a86), .val (.ref a87), .val (.ref a88), .val (.ref b89), .val (.ref a101), .val (.ref a88), .val (.ref a88)] [(.ref b89)]))
              refine own_by (fun _ kS => XS.iconst X144.here hx rfl (hb hby at_233) kS) ?_
              show own_Comes p e below s _ _ _ (T144.setTop (mkF m 234 #[.val (.int p0), .val (.int p1), .val (.int p2), .val (.int p3), .val (.int (4 : Int32)), .val (.int (3 : Int32)), .val (.ref a85), .val (.ref a86), .val (.ref a87), .val (.ref a88), .val (.ref b89), .val (.ref a101), .val (.ref a88), .val (.ref a88)] [(.int (0 : Int32)), (.ref b89)]))
              obtain ⟨cq146, kq146, q146a, q146b, q146c⟩ := isOf hZ e144 (hM99.ext E101).1
              obtain ⟨_, _, ⟨T146, L146, k146, n146⟩, -, X146, ⟨Lc146, hQ146, l146, y146, z146⟩, st146⟩ := X144.interfaceBack hx (xi := (⟨"java/util/List", "get", "(I)Ljava/lang/Object;"⟩ : MethodName)) (y := (⟨"java/util/ArrayList", "get", "(I)Ljava/lang/Object;"⟩ : MethodName)) hown (mvT hZ (hw _ (List.mem_of_getElem? (i := 148) rfl))) (mvT hZ (hw _ (List.mem_of_getElem? (i := 121) rfl))) (mvT hZ (hw _ (List.mem_of_getElem? (i := 122) rfl))) (mvT hZ (hw _ (List.mem_of_getElem? (i := 123) rfl))) (mvT hZ (hw _ (List.mem_of_getElem? (i := 124) rfl))) (mvT hZ (hw _ (List.mem_of_getElem? (i := 125) rfl))) (mvT hZ (hw _ (List.mem_of_getElem? (i := 126) rfl))) (mvT hZ (hw _ (List.mem_of_getElem? (i := 66) rfl))) (by decide) (backOf (W := 0) (rm22 l Z a0 hw [] b89 (0 : Int32) a93 k93 (4 : Int32) [(.ref a85), (.ref a86), (.ref a87), (.ref a88), .null, .null, .null, .null, .null, .null] a85 T101.heap n0 (Nat.le_trans (Nat.le_trans (Nat.le_trans (Nat.le_trans (Nat.le_trans (Nat.le_trans (Nat.le_trans (Nat.le_trans (Nat.le_trans (Nat.le_trans (Nat.le_trans Z0 E85.1) E86.1) E87.1) E88.1) E89.1) K91.1) K93.1) K95.1) K97.1) K99.1) E101.1) (hM99.ext E101) (by decide) (by decide) (by decide) rfl) hZ (hw _ (List.mem_of_getElem? (i := 127) rfl)) (hw _ (List.mem_of_getElem? (i := 37) rfl)) (by decide) (by decide)) q146a q146b q146c (g := (mkF m 234 #[.val (.int p0), .val (.int p1), .val (.int p2), .val (.int p3), .val (.int (4 : Int32)), .val (.int (3 : Int32)), .val (.ref a85), .val (.ref a86), .val (.ref a87), .val (.ref a88), .val (.ref b89), .val (.ref a101), .val (.ref a88), .val (.ref a88)] [(.int (0 : Int32)), (.ref b89)])) rfl (by rw [hml]; rfl) (Steps.refl _) (argsL := [(.int (0 : Int32))]) (rest := []) (lenOf pd__I_Ljava_lang_Object__821 rfl) rfl (by show 2 * 0 + _ ≤ _; exact Nat.le_of_eq rfl) (hb hby at_234) (fun _ _ => ⟨rfl, e144, (by decide : 16 + 0 ≤ _), (by decide : 50 + 0 ≤ _)⟩)
              dsimp only [Pt.U, Pt.locs, Pt.cells, Pt.slots] at X146 l146 y146 z146 st146 hQ146
              subst l146 y146 z146
              obtain ⟨rfl, N146q, e146q⟩ := hQ146
              have N146 := Fr.app N144 N146q
              refine own_tr st146 ?_
              have e146 : T146.heap = T101.heap := e146q
              show own_Comes p e below s _ _ _ (T146.setTop (mkF m 239 #[.val (.int p0), .val (.int p1), .val (.int p2), .val (.int p3), .val (.int (4 : Int32)), .val (.int (3 : Int32)), .val (.ref a85), .val (.ref a86), .val (.ref a87), .val (.ref a88), .val (.ref b89), .val (.ref a101), .val (.ref a88), .val (.ref a88)] [(.ref a85)]))
              have c147 := (((((c92.keep K93).keep K95).keep K97).keep K99).ext E101)
              obtain ⟨T148, X148, e148, st148⟩ := castY X146 hx hZ hown (hw _ (List.mem_of_getElem? (i := 6) rfl)) e146 (Ins.self c147) (g := (mkF m 239 #[.val (.int p0), .val (.int p1), .val (.int p2), .val (.int p3), .val (.int (4 : Int32)), .val (.int (3 : Int32)), .val (.ref a85), .val (.ref a86), .val (.ref a87), .val (.ref a88), .val (.ref b89), .val (.ref a101), .val (.ref a88), .val (.ref a88)] [(.ref a85)])) rfl rfl (hb hby at_239)
              refine own_by st148 ?_
              show own_Comes p e below s _ _ _ (T148.setTop (mkF m 242 #[.val (.int p0), .val (.int p1), .val (.int p2), .val (.int p3), .val (.int (4 : Int32)), .val (.int (3 : Int32)), .val (.ref a85), .val (.ref a86), .val (.ref a87), .val (.ref a88), .val (.ref b89), .val (.ref a101), .val (.ref a88), .val (.ref a88)] [(.ref a85)]))
              refine own_by (fun _ kS => XS.aload X148.here hx rfl (hb hby at_242) rfl rfl kS) ?_
              show own_Comes p e below s _ _ _ (T148.setTop (mkF m 244 #[.val (.int p0), .val (.int p1), .val (.int p2), .val (.int p3), .val (.int (4 : Int32)), .val (.int (3 : Int32)), .val (.ref a85), .val (.ref a86), .val (.ref a87), .val (.ref a88), .val (.ref b89), .val (.ref a101), .val (.ref a88), .val (.ref a88)] [(.ref a85), (.ref a85)]))
              obtain ⟨cq149, kq149, q149a, q149b, q149c⟩ := isOf hZ e148 c147
              obtain ⟨_, _, ⟨T149, L149, k149, n149⟩, -, X149, ⟨Lc149, hQ149, l149, y149, z149⟩, st149⟩ := X148.virtualBack hx (y := (⟨"java/lang/String", "equals", "(Ljava/lang/Object;)Z"⟩ : MethodName)) (z := (⟨"java/lang/String", "equals", "(Ljava/lang/Object;)Z"⟩ : MethodName)) hown (mvT hZ (hw _ (List.mem_of_getElem? (i := 142) rfl))) (mvT hZ (hw _ (List.mem_of_getElem? (i := 143) rfl))) (notFace_of_selects (args := #[]) (mvT hZ (hw _ (List.mem_of_getElem? (i := 145) rfl)))) (mvT hZ (hw _ (List.mem_of_getElem? (i := 145) rfl))) (mvT hZ (hw _ (List.mem_of_getElem? (i := 144) rfl))) (by decide) (backOf (W := 0) (rm26 l Z a0 hw [] a85 T101.heap n0 (Nat.le_trans (Nat.le_trans (Nat.le_trans (Nat.le_trans (Nat.le_trans (Nat.le_trans (Nat.le_trans (Nat.le_trans (Nat.le_trans (Nat.le_trans (Nat.le_trans Z0 E85.1) E86.1) E87.1) E88.1) E89.1) K91.1) K93.1) K95.1) K97.1) K99.1) E101.1)) hZ (hw _ (List.mem_of_getElem? (i := 146) rfl)) (hw _ (List.mem_of_getElem? (i := 8) rfl)) (by decide) (by decide)) q149a q149c (g := (mkF m 244 #[.val (.int p0), .val (.int p1), .val (.int p2), .val (.int p3), .val (.int (4 : Int32)), .val (.int (3 : Int32)), .val (.ref a85), .val (.ref a86), .val (.ref a87), .val (.ref a88), .val (.ref b89), .val (.ref a101), .val (.ref a88), .val (.ref a88)] [(.ref a85), (.ref a85)])) rfl (by rw [hml]; rfl) (Steps.refl _) (argsL := [(.ref a85)]) (rest := []) (lenOf pd__Ljava_lang_Object__Z_838 rfl) rfl (by show 2 * 0 + _ ≤ _; exact Nat.le_of_eq rfl) (hb hby at_244) (fun _ _ => ⟨rfl, e148, (by decide : 16 + 0 ≤ _), (by decide : 50 + 0 ≤ _)⟩)
              dsimp only [Pt.U, Pt.locs, Pt.cells, Pt.slots] at X149 l149 y149 z149 st149 hQ149
              subst l149 y149 z149
              obtain ⟨rfl, N149q, e149q⟩ := hQ149
              have N149 := Fr.app N146 N149q
              refine own_tr st149 ?_
              have e149 : T149.heap = T101.heap := e149q
              show own_Comes p e below s _ _ _ (T149.setTop (mkF m 247 #[.val (.int p0), .val (.int p1), .val (.int p2), .val (.int p3), .val (.int (4 : Int32)), .val (.int (3 : Int32)), .val (.ref a85), .val (.ref a86), .val (.ref a87), .val (.ref a88), .val (.ref b89), .val (.ref a101), .val (.ref a88), .val (.ref a88)] [(.int (1 : Int32))]))
              have hb150 : ¬ ((1 : Int32) = (0 : Int32)) := by decide
              refine own_by (fun _ kS => XS.ifNo X149.here hx rfl (hb hby at_247) rfl ((if0 _ _).trans (feq hb150).1) kS) ?_
              show own_Comes p e below s _ _ _ (T149.setTop (mkF m 250 #[.val (.int p0), .val (.int p1), .val (.int p2), .val (.int p3), .val (.int (4 : Int32)), .val (.int (3 : Int32)), .val (.ref a85), .val (.ref a86), .val (.ref a87), .val (.ref a88), .val (.ref b89), .val (.ref a101), .val (.ref a88), .val (.ref a88)] []))
              refine own_by (fun _ kS => XS.iconst X149.here hx rfl (hb hby at_250) kS) ?_
              show own_Comes p e below s _ _ _ (T149.setTop (mkF m 251 #[.val (.int p0), .val (.int p1), .val (.int p2), .val (.int p3), .val (.int (4 : Int32)), .val (.int (3 : Int32)), .val (.ref a85), .val (.ref a86), .val (.ref a87), .val (.ref a88), .val (.ref b89), .val (.ref a101), .val (.ref a88), .val (.ref a88)] [(.int (1 : Int32))]))
              refine own_by (fun _ kS => XS.goto X149.here hx rfl (pc0 := 251) (pc' := 255) rfl (hb hby at_251) (by decide) (by decide) kS) ?_
              show own_Comes p e below s _ _ _ (T149.setTop (mkF m 255 #[.val (.int p0), .val (.int p1), .val (.int p2), .val (.int p3), .val (.int (4 : Int32)), .val (.int (3 : Int32)), .val (.ref a85), .val (.ref a86), .val (.ref a87), .val (.ref a88), .val (.ref b89), .val (.ref a101), .val (.ref a88), .val (.ref a88)] [(.int (1 : Int32))]))
              refine own_ret X149 (v := some (.int (1 : Int32))) (fun h => by rw [Bd.returns] at h; cases h) Bd.notSynchronized (by decide) (by decide) ?_ (fun fs hr => retN X149 hx (t := .boolean) Bd.returns (by simp) (hb hby at_255) hr)
              rw [e149]; exact ⟨rfl, N149⟩
      · refine own_by (fun _ kS => XS.icmpYes X97.here hx rfl (pc0 := 127) (pc' := 140) rfl (hb hby at_127) rfl (flt hk3).2.2.2 (by decide) (by decide) kS) ?_
        show own_Comes p e below s _ _ _ (T97.setTop (mkF m 140 #[.val (.int p0), .val (.int p1), .val (.int p2), .val (.int p3), .val (.int K), .val (.int I), .val (.ref a85), .val (.ref a86), .val (.ref a87), .val (.ref a88), .val (.ref b89), .unset, .unset, .unset] []))
        have hKe : K.toInt = 3 := by
          rw [Int32.lt_iff_toInt_lt] at hk1 hk2 hk3; omega
        have hKl : K = (3 : Int32) := own_ki hKe (by decide)
        rw [show K = (3 : Int32) from hKl]
        show own_Comes p e below s _ _ _ (T97.setTop (mkF m 140 #[.val (.int p0), .val (.int p1), .val (.int p2), .val (.int p3), .val (.int (3 : Int32)), .val (.int I), .val (.ref a85), .val (.ref a86), .val (.ref a87), .val (.ref a88), .val (.ref b89), .unset, .unset, .unset] []))
        refine own_by (fun _ kS => XS.iloadN X97.here hx rfl (hb hby at_140) rfl kS) ?_
        show own_Comes p e below s _ _ _ (T97.setTop (mkF m 141 #[.val (.int p0), .val (.int p1), .val (.int p2), .val (.int p3), .val (.int (3 : Int32)), .val (.int I), .val (.ref a85), .val (.ref a86), .val (.ref a87), .val (.ref a88), .val (.ref b89), .unset, .unset, .unset] [(.int p3)]))
        refine own_by (fun _ kS => XS.sipush X97.here hx rfl (hb hby at_141) kS) ?_
        show own_Comes p e below s _ _ _ (T97.setTop (mkF m 144 #[.val (.int p0), .val (.int p1), .val (.int p2), .val (.int p3), .val (.int (3 : Int32)), .val (.int I), .val (.ref a85), .val (.ref a86), .val (.ref a87), .val (.ref a88), .val (.ref b89), .unset, .unset, .unset] [(.int (255 : Int32)), (.int p3)]))
        refine own_by (fun _ kS => XS.iand X97.here hx rfl (hb hby at_144) rfl kS) ?_
        show own_Comes p e below s _ _ _ (T97.setTop (mkF m 145 #[.val (.int p0), .val (.int p1), .val (.int p2), .val (.int p3), .val (.int (3 : Int32)), .val (.int I), .val (.ref a85), .val (.ref a86), .val (.ref a87), .val (.ref a88), .val (.ref b89), .unset, .unset, .unset] [(.int (p3 &&& (255 : Int32)))]))
        refine own_by (fun _ kS => XS.i2c X97.here hx rfl (hb hby at_145) rfl kS) ?_
        show own_Comes p e below s _ _ _ (T97.setTop (mkF m 146 #[.val (.int p0), .val (.int p1), .val (.int p2), .val (.int p3), .val (.int (3 : Int32)), .val (.int I), .val (.ref a85), .val (.ref a86), .val (.ref a87), .val (.ref a88), .val (.ref b89), .unset, .unset, .unset] [(.int ((p3 &&& (255 : Int32)).toUInt32.toUInt16.toUInt32.toInt32))]))
        have c151 := ((((c90.keep K91 (allS g_b89 all0)).keep K93 (allS g_b89 all0)).keep K95 (allS g_b89 (allS g_a93 all0))).keep K97 (allS g_b89 (allS g_a93 all0)))
        obtain ⟨_, _, ⟨T152, L152, k152, n152⟩, -, X152, ⟨Lc152, hQ152, l152, y152, z152⟩, st152⟩ := Jvm.LawKit.callS X97 hx (y := (⟨"java/lang/String", "valueOf", "(C)Ljava/lang/String;"⟩ : MethodName)) hown (mvT hZ (hw _ (List.mem_of_getElem? (i := 94) rfl))) (mvT hZ (hw _ (List.mem_of_getElem? (i := 95) rfl))) (mvT hZ (hw _ (List.mem_of_getElem? (i := 8) rfl))) (mvT hZ (hw _ (List.mem_of_getElem? (i := 96) rfl))) (by decide) (backOf (W := 0) (rm16 l Z a0 hw [] ((p3 &&& (255 : Int32)).toUInt32.toUInt16.toUInt32.toInt32) zc T97.heap n0 (Nat.le_trans (Nat.le_trans (Nat.le_trans (Nat.le_trans (Nat.le_trans (Nat.le_trans (Nat.le_trans (Nat.le_trans (Nat.le_trans Z0 E85.1) E86.1) E87.1) E88.1) E89.1) K91.1) K93.1) K95.1) K97.1) (own_and255 p3).2 c151 Sz hzc) hZ (hw _ (List.mem_of_getElem? (i := 96) rfl)) (hw _ (List.mem_of_getElem? (i := 8) rfl)) (by decide) (by decide)) (g := (mkF m 146 #[.val (.int p0), .val (.int p1), .val (.int p2), .val (.int p3), .val (.int (3 : Int32)), .val (.int I), .val (.ref a85), .val (.ref a86), .val (.ref a87), .val (.ref a88), .val (.ref b89), .unset, .unset, .unset] [(.int ((p3 &&& (255 : Int32)).toUInt32.toUInt16.toUInt32.toInt32))])) rfl (by rw [hml]; rfl) (argsL := [(.int ((p3 &&& (255 : Int32)).toUInt32.toUInt16.toUInt32.toInt32))]) (rest := []) (lenOf pd__C_Ljava_lang_String__847 rfl) rfl (by show 2 * 0 + _ ≤ _; exact Nat.le_of_eq rfl) (hb hby at_146) (fun _ _ => ⟨rfl, rfl, (by decide : 14 + 2 ≤ _), (by decide : 45 + 5 ≤ _)⟩)
        dsimp only [Pt.U, Pt.locs, Pt.cells, Pt.slots] at X152 l152 y152 z152 st152 hQ152
        subst l152 y152 z152
        obtain ⟨a152, rfl, N152q, E152, Eb152⟩ := hQ152
        have N152 := Fr.app N97 N152q
        refine own_by st152 ?_
        show own_Comes p e below s _ _ _ (T152.setTop (mkF m 149 #[.val (.int p0), .val (.int p1), .val (.int p2), .val (.int p3), .val (.int (3 : Int32)), .val (.int I), .val (.ref a85), .val (.ref a86), .val (.ref a87), .val (.ref a88), .val (.ref b89), .unset, .unset, .unset] [(.ref a152)]))
        refine own_by (fun _ kS => XS.astore X152.here hx rfl (hb hby at_149) rfl rfl (l' := #[.val (.int p0), .val (.int p1), .val (.int p2), .val (.int p3), .val (.int (3 : Int32)), .val (.int I), .val (.ref a85), .val (.ref a86), .val (.ref a87), .val (.ref a88), .val (.ref b89), .val (.ref a152), .unset, .unset]) rfl kS) ?_
        show own_Comes p e below s _ _ _ (T152.setTop (mkF m 151 #[.val (.int p0), .val (.int p1), .val (.int p2), .val (.int p3), .val (.int (3 : Int32)), .val (.int I), .val (.ref a85), .val (.ref a86), .val (.ref a87), .val (.ref a88), .val (.ref b89), .val (.ref a152), .unset, .unset] []))
        refine own_by (fun _ kS => XS.aload X152.here hx rfl (hb hby at_151) rfl rfl kS) ?_
        show own_Comes p e below s _ _ _ (T152.setTop (mkF m 153 #[.val (.int p0), .val (.int p1), .val (.int p2), .val (.int p3), .val (.int (3 : Int32)), .val (.int I), .val (.ref a85), .val (.ref a86), .val (.ref a87), .val (.ref a88), .val (.ref b89), .val (.ref a152), .unset, .unset] [(.ref b89)]))
        by_cases hi3_0 : I.toInt = 0
        · rw [show I = (0 : Int32) from own_ki (n := 0) (by omega) (by decide)]
          show own_Comes p e below s _ _ _ (T152.setTop (mkF m 153 #[.val (.int p0), .val (.int p1), .val (.int p2), .val (.int p3), .val (.int (3 : Int32)), .val (.int (0 : Int32)), .val (.ref a85), .val (.ref a86), .val (.ref a87), .val (.ref a88), .val (.ref b89), .val (.ref a152), .unset, .unset] [(.ref b89)]))
          refine own_by (fun _ kS => XS.iload X152.here hx rfl (hb hby at_153) rfl kS) ?_
          show own_Comes p e below s _ _ _ (T152.setTop (mkF m 155 #[.val (.int p0), .val (.int p1), .val (.int p2), .val (.int p3), .val (.int (3 : Int32)), .val (.int (0 : Int32)), .val (.ref a85), .val (.ref a86), .val (.ref a87), .val (.ref a88), .val (.ref b89), .val (.ref a152), .unset, .unset] [(.int (0 : Int32)), (.ref b89)]))
          refine own_by (fun _ kS => XS.aload X152.here hx rfl (hb hby at_155) rfl rfl kS) ?_
          show own_Comes p e below s _ _ _ (T152.setTop (mkF m 157 #[.val (.int p0), .val (.int p1), .val (.int p2), .val (.int p3), .val (.int (3 : Int32)), .val (.int (0 : Int32)), .val (.ref a85), .val (.ref a86), .val (.ref a87), .val (.ref a88), .val (.ref b89), .val (.ref a152), .unset, .unset] [(.ref a152), (.int (0 : Int32)), (.ref b89)]))
          obtain ⟨_, _, ⟨T153, L153, k153, n153⟩, -, X153, ⟨Lc153, hQ153, l153, y153, z153⟩, st153⟩ := Jvm.LawKit.callS X152 hx (y := (⟨"com/example/callyard/callyard/cli/CommandLine", "operand", "(Ljava/util/List;ILjava/lang/String;)Ljava/lang/String;"⟩ : MethodName)) hown (mvT hZ (hw _ (List.mem_of_getElem? (i := 108) rfl))) (mvT hZ (hw _ (List.mem_of_getElem? (i := 109) rfl))) (mvT hZ (hw _ (List.mem_of_getElem? (i := 110) rfl))) (mvT hZ (hw _ (List.mem_of_getElem? (i := 111) rfl))) (by decide) (backOf (W := 0) (rm20 l Z a0 hw [] b89 (0 : Int32) a152 a93 k93 (3 : Int32) [(.ref a85), (.ref a86), (.ref a87), .null, .null, .null, .null, .null, .null, .null] a85 T152.heap n0 (Nat.le_trans (Nat.le_trans (Nat.le_trans (Nat.le_trans (Nat.le_trans (Nat.le_trans (Nat.le_trans (Nat.le_trans (Nat.le_trans (Nat.le_trans Z0 E85.1) E86.1) E87.1) E88.1) E89.1) K91.1) K93.1) K95.1) K97.1) E152.1) (hM97.ext E152) (by decide) (by decide) (by decide) rfl ((((c92.keep K93).keep K95).keep K97).ext E152)) hZ (hw _ (List.mem_of_getElem? (i := 111) rfl)) (hw _ (List.mem_of_getElem? (i := 110) rfl)) (by decide) (by decide)) (g := (mkF m 157 #[.val (.int p0), .val (.int p1), .val (.int p2), .val (.int p3), .val (.int (3 : Int32)), .val (.int (0 : Int32)), .val (.ref a85), .val (.ref a86), .val (.ref a87), .val (.ref a88), .val (.ref b89), .val (.ref a152), .unset, .unset] [(.ref a152), (.int (0 : Int32)), (.ref b89)])) rfl (by rw [hml]; rfl) (argsL := [(.ref b89), (.int (0 : Int32)), (.ref a152)]) (rest := []) (lenOf pd__Ljava_util_List_ILjava_lang_String__Ljava_lang_String__66 rfl) rfl (by show 2 * 0 + _ ≤ _; exact Nat.le_of_eq rfl) (hb hby at_157) (fun _ _ => ⟨rfl, rfl, (by decide : 16 + 0 ≤ _), (by decide : 50 + 0 ≤ _)⟩)
          dsimp only [Pt.U, Pt.locs, Pt.cells, Pt.slots] at X153 l153 y153 z153 st153 hQ153
          subst l153 y153 z153
          obtain ⟨rfl, N153q, e153q⟩ := hQ153
          have N153 := Fr.app N152 N153q
          refine own_by st153 ?_
          have e153 : T153.heap = T152.heap := e153q
          show own_Comes p e below s _ _ _ (T153.setTop (mkF m 160 #[.val (.int p0), .val (.int p1), .val (.int p2), .val (.int p3), .val (.int (3 : Int32)), .val (.int (0 : Int32)), .val (.ref a85), .val (.ref a86), .val (.ref a87), .val (.ref a88), .val (.ref b89), .val (.ref a152), .unset, .unset] [(.ref a85)]))
          refine own_by (fun _ kS => XS.astore X153.here hx rfl (hb hby at_160) rfl rfl (l' := #[.val (.int p0), .val (.int p1), .val (.int p2), .val (.int p3), .val (.int (3 : Int32)), .val (.int (0 : Int32)), .val (.ref a85), .val (.ref a86), .val (.ref a87), .val (.ref a88), .val (.ref b89), .val (.ref a152), .val (.ref a85), .unset]) rfl kS) ?_
          show own_Comes p e below s _ _ _ (T153.setTop (mkF m 162 #[.val (.int p0), .val (.int p1), .val (.int p2), .val (.int p3), .val (.int (3 : Int32)), .val (.int (0 : Int32)), .val (.ref a85), .val (.ref a86), .val (.ref a87), .val (.ref a88), .val (.ref b89), .val (.ref a152), .val (.ref a85), .unset] []))
          refine own_by (fun _ kS => XS.iload X153.here hx rfl (hb hby at_162) rfl kS) ?_
          show own_Comes p e below s _ _ _ (T153.setTop (mkF m 164 #[.val (.int p0), .val (.int p1), .val (.int p2), .val (.int p3), .val (.int (3 : Int32)), .val (.int (0 : Int32)), .val (.ref a85), .val (.ref a86), .val (.ref a87), .val (.ref a88), .val (.ref b89), .val (.ref a152), .val (.ref a85), .unset] [(.int (0 : Int32))]))
          have hb154 : (0 : Int32) = (0 : Int32) := by decide
          refine own_by (fun _ kS => XS.ifNo X153.here hx rfl (hb hby at_164) rfl ((if0 _ _).trans (teq hb154).2) kS) ?_
          show own_Comes p e below s _ _ _ (T153.setTop (mkF m 167 #[.val (.int p0), .val (.int p1), .val (.int p2), .val (.int p3), .val (.int (3 : Int32)), .val (.int (0 : Int32)), .val (.ref a85), .val (.ref a86), .val (.ref a87), .val (.ref a88), .val (.ref b89), .val (.ref a152), .val (.ref a85), .unset] []))
          refine own_by (fun _ kS => XS.aload X153.here hx rfl (hb hby at_167) rfl rfl kS) ?_
          show own_Comes p e below s _ _ _ (T153.setTop (mkF m 169 #[.val (.int p0), .val (.int p1), .val (.int p2), .val (.int p3), .val (.int (3 : Int32)), .val (.int (0 : Int32)), .val (.ref a85), .val (.ref a86), .val (.ref a87), .val (.ref a88), .val (.ref b89), .val (.ref a152), .val (.ref a85), .unset] [(.ref a85)]))
          refine own_by (fun _ kS => XS.astore X153.here hx rfl (hb hby at_169) rfl rfl (l' := #[.val (.int p0), .val (.int p1), .val (.int p2), .val (.int p3), .val (.int (3 : Int32)), .val (.int (0 : Int32)), .val (.ref a85), .val (.ref a86), .val (.ref a87), .val (.ref a88), .val (.ref b89), .val (.ref a152), .val (.ref a85), .val (.ref a85)]) rfl kS) ?_
          show own_Comes p e below s _ _ _ (T153.setTop (mkF m 171 #[.val (.int p0), .val (.int p1), .val (.int p2), .val (.int p3), .val (.int (3 : Int32)), .val (.int (0 : Int32)), .val (.ref a85), .val (.ref a86), .val (.ref a87), .val (.ref a88), .val (.ref b89), .val (.ref a152), .val (.ref a85), .val (.ref a85)] []))
          refine own_by (fun _ kS => XS.goto X153.here hx rfl (pc0 := 171) (pc' := 204) rfl (hb hby at_171) (by decide) (by decide) kS) ?_
          show own_Comes p e below s _ _ _ (T153.setTop (mkF m 204 #[.val (.int p0), .val (.int p1), .val (.int p2), .val (.int p3), .val (.int (3 : Int32)), .val (.int (0 : Int32)), .val (.ref a85), .val (.ref a86), .val (.ref a87), .val (.ref a88), .val (.ref b89), .val (.ref a152), .val (.ref a85), .val (.ref a85)] []))
          refine own_by (fun _ kS => XS.aload X153.here hx rfl (hb hby at_204) rfl rfl kS) ?_
          show own_Comes p e below s _ _ _ (T153.setTop (mkF m 206 #[.val (.int p0), .val (.int p1), .val (.int p2), .val (.int p3), .val (.int (3 : Int32)), .val (.int (0 : Int32)), .val (.ref a85), .val (.ref a86), .val (.ref a87), .val (.ref a88), .val (.ref b89), .val (.ref a152), .val (.ref a85), .val (.ref a85)] [(.ref a85)]))
          refine own_by (fun _ kS => XS.ifnullNo X153.here hx rfl (hb hby at_206) rfl kS) ?_
          show own_Comes p e below s _ _ _ (T153.setTop (mkF m 209 #[.val (.int p0), .val (.int p1), .val (.int p2), .val (.int p3), .val (.int (3 : Int32)), .val (.int (0 : Int32)), .val (.ref a85), .val (.ref a86), .val (.ref a87), .val (.ref a88), .val (.ref b89), .val (.ref a152), .val (.ref a85), .val (.ref a85)] []))
          refine own_by (fun _ kS => XS.aload X153.here hx rfl (hb hby at_209) rfl rfl kS) ?_
          show own_Comes p e below s _ _ _ (T153.setTop (mkF m 211 #[.val (.int p0), .val (.int p1), .val (.int p2), .val (.int p3), .val (.int (3 : Int32)), .val (.int (0 : Int32)), .val (.ref a85), .val (.ref a86), .val (.ref a87), .val (.ref a88), .val (.ref b89), .val (.ref a152), .val (.ref a85), .val (.ref a85)] [(.ref a85)]))
          refine own_by (fun _ kS => XS.aload X153.here hx rfl (hb hby at_211) rfl rfl kS) ?_
          show own_Comes p e below s _ _ _ (T153.setTop (mkF m 213 #[.val (.int p0), .val (.int p1), .val (.int p2), .val (.int p3), .val (.int (3 : Int32)), .val (.int (0 : Int32)), .val (.ref a85), .val (.ref a86), .val (.ref a87), .val (.ref a88), .val (.ref b89), .val (.ref a152), .val (.ref a85), .val (.ref a85)] [(.ref a85), (.ref a85)]))
          obtain ⟨cq155, kq155, q155a, q155b, q155c⟩ := isOf hZ e153 ((((c92.keep K93).keep K95).keep K97).ext E152)
          obtain ⟨_, _, ⟨T155, L155, k155, n155⟩, -, X155, ⟨Lc155, hQ155, l155, y155, z155⟩, st155⟩ := X153.virtualBack hx (y := (⟨"java/lang/String", "equals", "(Ljava/lang/Object;)Z"⟩ : MethodName)) (z := (⟨"java/lang/String", "equals", "(Ljava/lang/Object;)Z"⟩ : MethodName)) hown (mvT hZ (hw _ (List.mem_of_getElem? (i := 142) rfl))) (mvT hZ (hw _ (List.mem_of_getElem? (i := 143) rfl))) (notFace_of_selects (args := #[]) (mvT hZ (hw _ (List.mem_of_getElem? (i := 145) rfl)))) (mvT hZ (hw _ (List.mem_of_getElem? (i := 145) rfl))) (mvT hZ (hw _ (List.mem_of_getElem? (i := 144) rfl))) (by decide) (backOf (W := 0) (rm26 l Z a0 hw [] a85 T152.heap n0 (Nat.le_trans (Nat.le_trans (Nat.le_trans (Nat.le_trans (Nat.le_trans (Nat.le_trans (Nat.le_trans (Nat.le_trans (Nat.le_trans (Nat.le_trans Z0 E85.1) E86.1) E87.1) E88.1) E89.1) K91.1) K93.1) K95.1) K97.1) E152.1)) hZ (hw _ (List.mem_of_getElem? (i := 146) rfl)) (hw _ (List.mem_of_getElem? (i := 8) rfl)) (by decide) (by decide)) q155a q155c (g := (mkF m 213 #[.val (.int p0), .val (.int p1), .val (.int p2), .val (.int p3), .val (.int (3 : Int32)), .val (.int (0 : Int32)), .val (.ref a85), .val (.ref a86), .val (.ref a87), .val (.ref a88), .val (.ref b89), .val (.ref a152), .val (.ref a85), .val (.ref a85)] [(.ref a85), (.ref a85)])) rfl (by rw [hml]; rfl) (Steps.refl _) (argsL := [(.ref a85)]) (rest := []) (lenOf pd__Ljava_lang_Object__Z_838 rfl) rfl (by show 2 * 0 + _ ≤ _; exact Nat.le_of_eq rfl) (hb hby at_213) (fun _ _ => ⟨rfl, e153, (by decide : 16 + 0 ≤ _), (by decide : 50 + 0 ≤ _)⟩)
          dsimp only [Pt.U, Pt.locs, Pt.cells, Pt.slots] at X155 l155 y155 z155 st155 hQ155
          subst l155 y155 z155
          obtain ⟨rfl, N155q, e155q⟩ := hQ155
          have N155 := Fr.app N153 N155q
          refine own_tr st155 ?_
          have e155 : T155.heap = T152.heap := e155q
          show own_Comes p e below s _ _ _ (T155.setTop (mkF m 216 #[.val (.int p0), .val (.int p1), .val (.int p2), .val (.int p3), .val (.int (3 : Int32)), .val (.int (0 : Int32)), .val (.ref a85), .val (.ref a86), .val (.ref a87), .val (.ref a88), .val (.ref b89), .val (.ref a152), .val (.ref a85), .val (.ref a85)] [(.int (1 : Int32))]))
          have hb156 : ¬ ((1 : Int32) = (0 : Int32)) := by decide
          refine own_by (fun _ kS => XS.ifNo X155.here hx rfl (hb hby at_216) rfl ((if0 _ _).trans (feq hb156).1) kS) ?_
          show own_Comes p e below s _ _ _ (T155.setTop (mkF m 219 #[.val (.int p0), .val (.int p1), .val (.int p2), .val (.int p3), .val (.int (3 : Int32)), .val (.int (0 : Int32)), .val (.ref a85), .val (.ref a86), .val (.ref a87), .val (.ref a88), .val (.ref b89), .val (.ref a152), .val (.ref a85), .val (.ref a85)] []))
          refine own_by (fun _ kS => XS.aload X155.here hx rfl (hb hby at_219) rfl rfl kS) ?_
          show own_Comes p e below s _ _ _ (T155.setTop (mkF m 221 #[.val (.int p0), .val (.int p1), .val (.int p2), .val (.int p3), .val (.int (3 : Int32)), .val (.int (0 : Int32)), .val (.ref a85), .val (.ref a86), .val (.ref a87), .val (.ref a88), .val (.ref b89), .val (.ref a152), .val (.ref a85), .val (.ref a85)] [(.ref b89)]))
          obtain ⟨cq157, kq157, q157a, q157b, q157c⟩ := isOf hZ e155 (hM97.ext E152).1
          obtain ⟨_, _, ⟨T157, L157, k157, n157⟩, -, X157, ⟨Lc157, hQ157, l157, y157, z157⟩, st157⟩ := X155.interfaceBack hx (xi := (⟨"java/util/List", "size", "()I"⟩ : MethodName)) (y := (⟨"java/util/ArrayList", "size", "()I"⟩ : MethodName)) hown (mvT hZ (hw _ (List.mem_of_getElem? (i := 147) rfl))) (mvT hZ (hw _ (List.mem_of_getElem? (i := 113) rfl))) (mvT hZ (hw _ (List.mem_of_getElem? (i := 114) rfl))) (mvT hZ (hw _ (List.mem_of_getElem? (i := 115) rfl))) (mvT hZ (hw _ (List.mem_of_getElem? (i := 116) rfl))) (mvT hZ (hw _ (List.mem_of_getElem? (i := 117) rfl))) (mvT hZ (hw _ (List.mem_of_getElem? (i := 118) rfl))) (mvT hZ (hw _ (List.mem_of_getElem? (i := 66) rfl))) (by decide) (backOf (W := 0) (rm21 l Z a0 hw [] b89 (3 : Int32) T152.heap n0 (Nat.le_trans (Nat.le_trans (Nat.le_trans (Nat.le_trans (Nat.le_trans (Nat.le_trans (Nat.le_trans (Nat.le_trans (Nat.le_trans (Nat.le_trans Z0 E85.1) E86.1) E87.1) E88.1) E89.1) K91.1) K93.1) K95.1) K97.1) E152.1) (hM97.ext E152).2.2.2.1) hZ (hw _ (List.mem_of_getElem? (i := 119) rfl)) (hw _ (List.mem_of_getElem? (i := 37) rfl)) (by decide) (by decide)) q157a q157b q157c (g := (mkF m 221 #[.val (.int p0), .val (.int p1), .val (.int p2), .val (.int p3), .val (.int (3 : Int32)), .val (.int (0 : Int32)), .val (.ref a85), .val (.ref a86), .val (.ref a87), .val (.ref a88), .val (.ref b89), .val (.ref a152), .val (.ref a85), .val (.ref a85)] [(.ref b89)])) rfl (by rw [hml]; rfl) (Steps.refl _) (argsL := []) (rest := []) (lenOf pd___I_154 rfl) rfl (by show 2 * 0 + _ ≤ _; exact Nat.le_of_eq rfl) (hb hby at_221) (fun _ _ => ⟨rfl, e155, (by decide : 16 + 0 ≤ _), (by decide : 50 + 0 ≤ _)⟩)
          dsimp only [Pt.U, Pt.locs, Pt.cells, Pt.slots] at X157 l157 y157 z157 st157 hQ157
          subst l157 y157 z157
          obtain ⟨rfl, N157q, e157q⟩ := hQ157
          have N157 := Fr.app N155 N157q
          refine own_tr st157 ?_
          have e157 : T157.heap = T152.heap := e157q
          show own_Comes p e below s _ _ _ (T157.setTop (mkF m 226 #[.val (.int p0), .val (.int p1), .val (.int p2), .val (.int p3), .val (.int (3 : Int32)), .val (.int (0 : Int32)), .val (.ref a85), .val (.ref a86), .val (.ref a87), .val (.ref a88), .val (.ref b89), .val (.ref a152), .val (.ref a85), .val (.ref a85)] [(.int (3 : Int32))]))
          refine own_by (fun _ kS => XS.iload X157.here hx rfl (hb hby at_226) rfl kS) ?_
          show own_Comes p e below s _ _ _ (T157.setTop (mkF m 228 #[.val (.int p0), .val (.int p1), .val (.int p2), .val (.int p3), .val (.int (3 : Int32)), .val (.int (0 : Int32)), .val (.ref a85), .val (.ref a86), .val (.ref a87), .val (.ref a88), .val (.ref b89), .val (.ref a152), .val (.ref a85), .val (.ref a85)] [(.int (3 : Int32)), (.int (3 : Int32))]))
          have hb158 : (3 : Int32) = (3 : Int32) := by decide
          refine own_by (fun _ kS => XS.icmpNo X157.here hx rfl (hb hby at_228) rfl (teq hb158).2 kS) ?_
          show own_Comes p e below s _ _ _ (T157.setTop (mkF m 231 #[.val (.int p0), .val (.int p1), .val (.int p2), .val (.int p3), .val (.int (3 : Int32)), .val (.int (0 : Int32)), .val (.ref a85), .val (.ref a86), .val (.ref a87), .val (.ref a88), .val (.ref b89), .val (.ref a152), .val (.ref a85), .val (.ref a85)] []))
          refine own_by (fun _ kS => XS.aload X157.here hx rfl (hb hby at_231) rfl rfl kS) ?_
          show own_Comes p e below s _ _ _ (T157.setTop (mkF m 233 #[.val (.int p0), .val (.int p1), .val (.int p2), .val (.int p3), .val (.int (3 : Int32)), .val (.int (0 : Int32)), .val (.ref a85), .val (.ref a86), .val (.ref a87), .val (.ref a88), .val (.ref b89), .val (.ref a152), .val (.ref a85), .val (.ref a85)] [(.ref b89)]))
          refine own_by (fun _ kS => XS.iconst X157.here hx rfl (hb hby at_233) kS) ?_
          show own_Comes p e below s _ _ _ (T157.setTop (mkF m 234 #[.val (.int p0), .val (.int p1), .val (.int p2), .val (.int p3), .val (.int (3 : Int32)), .val (.int (0 : Int32)), .val (.ref a85), .val (.ref a86), .val (.ref a87), .val (.ref a88), .val (.ref b89), .val (.ref a152), .val (.ref a85), .val (.ref a85)] [(.int (0 : Int32)), (.ref b89)]))
          obtain ⟨cq159, kq159, q159a, q159b, q159c⟩ := isOf hZ e157 (hM97.ext E152).1
          obtain ⟨_, _, ⟨T159, L159, k159, n159⟩, -, X159, ⟨Lc159, hQ159, l159, y159, z159⟩, st159⟩ := X157.interfaceBack hx (xi := (⟨"java/util/List", "get", "(I)Ljava/lang/Object;"⟩ : MethodName)) (y := (⟨"java/util/ArrayList", "get", "(I)Ljava/lang/Object;"⟩ : MethodName)) hown (mvT hZ (hw _ (List.mem_of_getElem? (i := 148) rfl))) (mvT hZ (hw _ (List.mem_of_getElem? (i := 121) rfl))) (mvT hZ (hw _ (List.mem_of_getElem? (i := 122) rfl))) (mvT hZ (hw _ (List.mem_of_getElem? (i := 123) rfl))) (mvT hZ (hw _ (List.mem_of_getElem? (i := 124) rfl))) (mvT hZ (hw _ (List.mem_of_getElem? (i := 125) rfl))) (mvT hZ (hw _ (List.mem_of_getElem? (i := 126) rfl))) (mvT hZ (hw _ (List.mem_of_getElem? (i := 66) rfl))) (by decide) (backOf (W := 0) (rm22 l Z a0 hw [] b89 (0 : Int32) a93 k93 (3 : Int32) [(.ref a85), (.ref a86), (.ref a87), .null, .null, .null, .null, .null, .null, .null] a85 T152.heap n0 (Nat.le_trans (Nat.le_trans (Nat.le_trans (Nat.le_trans (Nat.le_trans (Nat.le_trans (Nat.le_trans (Nat.le_trans (Nat.le_trans (Nat.le_trans Z0 E85.1) E86.1) E87.1) E88.1) E89.1) K91.1) K93.1) K95.1) K97.1) E152.1) (hM97.ext E152) (by decide) (by decide) (by decide) rfl) hZ (hw _ (List.mem_of_getElem? (i := 127) rfl)) (hw _ (List.mem_of_getElem? (i := 37) rfl)) (by decide) (by decide)) q159a q159b q159c (g := (mkF m 234 #[.val (.int p0), .val (.int p1), .val (.int p2), .val (.int p3), .val (.int (3 : Int32)), .val (.int (0 : Int32)), .val (.ref a85), .val (.ref a86), .val (.ref a87), .val (.ref a88), .val (.ref b89), .val (.ref a152), .val (.ref a85), .val (.ref a85)] [(.int (0 : Int32)), (.ref b89)])) rfl (by rw [hml]; rfl) (Steps.refl _) (argsL := [(.int (0 : Int32))]) (rest := []) (lenOf pd__I_Ljava_lang_Object__821 rfl) rfl (by show 2 * 0 + _ ≤ _; exact Nat.le_of_eq rfl) (hb hby at_234) (fun _ _ => ⟨rfl, e157, (by decide : 16 + 0 ≤ _), (by decide : 50 + 0 ≤ _)⟩)
          dsimp only [Pt.U, Pt.locs, Pt.cells, Pt.slots] at X159 l159 y159 z159 st159 hQ159
          subst l159 y159 z159
          obtain ⟨rfl, N159q, e159q⟩ := hQ159
          have N159 := Fr.app N157 N159q
          refine own_tr st159 ?_
          have e159 : T159.heap = T152.heap := e159q
          show own_Comes p e below s _ _ _ (T159.setTop (mkF m 239 #[.val (.int p0), .val (.int p1), .val (.int p2), .val (.int p3), .val (.int (3 : Int32)), .val (.int (0 : Int32)), .val (.ref a85), .val (.ref a86), .val (.ref a87), .val (.ref a88), .val (.ref b89), .val (.ref a152), .val (.ref a85), .val (.ref a85)] [(.ref a85)]))
          obtain ⟨T160, X160, e160, st160⟩ := castY X159 hx hZ hown (hw _ (List.mem_of_getElem? (i := 6) rfl)) e159 (Ins.self ((((c92.keep K93).keep K95).keep K97).ext E152)) (g := (mkF m 239 #[.val (.int p0), .val (.int p1), .val (.int p2), .val (.int p3), .val (.int (3 : Int32)), .val (.int (0 : Int32)), .val (.ref a85), .val (.ref a86), .val (.ref a87), .val (.ref a88), .val (.ref b89), .val (.ref a152), .val (.ref a85), .val (.ref a85)] [(.ref a85)])) rfl rfl (hb hby at_239)
          refine own_by st160 ?_
          show own_Comes p e below s _ _ _ (T160.setTop (mkF m 242 #[.val (.int p0), .val (.int p1), .val (.int p2), .val (.int p3), .val (.int (3 : Int32)), .val (.int (0 : Int32)), .val (.ref a85), .val (.ref a86), .val (.ref a87), .val (.ref a88), .val (.ref b89), .val (.ref a152), .val (.ref a85), .val (.ref a85)] [(.ref a85)]))
          refine own_by (fun _ kS => XS.aload X160.here hx rfl (hb hby at_242) rfl rfl kS) ?_
          show own_Comes p e below s _ _ _ (T160.setTop (mkF m 244 #[.val (.int p0), .val (.int p1), .val (.int p2), .val (.int p3), .val (.int (3 : Int32)), .val (.int (0 : Int32)), .val (.ref a85), .val (.ref a86), .val (.ref a87), .val (.ref a88), .val (.ref b89), .val (.ref a152), .val (.ref a85), .val (.ref a85)] [(.ref a85), (.ref a85)]))
          obtain ⟨cq161, kq161, q161a, q161b, q161c⟩ := isOf hZ e160 ((((c92.keep K93).keep K95).keep K97).ext E152)
          obtain ⟨_, _, ⟨T161, L161, k161, n161⟩, -, X161, ⟨Lc161, hQ161, l161, y161, z161⟩, st161⟩ := X160.virtualBack hx (y := (⟨"java/lang/String", "equals", "(Ljava/lang/Object;)Z"⟩ : MethodName)) (z := (⟨"java/lang/String", "equals", "(Ljava/lang/Object;)Z"⟩ : MethodName)) hown (mvT hZ (hw _ (List.mem_of_getElem? (i := 142) rfl))) (mvT hZ (hw _ (List.mem_of_getElem? (i := 143) rfl))) (notFace_of_selects (args := #[]) (mvT hZ (hw _ (List.mem_of_getElem? (i := 145) rfl)))) (mvT hZ (hw _ (List.mem_of_getElem? (i := 145) rfl))) (mvT hZ (hw _ (List.mem_of_getElem? (i := 144) rfl))) (by decide) (backOf (W := 0) (rm26 l Z a0 hw [] a85 T152.heap n0 (Nat.le_trans (Nat.le_trans (Nat.le_trans (Nat.le_trans (Nat.le_trans (Nat.le_trans (Nat.le_trans (Nat.le_trans (Nat.le_trans (Nat.le_trans Z0 E85.1) E86.1) E87.1) E88.1) E89.1) K91.1) K93.1) K95.1) K97.1) E152.1)) hZ (hw _ (List.mem_of_getElem? (i := 146) rfl)) (hw _ (List.mem_of_getElem? (i := 8) rfl)) (by decide) (by decide)) q161a q161c (g := (mkF m 244 #[.val (.int p0), .val (.int p1), .val (.int p2), .val (.int p3), .val (.int (3 : Int32)), .val (.int (0 : Int32)), .val (.ref a85), .val (.ref a86), .val (.ref a87), .val (.ref a88), .val (.ref b89), .val (.ref a152), .val (.ref a85), .val (.ref a85)] [(.ref a85), (.ref a85)])) rfl (by rw [hml]; rfl) (Steps.refl _) (argsL := [(.ref a85)]) (rest := []) (lenOf pd__Ljava_lang_Object__Z_838 rfl) rfl (by show 2 * 0 + _ ≤ _; exact Nat.le_of_eq rfl) (hb hby at_244) (fun _ _ => ⟨rfl, e160, (by decide : 16 + 0 ≤ _), (by decide : 50 + 0 ≤ _)⟩)
          dsimp only [Pt.U, Pt.locs, Pt.cells, Pt.slots] at X161 l161 y161 z161 st161 hQ161
          subst l161 y161 z161
          obtain ⟨rfl, N161q, e161q⟩ := hQ161
          have N161 := Fr.app N159 N161q
          refine own_tr st161 ?_
          have e161 : T161.heap = T152.heap := e161q
          show own_Comes p e below s _ _ _ (T161.setTop (mkF m 247 #[.val (.int p0), .val (.int p1), .val (.int p2), .val (.int p3), .val (.int (3 : Int32)), .val (.int (0 : Int32)), .val (.ref a85), .val (.ref a86), .val (.ref a87), .val (.ref a88), .val (.ref b89), .val (.ref a152), .val (.ref a85), .val (.ref a85)] [(.int (1 : Int32))]))
          have hb162 : ¬ ((1 : Int32) = (0 : Int32)) := by decide
          refine own_by (fun _ kS => XS.ifNo X161.here hx rfl (hb hby at_247) rfl ((if0 _ _).trans (feq hb162).1) kS) ?_
          show own_Comes p e below s _ _ _ (T161.setTop (mkF m 250 #[.val (.int p0), .val (.int p1), .val (.int p2), .val (.int p3), .val (.int (3 : Int32)), .val (.int (0 : Int32)), .val (.ref a85), .val (.ref a86), .val (.ref a87), .val (.ref a88), .val (.ref b89), .val (.ref a152), .val (.ref a85), .val (.ref a85)] []))
          refine own_by (fun _ kS => XS.iconst X161.here hx rfl (hb hby at_250) kS) ?_
          show own_Comes p e below s _ _ _ (T161.setTop (mkF m 251 #[.val (.int p0), .val (.int p1), .val (.int p2), .val (.int p3), .val (.int (3 : Int32)), .val (.int (0 : Int32)), .val (.ref a85), .val (.ref a86), .val (.ref a87), .val (.ref a88), .val (.ref b89), .val (.ref a152), .val (.ref a85), .val (.ref a85)] [(.int (1 : Int32))]))
          refine own_by (fun _ kS => XS.goto X161.here hx rfl (pc0 := 251) (pc' := 255) rfl (hb hby at_251) (by decide) (by decide) kS) ?_
          show own_Comes p e below s _ _ _ (T161.setTop (mkF m 255 #[.val (.int p0), .val (.int p1), .val (.int p2), .val (.int p3), .val (.int (3 : Int32)), .val (.int (0 : Int32)), .val (.ref a85), .val (.ref a86), .val (.ref a87), .val (.ref a88), .val (.ref b89), .val (.ref a152), .val (.ref a85), .val (.ref a85)] [(.int (1 : Int32))]))
          refine own_ret X161 (v := some (.int (1 : Int32))) (fun h => by rw [Bd.returns] at h; cases h) Bd.notSynchronized (by decide) (by decide) ?_ (fun fs hr => retN X161 hx (t := .boolean) Bd.returns (by simp) (hb hby at_255) hr)
          rw [e161]; exact ⟨rfl, N161⟩
        · have _hh : True := trivial
          by_cases hi3_1 : I.toInt = 1
          · rw [show I = (1 : Int32) from own_ki (n := 1) (by omega) (by decide)]
            show own_Comes p e below s _ _ _ (T152.setTop (mkF m 153 #[.val (.int p0), .val (.int p1), .val (.int p2), .val (.int p3), .val (.int (3 : Int32)), .val (.int (1 : Int32)), .val (.ref a85), .val (.ref a86), .val (.ref a87), .val (.ref a88), .val (.ref b89), .val (.ref a152), .unset, .unset] [(.ref b89)]))
            refine own_by (fun _ kS => XS.iload X152.here hx rfl (hb hby at_153) rfl kS) ?_
            show own_Comes p e below s _ _ _ (T152.setTop (mkF m 155 #[.val (.int p0), .val (.int p1), .val (.int p2), .val (.int p3), .val (.int (3 : Int32)), .val (.int (1 : Int32)), .val (.ref a85), .val (.ref a86), .val (.ref a87), .val (.ref a88), .val (.ref b89), .val (.ref a152), .unset, .unset] [(.int (1 : Int32)), (.ref b89)]))
            refine own_by (fun _ kS => XS.aload X152.here hx rfl (hb hby at_155) rfl rfl kS) ?_
            show own_Comes p e below s _ _ _ (T152.setTop (mkF m 157 #[.val (.int p0), .val (.int p1), .val (.int p2), .val (.int p3), .val (.int (3 : Int32)), .val (.int (1 : Int32)), .val (.ref a85), .val (.ref a86), .val (.ref a87), .val (.ref a88), .val (.ref b89), .val (.ref a152), .unset, .unset] [(.ref a152), (.int (1 : Int32)), (.ref b89)]))
            obtain ⟨_, _, ⟨T163, L163, k163, n163⟩, -, X163, ⟨Lc163, hQ163, l163, y163, z163⟩, st163⟩ := Jvm.LawKit.callS X152 hx (y := (⟨"com/example/callyard/callyard/cli/CommandLine", "operand", "(Ljava/util/List;ILjava/lang/String;)Ljava/lang/String;"⟩ : MethodName)) hown (mvT hZ (hw _ (List.mem_of_getElem? (i := 108) rfl))) (mvT hZ (hw _ (List.mem_of_getElem? (i := 109) rfl))) (mvT hZ (hw _ (List.mem_of_getElem? (i := 110) rfl))) (mvT hZ (hw _ (List.mem_of_getElem? (i := 111) rfl))) (by decide) (backOf (W := 0) (rm20 l Z a0 hw [] b89 (1 : Int32) a152 a93 k93 (3 : Int32) [(.ref a85), (.ref a86), (.ref a87), .null, .null, .null, .null, .null, .null, .null] a86 T152.heap n0 (Nat.le_trans (Nat.le_trans (Nat.le_trans (Nat.le_trans (Nat.le_trans (Nat.le_trans (Nat.le_trans (Nat.le_trans (Nat.le_trans (Nat.le_trans Z0 E85.1) E86.1) E87.1) E88.1) E89.1) K91.1) K93.1) K95.1) K97.1) E152.1) (hM97.ext E152) (by decide) (by decide) (by decide) rfl (((c94.keep K95).keep K97).ext E152)) hZ (hw _ (List.mem_of_getElem? (i := 111) rfl)) (hw _ (List.mem_of_getElem? (i := 110) rfl)) (by decide) (by decide)) (g := (mkF m 157 #[.val (.int p0), .val (.int p1), .val (.int p2), .val (.int p3), .val (.int (3 : Int32)), .val (.int (1 : Int32)), .val (.ref a85), .val (.ref a86), .val (.ref a87), .val (.ref a88), .val (.ref b89), .val (.ref a152), .unset, .unset] [(.ref a152), (.int (1 : Int32)), (.ref b89)])) rfl (by rw [hml]; rfl) (argsL := [(.ref b89), (.int (1 : Int32)), (.ref a152)]) (rest := []) (lenOf pd__Ljava_util_List_ILjava_lang_String__Ljava_lang_String__66 rfl) rfl (by show 2 * 0 + _ ≤ _; exact Nat.le_of_eq rfl) (hb hby at_157) (fun _ _ => ⟨rfl, rfl, (by decide : 16 + 0 ≤ _), (by decide : 50 + 0 ≤ _)⟩)
            dsimp only [Pt.U, Pt.locs, Pt.cells, Pt.slots] at X163 l163 y163 z163 st163 hQ163
            subst l163 y163 z163
            obtain ⟨rfl, N163q, e163q⟩ := hQ163
            have N163 := Fr.app N152 N163q
            refine own_by st163 ?_
            have e163 : T163.heap = T152.heap := e163q
            show own_Comes p e below s _ _ _ (T163.setTop (mkF m 160 #[.val (.int p0), .val (.int p1), .val (.int p2), .val (.int p3), .val (.int (3 : Int32)), .val (.int (1 : Int32)), .val (.ref a85), .val (.ref a86), .val (.ref a87), .val (.ref a88), .val (.ref b89), .val (.ref a152), .unset, .unset] [(.ref a86)]))
            refine own_by (fun _ kS => XS.astore X163.here hx rfl (hb hby at_160) rfl rfl (l' := #[.val (.int p0), .val (.int p1), .val (.int p2), .val (.int p3), .val (.int (3 : Int32)), .val (.int (1 : Int32)), .val (.ref a85), .val (.ref a86), .val (.ref a87), .val (.ref a88), .val (.ref b89), .val (.ref a152), .val (.ref a86), .unset]) rfl kS) ?_
            show own_Comes p e below s _ _ _ (T163.setTop (mkF m 162 #[.val (.int p0), .val (.int p1), .val (.int p2), .val (.int p3), .val (.int (3 : Int32)), .val (.int (1 : Int32)), .val (.ref a85), .val (.ref a86), .val (.ref a87), .val (.ref a88), .val (.ref b89), .val (.ref a152), .val (.ref a86), .unset] []))
            refine own_by (fun _ kS => XS.iload X163.here hx rfl (hb hby at_162) rfl kS) ?_
            show own_Comes p e below s _ _ _ (T163.setTop (mkF m 164 #[.val (.int p0), .val (.int p1), .val (.int p2), .val (.int p3), .val (.int (3 : Int32)), .val (.int (1 : Int32)), .val (.ref a85), .val (.ref a86), .val (.ref a87), .val (.ref a88), .val (.ref b89), .val (.ref a152), .val (.ref a86), .unset] [(.int (1 : Int32))]))
            have hb164 : ¬ ((1 : Int32) = (0 : Int32)) := by decide
            refine own_by (fun _ kS => XS.ifYes X163.here hx rfl (pc0 := 164) (pc' := 174) rfl (hb hby at_164) rfl ((if0 _ _).trans (feq hb164).2) (by decide) (by decide) kS) ?_
            show own_Comes p e below s _ _ _ (T163.setTop (mkF m 174 #[.val (.int p0), .val (.int p1), .val (.int p2), .val (.int p3), .val (.int (3 : Int32)), .val (.int (1 : Int32)), .val (.ref a85), .val (.ref a86), .val (.ref a87), .val (.ref a88), .val (.ref b89), .val (.ref a152), .val (.ref a86), .unset] []))
            refine own_by (fun _ kS => XS.iload X163.here hx rfl (hb hby at_174) rfl kS) ?_
            show own_Comes p e below s _ _ _ (T163.setTop (mkF m 176 #[.val (.int p0), .val (.int p1), .val (.int p2), .val (.int p3), .val (.int (3 : Int32)), .val (.int (1 : Int32)), .val (.ref a85), .val (.ref a86), .val (.ref a87), .val (.ref a88), .val (.ref b89), .val (.ref a152), .val (.ref a86), .unset] [(.int (1 : Int32))]))
            refine own_by (fun _ kS => XS.iconst X163.here hx rfl (hb hby at_176) kS) ?_
            show own_Comes p e below s _ _ _ (T163.setTop (mkF m 177 #[.val (.int p0), .val (.int p1), .val (.int p2), .val (.int p3), .val (.int (3 : Int32)), .val (.int (1 : Int32)), .val (.ref a85), .val (.ref a86), .val (.ref a87), .val (.ref a88), .val (.ref b89), .val (.ref a152), .val (.ref a86), .unset] [(.int (1 : Int32)), (.int (1 : Int32))]))
            have hb165 : (1 : Int32) = (1 : Int32) := by decide
            refine own_by (fun _ kS => XS.icmpNo X163.here hx rfl (hb hby at_177) rfl (teq hb165).2 kS) ?_
            show own_Comes p e below s _ _ _ (T163.setTop (mkF m 180 #[.val (.int p0), .val (.int p1), .val (.int p2), .val (.int p3), .val (.int (3 : Int32)), .val (.int (1 : Int32)), .val (.ref a85), .val (.ref a86), .val (.ref a87), .val (.ref a88), .val (.ref b89), .val (.ref a152), .val (.ref a86), .unset] []))
            refine own_by (fun _ kS => XS.aload X163.here hx rfl (hb hby at_180) rfl rfl kS) ?_
            show own_Comes p e below s _ _ _ (T163.setTop (mkF m 182 #[.val (.int p0), .val (.int p1), .val (.int p2), .val (.int p3), .val (.int (3 : Int32)), .val (.int (1 : Int32)), .val (.ref a85), .val (.ref a86), .val (.ref a87), .val (.ref a88), .val (.ref b89), .val (.ref a152), .val (.ref a86), .unset] [(.ref a86)]))
            refine own_by (fun _ kS => XS.astore X163.here hx rfl (hb hby at_182) rfl rfl (l' := #[.val (.int p0), .val (.int p1), .val (.int p2), .val (.int p3), .val (.int (3 : Int32)), .val (.int (1 : Int32)), .val (.ref a85), .val (.ref a86), .val (.ref a87), .val (.ref a88), .val (.ref b89), .val (.ref a152), .val (.ref a86), .val (.ref a86)]) rfl kS) ?_
            show own_Comes p e below s _ _ _ (T163.setTop (mkF m 184 #[.val (.int p0), .val (.int p1), .val (.int p2), .val (.int p3), .val (.int (3 : Int32)), .val (.int (1 : Int32)), .val (.ref a85), .val (.ref a86), .val (.ref a87), .val (.ref a88), .val (.ref b89), .val (.ref a152), .val (.ref a86), .val (.ref a86)] []))
            refine own_by (fun _ kS => XS.goto X163.here hx rfl (pc0 := 184) (pc' := 204) rfl (hb hby at_184) (by decide) (by decide) kS) ?_
            show own_Comes p e below s _ _ _ (T163.setTop (mkF m 204 #[.val (.int p0), .val (.int p1), .val (.int p2), .val (.int p3), .val (.int (3 : Int32)), .val (.int (1 : Int32)), .val (.ref a85), .val (.ref a86), .val (.ref a87), .val (.ref a88), .val (.ref b89), .val (.ref a152), .val (.ref a86), .val (.ref a86)] []))
            refine own_by (fun _ kS => XS.aload X163.here hx rfl (hb hby at_204) rfl rfl kS) ?_
            show own_Comes p e below s _ _ _ (T163.setTop (mkF m 206 #[.val (.int p0), .val (.int p1), .val (.int p2), .val (.int p3), .val (.int (3 : Int32)), .val (.int (1 : Int32)), .val (.ref a85), .val (.ref a86), .val (.ref a87), .val (.ref a88), .val (.ref b89), .val (.ref a152), .val (.ref a86), .val (.ref a86)] [(.ref a86)]))
            refine own_by (fun _ kS => XS.ifnullNo X163.here hx rfl (hb hby at_206) rfl kS) ?_
            show own_Comes p e below s _ _ _ (T163.setTop (mkF m 209 #[.val (.int p0), .val (.int p1), .val (.int p2), .val (.int p3), .val (.int (3 : Int32)), .val (.int (1 : Int32)), .val (.ref a85), .val (.ref a86), .val (.ref a87), .val (.ref a88), .val (.ref b89), .val (.ref a152), .val (.ref a86), .val (.ref a86)] []))
            refine own_by (fun _ kS => XS.aload X163.here hx rfl (hb hby at_209) rfl rfl kS) ?_
            show own_Comes p e below s _ _ _ (T163.setTop (mkF m 211 #[.val (.int p0), .val (.int p1), .val (.int p2), .val (.int p3), .val (.int (3 : Int32)), .val (.int (1 : Int32)), .val (.ref a85), .val (.ref a86), .val (.ref a87), .val (.ref a88), .val (.ref b89), .val (.ref a152), .val (.ref a86), .val (.ref a86)] [(.ref a86)]))
            refine own_by (fun _ kS => XS.aload X163.here hx rfl (hb hby at_211) rfl rfl kS) ?_
            show own_Comes p e below s _ _ _ (T163.setTop (mkF m 213 #[.val (.int p0), .val (.int p1), .val (.int p2), .val (.int p3), .val (.int (3 : Int32)), .val (.int (1 : Int32)), .val (.ref a85), .val (.ref a86), .val (.ref a87), .val (.ref a88), .val (.ref b89), .val (.ref a152), .val (.ref a86), .val (.ref a86)] [(.ref a86), (.ref a86)]))
            obtain ⟨cq166, kq166, q166a, q166b, q166c⟩ := isOf hZ e163 (((c94.keep K95).keep K97).ext E152)
            obtain ⟨_, _, ⟨T166, L166, k166, n166⟩, -, X166, ⟨Lc166, hQ166, l166, y166, z166⟩, st166⟩ := X163.virtualBack hx (y := (⟨"java/lang/String", "equals", "(Ljava/lang/Object;)Z"⟩ : MethodName)) (z := (⟨"java/lang/String", "equals", "(Ljava/lang/Object;)Z"⟩ : MethodName)) hown (mvT hZ (hw _ (List.mem_of_getElem? (i := 142) rfl))) (mvT hZ (hw _ (List.mem_of_getElem? (i := 143) rfl))) (notFace_of_selects (args := #[]) (mvT hZ (hw _ (List.mem_of_getElem? (i := 145) rfl)))) (mvT hZ (hw _ (List.mem_of_getElem? (i := 145) rfl))) (mvT hZ (hw _ (List.mem_of_getElem? (i := 144) rfl))) (by decide) (backOf (W := 0) (rm26 l Z a0 hw [] a86 T152.heap n0 (Nat.le_trans (Nat.le_trans (Nat.le_trans (Nat.le_trans (Nat.le_trans (Nat.le_trans (Nat.le_trans (Nat.le_trans (Nat.le_trans (Nat.le_trans Z0 E85.1) E86.1) E87.1) E88.1) E89.1) K91.1) K93.1) K95.1) K97.1) E152.1)) hZ (hw _ (List.mem_of_getElem? (i := 146) rfl)) (hw _ (List.mem_of_getElem? (i := 8) rfl)) (by decide) (by decide)) q166a q166c (g := (mkF m 213 #[.val (.int p0), .val (.int p1), .val (.int p2), .val (.int p3), .val (.int (3 : Int32)), .val (.int (1 : Int32)), .val (.ref a85), .val (.ref a86), .val (.ref a87), .val (.ref a88), .val (.ref b89), .val (.ref a152), .val (.ref a86), .val (.ref a86)] [(.ref a86), (.ref a86)])) rfl (by rw [hml]; rfl) (Steps.refl _) (argsL := [(.ref a86)]) (rest := []) (lenOf pd__Ljava_lang_Object__Z_838 rfl) rfl (by show 2 * 0 + _ ≤ _; exact Nat.le_of_eq rfl) (hb hby at_213) (fun _ _ => ⟨rfl, e163, (by decide : 16 + 0 ≤ _), (by decide : 50 + 0 ≤ _)⟩)
            dsimp only [Pt.U, Pt.locs, Pt.cells, Pt.slots] at X166 l166 y166 z166 st166 hQ166
            subst l166 y166 z166
            obtain ⟨rfl, N166q, e166q⟩ := hQ166
            have N166 := Fr.app N163 N166q
            refine own_tr st166 ?_
            have e166 : T166.heap = T152.heap := e166q
            show own_Comes p e below s _ _ _ (T166.setTop (mkF m 216 #[.val (.int p0), .val (.int p1), .val (.int p2), .val (.int p3), .val (.int (3 : Int32)), .val (.int (1 : Int32)), .val (.ref a85), .val (.ref a86), .val (.ref a87), .val (.ref a88), .val (.ref b89), .val (.ref a152), .val (.ref a86), .val (.ref a86)] [(.int (1 : Int32))]))
            have hb167 : ¬ ((1 : Int32) = (0 : Int32)) := by decide
            refine own_by (fun _ kS => XS.ifNo X166.here hx rfl (hb hby at_216) rfl ((if0 _ _).trans (feq hb167).1) kS) ?_
            show own_Comes p e below s _ _ _ (T166.setTop (mkF m 219 #[.val (.int p0), .val (.int p1), .val (.int p2), .val (.int p3), .val (.int (3 : Int32)), .val (.int (1 : Int32)), .val (.ref a85), .val (.ref a86), .val (.ref a87), .val (.ref a88), .val (.ref b89), .val (.ref a152), .val (.ref a86), .val (.ref a86)] []))
            refine own_by (fun _ kS => XS.aload X166.here hx rfl (hb hby at_219) rfl rfl kS) ?_
            show own_Comes p e below s _ _ _ (T166.setTop (mkF m 221 #[.val (.int p0), .val (.int p1), .val (.int p2), .val (.int p3), .val (.int (3 : Int32)), .val (.int (1 : Int32)), .val (.ref a85), .val (.ref a86), .val (.ref a87), .val (.ref a88), .val (.ref b89), .val (.ref a152), .val (.ref a86), .val (.ref a86)] [(.ref b89)]))
            obtain ⟨cq168, kq168, q168a, q168b, q168c⟩ := isOf hZ e166 (hM97.ext E152).1
            obtain ⟨_, _, ⟨T168, L168, k168, n168⟩, -, X168, ⟨Lc168, hQ168, l168, y168, z168⟩, st168⟩ := X166.interfaceBack hx (xi := (⟨"java/util/List", "size", "()I"⟩ : MethodName)) (y := (⟨"java/util/ArrayList", "size", "()I"⟩ : MethodName)) hown (mvT hZ (hw _ (List.mem_of_getElem? (i := 147) rfl))) (mvT hZ (hw _ (List.mem_of_getElem? (i := 113) rfl))) (mvT hZ (hw _ (List.mem_of_getElem? (i := 114) rfl))) (mvT hZ (hw _ (List.mem_of_getElem? (i := 115) rfl))) (mvT hZ (hw _ (List.mem_of_getElem? (i := 116) rfl))) (mvT hZ (hw _ (List.mem_of_getElem? (i := 117) rfl))) (mvT hZ (hw _ (List.mem_of_getElem? (i := 118) rfl))) (mvT hZ (hw _ (List.mem_of_getElem? (i := 66) rfl))) (by decide) (backOf (W := 0) (rm21 l Z a0 hw [] b89 (3 : Int32) T152.heap n0 (Nat.le_trans (Nat.le_trans (Nat.le_trans (Nat.le_trans (Nat.le_trans (Nat.le_trans (Nat.le_trans (Nat.le_trans (Nat.le_trans (Nat.le_trans Z0 E85.1) E86.1) E87.1) E88.1) E89.1) K91.1) K93.1) K95.1) K97.1) E152.1) (hM97.ext E152).2.2.2.1) hZ (hw _ (List.mem_of_getElem? (i := 119) rfl)) (hw _ (List.mem_of_getElem? (i := 37) rfl)) (by decide) (by decide)) q168a q168b q168c (g := (mkF m 221 #[.val (.int p0), .val (.int p1), .val (.int p2), .val (.int p3), .val (.int (3 : Int32)), .val (.int (1 : Int32)), .val (.ref a85), .val (.ref a86), .val (.ref a87), .val (.ref a88), .val (.ref b89), .val (.ref a152), .val (.ref a86), .val (.ref a86)] [(.ref b89)])) rfl (by rw [hml]; rfl) (Steps.refl _) (argsL := []) (rest := []) (lenOf pd___I_154 rfl) rfl (by show 2 * 0 + _ ≤ _; exact Nat.le_of_eq rfl) (hb hby at_221) (fun _ _ => ⟨rfl, e166, (by decide : 16 + 0 ≤ _), (by decide : 50 + 0 ≤ _)⟩)
            dsimp only [Pt.U, Pt.locs, Pt.cells, Pt.slots] at X168 l168 y168 z168 st168 hQ168
            subst l168 y168 z168
            obtain ⟨rfl, N168q, e168q⟩ := hQ168
            have N168 := Fr.app N166 N168q
            refine own_tr st168 ?_
            have e168 : T168.heap = T152.heap := e168q
            show own_Comes p e below s _ _ _ (T168.setTop (mkF m 226 #[.val (.int p0), .val (.int p1), .val (.int p2), .val (.int p3), .val (.int (3 : Int32)), .val (.int (1 : Int32)), .val (.ref a85), .val (.ref a86), .val (.ref a87), .val (.ref a88), .val (.ref b89), .val (.ref a152), .val (.ref a86), .val (.ref a86)] [(.int (3 : Int32))]))
            refine own_by (fun _ kS => XS.iload X168.here hx rfl (hb hby at_226) rfl kS) ?_
            show own_Comes p e below s _ _ _ (T168.setTop (mkF m 228 #[.val (.int p0), .val (.int p1), .val (.int p2), .val (.int p3), .val (.int (3 : Int32)), .val (.int (1 : Int32)), .val (.ref a85), .val (.ref a86), .val (.ref a87), .val (.ref a88), .val (.ref b89), .val (.ref a152), .val (.ref a86), .val (.ref a86)] [(.int (3 : Int32)), (.int (3 : Int32))]))
            have hb169 : (3 : Int32) = (3 : Int32) := by decide
            refine own_by (fun _ kS => XS.icmpNo X168.here hx rfl (hb hby at_228) rfl (teq hb169).2 kS) ?_
            show own_Comes p e below s _ _ _ (T168.setTop (mkF m 231 #[.val (.int p0), .val (.int p1), .val (.int p2), .val (.int p3), .val (.int (3 : Int32)), .val (.int (1 : Int32)), .val (.ref a85), .val (.ref a86), .val (.ref a87), .val (.ref a88), .val (.ref b89), .val (.ref a152), .val (.ref a86), .val (.ref a86)] []))
            refine own_by (fun _ kS => XS.aload X168.here hx rfl (hb hby at_231) rfl rfl kS) ?_
            show own_Comes p e below s _ _ _ (T168.setTop (mkF m 233 #[.val (.int p0), .val (.int p1), .val (.int p2), .val (.int p3), .val (.int (3 : Int32)), .val (.int (1 : Int32)), .val (.ref a85), .val (.ref a86), .val (.ref a87), .val (.ref a88), .val (.ref b89), .val (.ref a152), .val (.ref a86), .val (.ref a86)] [(.ref b89)]))
            refine own_by (fun _ kS => XS.iconst X168.here hx rfl (hb hby at_233) kS) ?_
            show own_Comes p e below s _ _ _ (T168.setTop (mkF m 234 #[.val (.int p0), .val (.int p1), .val (.int p2), .val (.int p3), .val (.int (3 : Int32)), .val (.int (1 : Int32)), .val (.ref a85), .val (.ref a86), .val (.ref a87), .val (.ref a88), .val (.ref b89), .val (.ref a152), .val (.ref a86), .val (.ref a86)] [(.int (0 : Int32)), (.ref b89)]))
            obtain ⟨cq170, kq170, q170a, q170b, q170c⟩ := isOf hZ e168 (hM97.ext E152).1
            obtain ⟨_, _, ⟨T170, L170, k170, n170⟩, -, X170, ⟨Lc170, hQ170, l170, y170, z170⟩, st170⟩ := X168.interfaceBack hx (xi := (⟨"java/util/List", "get", "(I)Ljava/lang/Object;"⟩ : MethodName)) (y := (⟨"java/util/ArrayList", "get", "(I)Ljava/lang/Object;"⟩ : MethodName)) hown (mvT hZ (hw _ (List.mem_of_getElem? (i := 148) rfl))) (mvT hZ (hw _ (List.mem_of_getElem? (i := 121) rfl))) (mvT hZ (hw _ (List.mem_of_getElem? (i := 122) rfl))) (mvT hZ (hw _ (List.mem_of_getElem? (i := 123) rfl))) (mvT hZ (hw _ (List.mem_of_getElem? (i := 124) rfl))) (mvT hZ (hw _ (List.mem_of_getElem? (i := 125) rfl))) (mvT hZ (hw _ (List.mem_of_getElem? (i := 126) rfl))) (mvT hZ (hw _ (List.mem_of_getElem? (i := 66) rfl))) (by decide) (backOf (W := 0) (rm22 l Z a0 hw [] b89 (0 : Int32) a93 k93 (3 : Int32) [(.ref a85), (.ref a86), (.ref a87), .null, .null, .null, .null, .null, .null, .null] a85 T152.heap n0 (Nat.le_trans (Nat.le_trans (Nat.le_trans (Nat.le_trans (Nat.le_trans (Nat.le_trans (Nat.le_trans (Nat.le_trans (Nat.le_trans (Nat.le_trans Z0 E85.1) E86.1) E87.1) E88.1) E89.1) K91.1) K93.1) K95.1) K97.1) E152.1) (hM97.ext E152) (by decide) (by decide) (by decide) rfl) hZ (hw _ (List.mem_of_getElem? (i := 127) rfl)) (hw _ (List.mem_of_getElem? (i := 37) rfl)) (by decide) (by decide)) q170a q170b q170c (g := (mkF m 234 #[.val (.int p0), .val (.int p1), .val (.int p2), .val (.int p3), .val (.int (3 : Int32)), .val (.int (1 : Int32)), .val (.ref a85), .val (.ref a86), .val (.ref a87), .val (.ref a88), .val (.ref b89), .val (.ref a152), .val (.ref a86), .val (.ref a86)] [(.int (0 : Int32)), (.ref b89)])) rfl (by rw [hml]; rfl) (Steps.refl _) (argsL := [(.int (0 : Int32))]) (rest := []) (lenOf pd__I_Ljava_lang_Object__821 rfl) rfl (by show 2 * 0 + _ ≤ _; exact Nat.le_of_eq rfl) (hb hby at_234) (fun _ _ => ⟨rfl, e168, (by decide : 16 + 0 ≤ _), (by decide : 50 + 0 ≤ _)⟩)
            dsimp only [Pt.U, Pt.locs, Pt.cells, Pt.slots] at X170 l170 y170 z170 st170 hQ170
            subst l170 y170 z170
            obtain ⟨rfl, N170q, e170q⟩ := hQ170
            have N170 := Fr.app N168 N170q
            refine own_tr st170 ?_
            have e170 : T170.heap = T152.heap := e170q
            show own_Comes p e below s _ _ _ (T170.setTop (mkF m 239 #[.val (.int p0), .val (.int p1), .val (.int p2), .val (.int p3), .val (.int (3 : Int32)), .val (.int (1 : Int32)), .val (.ref a85), .val (.ref a86), .val (.ref a87), .val (.ref a88), .val (.ref b89), .val (.ref a152), .val (.ref a86), .val (.ref a86)] [(.ref a85)]))
            obtain ⟨T171, X171, e171, st171⟩ := castY X170 hx hZ hown (hw _ (List.mem_of_getElem? (i := 6) rfl)) e170 (Ins.self ((((c92.keep K93).keep K95).keep K97).ext E152)) (g := (mkF m 239 #[.val (.int p0), .val (.int p1), .val (.int p2), .val (.int p3), .val (.int (3 : Int32)), .val (.int (1 : Int32)), .val (.ref a85), .val (.ref a86), .val (.ref a87), .val (.ref a88), .val (.ref b89), .val (.ref a152), .val (.ref a86), .val (.ref a86)] [(.ref a85)])) rfl rfl (hb hby at_239)
            refine own_by st171 ?_
            show own_Comes p e below s _ _ _ (T171.setTop (mkF m 242 #[.val (.int p0), .val (.int p1), .val (.int p2), .val (.int p3), .val (.int (3 : Int32)), .val (.int (1 : Int32)), .val (.ref a85), .val (.ref a86), .val (.ref a87), .val (.ref a88), .val (.ref b89), .val (.ref a152), .val (.ref a86), .val (.ref a86)] [(.ref a85)]))
            refine own_by (fun _ kS => XS.aload X171.here hx rfl (hb hby at_242) rfl rfl kS) ?_
            show own_Comes p e below s _ _ _ (T171.setTop (mkF m 244 #[.val (.int p0), .val (.int p1), .val (.int p2), .val (.int p3), .val (.int (3 : Int32)), .val (.int (1 : Int32)), .val (.ref a85), .val (.ref a86), .val (.ref a87), .val (.ref a88), .val (.ref b89), .val (.ref a152), .val (.ref a86), .val (.ref a86)] [(.ref a85), (.ref a85)]))
            obtain ⟨cq172, kq172, q172a, q172b, q172c⟩ := isOf hZ e171 ((((c92.keep K93).keep K95).keep K97).ext E152)
            obtain ⟨_, _, ⟨T172, L172, k172, n172⟩, -, X172, ⟨Lc172, hQ172, l172, y172, z172⟩, st172⟩ := X171.virtualBack hx (y := (⟨"java/lang/String", "equals", "(Ljava/lang/Object;)Z"⟩ : MethodName)) (z := (⟨"java/lang/String", "equals", "(Ljava/lang/Object;)Z"⟩ : MethodName)) hown (mvT hZ (hw _ (List.mem_of_getElem? (i := 142) rfl))) (mvT hZ (hw _ (List.mem_of_getElem? (i := 143) rfl))) (notFace_of_selects (args := #[]) (mvT hZ (hw _ (List.mem_of_getElem? (i := 145) rfl)))) (mvT hZ (hw _ (List.mem_of_getElem? (i := 145) rfl))) (mvT hZ (hw _ (List.mem_of_getElem? (i := 144) rfl))) (by decide) (backOf (W := 0) (rm26 l Z a0 hw [] a85 T152.heap n0 (Nat.le_trans (Nat.le_trans (Nat.le_trans (Nat.le_trans (Nat.le_trans (Nat.le_trans (Nat.le_trans (Nat.le_trans (Nat.le_trans (Nat.le_trans Z0 E85.1) E86.1) E87.1) E88.1) E89.1) K91.1) K93.1) K95.1) K97.1) E152.1)) hZ (hw _ (List.mem_of_getElem? (i := 146) rfl)) (hw _ (List.mem_of_getElem? (i := 8) rfl)) (by decide) (by decide)) q172a q172c (g := (mkF m 244 #[.val (.int p0), .val (.int p1), .val (.int p2), .val (.int p3), .val (.int (3 : Int32)), .val (.int (1 : Int32)), .val (.ref a85), .val (.ref a86), .val (.ref a87), .val (.ref a88), .val (.ref b89), .val (.ref a152), .val (.ref a86), .val (.ref a86)] [(.ref a85), (.ref a85)])) rfl (by rw [hml]; rfl) (Steps.refl _) (argsL := [(.ref a85)]) (rest := []) (lenOf pd__Ljava_lang_Object__Z_838 rfl) rfl (by show 2 * 0 + _ ≤ _; exact Nat.le_of_eq rfl) (hb hby at_244) (fun _ _ => ⟨rfl, e171, (by decide : 16 + 0 ≤ _), (by decide : 50 + 0 ≤ _)⟩)
            dsimp only [Pt.U, Pt.locs, Pt.cells, Pt.slots] at X172 l172 y172 z172 st172 hQ172
            subst l172 y172 z172
            obtain ⟨rfl, N172q, e172q⟩ := hQ172
            have N172 := Fr.app N170 N172q
            refine own_tr st172 ?_
            have e172 : T172.heap = T152.heap := e172q
            show own_Comes p e below s _ _ _ (T172.setTop (mkF m 247 #[.val (.int p0), .val (.int p1), .val (.int p2), .val (.int p3), .val (.int (3 : Int32)), .val (.int (1 : Int32)), .val (.ref a85), .val (.ref a86), .val (.ref a87), .val (.ref a88), .val (.ref b89), .val (.ref a152), .val (.ref a86), .val (.ref a86)] [(.int (1 : Int32))]))
            have hb173 : ¬ ((1 : Int32) = (0 : Int32)) := by decide
            refine own_by (fun _ kS => XS.ifNo X172.here hx rfl (hb hby at_247) rfl ((if0 _ _).trans (feq hb173).1) kS) ?_
            show own_Comes p e below s _ _ _ (T172.setTop (mkF m 250 #[.val (.int p0), .val (.int p1), .val (.int p2), .val (.int p3), .val (.int (3 : Int32)), .val (.int (1 : Int32)), .val (.ref a85), .val (.ref a86), .val (.ref a87), .val (.ref a88), .val (.ref b89), .val (.ref a152), .val (.ref a86), .val (.ref a86)] []))
            refine own_by (fun _ kS => XS.iconst X172.here hx rfl (hb hby at_250) kS) ?_
            show own_Comes p e below s _ _ _ (T172.setTop (mkF m 251 #[.val (.int p0), .val (.int p1), .val (.int p2), .val (.int p3), .val (.int (3 : Int32)), .val (.int (1 : Int32)), .val (.ref a85), .val (.ref a86), .val (.ref a87), .val (.ref a88), .val (.ref b89), .val (.ref a152), .val (.ref a86), .val (.ref a86)] [(.int (1 : Int32))]))
            refine own_by (fun _ kS => XS.goto X172.here hx rfl (pc0 := 251) (pc' := 255) rfl (hb hby at_251) (by decide) (by decide) kS) ?_
            show own_Comes p e below s _ _ _ (T172.setTop (mkF m 255 #[.val (.int p0), .val (.int p1), .val (.int p2), .val (.int p3), .val (.int (3 : Int32)), .val (.int (1 : Int32)), .val (.ref a85), .val (.ref a86), .val (.ref a87), .val (.ref a88), .val (.ref b89), .val (.ref a152), .val (.ref a86), .val (.ref a86)] [(.int (1 : Int32))]))
            refine own_ret X172 (v := some (.int (1 : Int32))) (fun h => by rw [Bd.returns] at h; cases h) Bd.notSynchronized (by decide) (by decide) ?_ (fun fs hr => retN X172 hx (t := .boolean) Bd.returns (by simp) (hb hby at_255) hr)
            rw [e172]; exact ⟨rfl, N172⟩
          · have _hh : True := trivial
            rw [show I = (2 : Int32) from own_ki (n := 2) (by omega) (by decide)]
            show own_Comes p e below s _ _ _ (T152.setTop (mkF m 153 #[.val (.int p0), .val (.int p1), .val (.int p2), .val (.int p3), .val (.int (3 : Int32)), .val (.int (2 : Int32)), .val (.ref a85), .val (.ref a86), .val (.ref a87), .val (.ref a88), .val (.ref b89), .val (.ref a152), .unset, .unset] [(.ref b89)]))
            refine own_by (fun _ kS => XS.iload X152.here hx rfl (hb hby at_153) rfl kS) ?_
            show own_Comes p e below s _ _ _ (T152.setTop (mkF m 155 #[.val (.int p0), .val (.int p1), .val (.int p2), .val (.int p3), .val (.int (3 : Int32)), .val (.int (2 : Int32)), .val (.ref a85), .val (.ref a86), .val (.ref a87), .val (.ref a88), .val (.ref b89), .val (.ref a152), .unset, .unset] [(.int (2 : Int32)), (.ref b89)]))
            refine own_by (fun _ kS => XS.aload X152.here hx rfl (hb hby at_155) rfl rfl kS) ?_
            show own_Comes p e below s _ _ _ (T152.setTop (mkF m 157 #[.val (.int p0), .val (.int p1), .val (.int p2), .val (.int p3), .val (.int (3 : Int32)), .val (.int (2 : Int32)), .val (.ref a85), .val (.ref a86), .val (.ref a87), .val (.ref a88), .val (.ref b89), .val (.ref a152), .unset, .unset] [(.ref a152), (.int (2 : Int32)), (.ref b89)]))
            obtain ⟨_, _, ⟨T174, L174, k174, n174⟩, -, X174, ⟨Lc174, hQ174, l174, y174, z174⟩, st174⟩ := Jvm.LawKit.callS X152 hx (y := (⟨"com/example/callyard/callyard/cli/CommandLine", "operand", "(Ljava/util/List;ILjava/lang/String;)Ljava/lang/String;"⟩ : MethodName)) hown (mvT hZ (hw _ (List.mem_of_getElem? (i := 108) rfl))) (mvT hZ (hw _ (List.mem_of_getElem? (i := 109) rfl))) (mvT hZ (hw _ (List.mem_of_getElem? (i := 110) rfl))) (mvT hZ (hw _ (List.mem_of_getElem? (i := 111) rfl))) (by decide) (backOf (W := 0) (rm20 l Z a0 hw [] b89 (2 : Int32) a152 a93 k93 (3 : Int32) [(.ref a85), (.ref a86), (.ref a87), .null, .null, .null, .null, .null, .null, .null] a87 T152.heap n0 (Nat.le_trans (Nat.le_trans (Nat.le_trans (Nat.le_trans (Nat.le_trans (Nat.le_trans (Nat.le_trans (Nat.le_trans (Nat.le_trans (Nat.le_trans Z0 E85.1) E86.1) E87.1) E88.1) E89.1) K91.1) K93.1) K95.1) K97.1) E152.1) (hM97.ext E152) (by decide) (by decide) (by decide) rfl ((c96.keep K97).ext E152)) hZ (hw _ (List.mem_of_getElem? (i := 111) rfl)) (hw _ (List.mem_of_getElem? (i := 110) rfl)) (by decide) (by decide)) (g := (mkF m 157 #[.val (.int p0), .val (.int p1), .val (.int p2), .val (.int p3), .val (.int (3 : Int32)), .val (.int (2 : Int32)), .val (.ref a85), .val (.ref a86), .val (.ref a87), .val (.ref a88), .val (.ref b89), .val (.ref a152), .unset, .unset] [(.ref a152), (.int (2 : Int32)), (.ref b89)])) rfl (by rw [hml]; rfl) (argsL := [(.ref b89), (.int (2 : Int32)), (.ref a152)]) (rest := []) (lenOf pd__Ljava_util_List_ILjava_lang_String__Ljava_lang_String__66 rfl) rfl (by show 2 * 0 + _ ≤ _; exact Nat.le_of_eq rfl) (hb hby at_157) (fun _ _ => ⟨rfl, rfl, (by decide : 16 + 0 ≤ _), (by decide : 50 + 0 ≤ _)⟩)
            dsimp only [Pt.U, Pt.locs, Pt.cells, Pt.slots] at X174 l174 y174 z174 st174 hQ174
            subst l174 y174 z174
            obtain ⟨rfl, N174q, e174q⟩ := hQ174
            have N174 := Fr.app N152 N174q
            refine own_by st174 ?_
            have e174 : T174.heap = T152.heap := e174q
            show own_Comes p e below s _ _ _ (T174.setTop (mkF m 160 #[.val (.int p0), .val (.int p1), .val (.int p2), .val (.int p3), .val (.int (3 : Int32)), .val (.int (2 : Int32)), .val (.ref a85), .val (.ref a86), .val (.ref a87), .val (.ref a88), .val (.ref b89), .val (.ref a152), .unset, .unset] [(.ref a87)]))
            refine own_by (fun _ kS => XS.astore X174.here hx rfl (hb hby at_160) rfl rfl (l' := #[.val (.int p0), .val (.int p1), .val (.int p2), .val (.int p3), .val (.int (3 : Int32)), .val (.int (2 : Int32)), .val (.ref a85), .val (.ref a86), .val (.ref a87), .val (.ref a88), .val (.ref b89), .val (.ref a152), .val (.ref a87), .unset]) rfl kS) ?_
            show own_Comes p e below s _ _ _ (T174.setTop (mkF m 162 #[.val (.int p0), .val (.int p1), .val (.int p2), .val (.int p3), .val (.int (3 : Int32)), .val (.int (2 : Int32)), .val (.ref a85), .val (.ref a86), .val (.ref a87), .val (.ref a88), .val (.ref b89), .val (.ref a152), .val (.ref a87), .unset] []))
            refine own_by (fun _ kS => XS.iload X174.here hx rfl (hb hby at_162) rfl kS) ?_
            show own_Comes p e below s _ _ _ (T174.setTop (mkF m 164 #[.val (.int p0), .val (.int p1), .val (.int p2), .val (.int p3), .val (.int (3 : Int32)), .val (.int (2 : Int32)), .val (.ref a85), .val (.ref a86), .val (.ref a87), .val (.ref a88), .val (.ref b89), .val (.ref a152), .val (.ref a87), .unset] [(.int (2 : Int32))]))
            have hb175 : ¬ ((2 : Int32) = (0 : Int32)) := by decide
            refine own_by (fun _ kS => XS.ifYes X174.here hx rfl (pc0 := 164) (pc' := 174) rfl (hb hby at_164) rfl ((if0 _ _).trans (feq hb175).2) (by decide) (by decide) kS) ?_
            show own_Comes p e below s _ _ _ (T174.setTop (mkF m 174 #[.val (.int p0), .val (.int p1), .val (.int p2), .val (.int p3), .val (.int (3 : Int32)), .val (.int (2 : Int32)), .val (.ref a85), .val (.ref a86), .val (.ref a87), .val (.ref a88), .val (.ref b89), .val (.ref a152), .val (.ref a87), .unset] []))
            refine own_by (fun _ kS => XS.iload X174.here hx rfl (hb hby at_174) rfl kS) ?_
            show own_Comes p e below s _ _ _ (T174.setTop (mkF m 176 #[.val (.int p0), .val (.int p1), .val (.int p2), .val (.int p3), .val (.int (3 : Int32)), .val (.int (2 : Int32)), .val (.ref a85), .val (.ref a86), .val (.ref a87), .val (.ref a88), .val (.ref b89), .val (.ref a152), .val (.ref a87), .unset] [(.int (2 : Int32))]))
            refine own_by (fun _ kS => XS.iconst X174.here hx rfl (hb hby at_176) kS) ?_
            show own_Comes p e below s _ _ _ (T174.setTop (mkF m 177 #[.val (.int p0), .val (.int p1), .val (.int p2), .val (.int p3), .val (.int (3 : Int32)), .val (.int (2 : Int32)), .val (.ref a85), .val (.ref a86), .val (.ref a87), .val (.ref a88), .val (.ref b89), .val (.ref a152), .val (.ref a87), .unset] [(.int (1 : Int32)), (.int (2 : Int32))]))
            have hb176 : ¬ ((2 : Int32) = (1 : Int32)) := by decide
            refine own_by (fun _ kS => XS.icmpYes X174.here hx rfl (pc0 := 177) (pc' := 187) rfl (hb hby at_177) rfl (feq hb176).2 (by decide) (by decide) kS) ?_
            show own_Comes p e below s _ _ _ (T174.setTop (mkF m 187 #[.val (.int p0), .val (.int p1), .val (.int p2), .val (.int p3), .val (.int (3 : Int32)), .val (.int (2 : Int32)), .val (.ref a85), .val (.ref a86), .val (.ref a87), .val (.ref a88), .val (.ref b89), .val (.ref a152), .val (.ref a87), .unset] []))
            refine own_by (fun _ kS => XS.iload X174.here hx rfl (hb hby at_187) rfl kS) ?_
            show own_Comes p e below s _ _ _ (T174.setTop (mkF m 189 #[.val (.int p0), .val (.int p1), .val (.int p2), .val (.int p3), .val (.int (3 : Int32)), .val (.int (2 : Int32)), .val (.ref a85), .val (.ref a86), .val (.ref a87), .val (.ref a88), .val (.ref b89), .val (.ref a152), .val (.ref a87), .unset] [(.int (2 : Int32))]))
            refine own_by (fun _ kS => XS.iconst X174.here hx rfl (hb hby at_189) kS) ?_
            show own_Comes p e below s _ _ _ (T174.setTop (mkF m 190 #[.val (.int p0), .val (.int p1), .val (.int p2), .val (.int p3), .val (.int (3 : Int32)), .val (.int (2 : Int32)), .val (.ref a85), .val (.ref a86), .val (.ref a87), .val (.ref a88), .val (.ref b89), .val (.ref a152), .val (.ref a87), .unset] [(.int (2 : Int32)), (.int (2 : Int32))]))
            have hb177 : (2 : Int32) = (2 : Int32) := by decide
            refine own_by (fun _ kS => XS.icmpNo X174.here hx rfl (hb hby at_190) rfl (teq hb177).2 kS) ?_
            show own_Comes p e below s _ _ _ (T174.setTop (mkF m 193 #[.val (.int p0), .val (.int p1), .val (.int p2), .val (.int p3), .val (.int (3 : Int32)), .val (.int (2 : Int32)), .val (.ref a85), .val (.ref a86), .val (.ref a87), .val (.ref a88), .val (.ref b89), .val (.ref a152), .val (.ref a87), .unset] []))
            refine own_by (fun _ kS => XS.aload X174.here hx rfl (hb hby at_193) rfl rfl kS) ?_
            show own_Comes p e below s _ _ _ (T174.setTop (mkF m 195 #[.val (.int p0), .val (.int p1), .val (.int p2), .val (.int p3), .val (.int (3 : Int32)), .val (.int (2 : Int32)), .val (.ref a85), .val (.ref a86), .val (.ref a87), .val (.ref a88), .val (.ref b89), .val (.ref a152), .val (.ref a87), .unset] [(.ref a87)]))
            refine own_by (fun _ kS => XS.astore X174.here hx rfl (hb hby at_195) rfl rfl (l' := #[.val (.int p0), .val (.int p1), .val (.int p2), .val (.int p3), .val (.int (3 : Int32)), .val (.int (2 : Int32)), .val (.ref a85), .val (.ref a86), .val (.ref a87), .val (.ref a88), .val (.ref b89), .val (.ref a152), .val (.ref a87), .val (.ref a87)]) rfl kS) ?_
            show own_Comes p e below s _ _ _ (T174.setTop (mkF m 197 #[.val (.int p0), .val (.int p1), .val (.int p2), .val (.int p3), .val (.int (3 : Int32)), .val (.int (2 : Int32)), .val (.ref a85), .val (.ref a86), .val (.ref a87), .val (.ref a88), .val (.ref b89), .val (.ref a152), .val (.ref a87), .val (.ref a87)] []))
            refine own_by (fun _ kS => XS.goto X174.here hx rfl (pc0 := 197) (pc' := 204) rfl (hb hby at_197) (by decide) (by decide) kS) ?_
            show own_Comes p e below s _ _ _ (T174.setTop (mkF m 204 #[.val (.int p0), .val (.int p1), .val (.int p2), .val (.int p3), .val (.int (3 : Int32)), .val (.int (2 : Int32)), .val (.ref a85), .val (.ref a86), .val (.ref a87), .val (.ref a88), .val (.ref b89), .val (.ref a152), .val (.ref a87), .val (.ref a87)] []))
            refine own_by (fun _ kS => XS.aload X174.here hx rfl (hb hby at_204) rfl rfl kS) ?_
            show own_Comes p e below s _ _ _ (T174.setTop (mkF m 206 #[.val (.int p0), .val (.int p1), .val (.int p2), .val (.int p3), .val (.int (3 : Int32)), .val (.int (2 : Int32)), .val (.ref a85), .val (.ref a86), .val (.ref a87), .val (.ref a88), .val (.ref b89), .val (.ref a152), .val (.ref a87), .val (.ref a87)] [(.ref a87)]))
            refine own_by (fun _ kS => XS.ifnullNo X174.here hx rfl (hb hby at_206) rfl kS) ?_
            show own_Comes p e below s _ _ _ (T174.setTop (mkF m 209 #[.val (.int p0), .val (.int p1), .val (.int p2), .val (.int p3), .val (.int (3 : Int32)), .val (.int (2 : Int32)), .val (.ref a85), .val (.ref a86), .val (.ref a87), .val (.ref a88), .val (.ref b89), .val (.ref a152), .val (.ref a87), .val (.ref a87)] []))
            refine own_by (fun _ kS => XS.aload X174.here hx rfl (hb hby at_209) rfl rfl kS) ?_
            show own_Comes p e below s _ _ _ (T174.setTop (mkF m 211 #[.val (.int p0), .val (.int p1), .val (.int p2), .val (.int p3), .val (.int (3 : Int32)), .val (.int (2 : Int32)), .val (.ref a85), .val (.ref a86), .val (.ref a87), .val (.ref a88), .val (.ref b89), .val (.ref a152), .val (.ref a87), .val (.ref a87)] [(.ref a87)]))
            refine own_by (fun _ kS => XS.aload X174.here hx rfl (hb hby at_211) rfl rfl kS) ?_
            show own_Comes p e below s _ _ _ (T174.setTop (mkF m 213 #[.val (.int p0), .val (.int p1), .val (.int p2), .val (.int p3), .val (.int (3 : Int32)), .val (.int (2 : Int32)), .val (.ref a85), .val (.ref a86), .val (.ref a87), .val (.ref a88), .val (.ref b89), .val (.ref a152), .val (.ref a87), .val (.ref a87)] [(.ref a87), (.ref a87)]))
            obtain ⟨cq178, kq178, q178a, q178b, q178c⟩ := isOf hZ e174 ((c96.keep K97).ext E152)
            obtain ⟨_, _, ⟨T178, L178, k178, n178⟩, -, X178, ⟨Lc178, hQ178, l178, y178, z178⟩, st178⟩ := X174.virtualBack hx (y := (⟨"java/lang/String", "equals", "(Ljava/lang/Object;)Z"⟩ : MethodName)) (z := (⟨"java/lang/String", "equals", "(Ljava/lang/Object;)Z"⟩ : MethodName)) hown (mvT hZ (hw _ (List.mem_of_getElem? (i := 142) rfl))) (mvT hZ (hw _ (List.mem_of_getElem? (i := 143) rfl))) (notFace_of_selects (args := #[]) (mvT hZ (hw _ (List.mem_of_getElem? (i := 145) rfl)))) (mvT hZ (hw _ (List.mem_of_getElem? (i := 145) rfl))) (mvT hZ (hw _ (List.mem_of_getElem? (i := 144) rfl))) (by decide) (backOf (W := 0) (rm26 l Z a0 hw [] a87 T152.heap n0 (Nat.le_trans (Nat.le_trans (Nat.le_trans (Nat.le_trans (Nat.le_trans (Nat.le_trans (Nat.le_trans (Nat.le_trans (Nat.le_trans (Nat.le_trans Z0 E85.1) E86.1) E87.1) E88.1) E89.1) K91.1) K93.1) K95.1) K97.1) E152.1)) hZ (hw _ (List.mem_of_getElem? (i := 146) rfl)) (hw _ (List.mem_of_getElem? (i := 8) rfl)) (by decide) (by decide)) q178a q178c (g := (mkF m 213 #[.val (.int p0), .val (.int p1), .val (.int p2), .val (.int p3), .val (.int (3 : Int32)), .val (.int (2 : Int32)), .val (.ref a85), .val (.ref a86), .val (.ref a87), .val (.ref a88), .val (.ref b89), .val (.ref a152), .val (.ref a87), .val (.ref a87)] [(.ref a87), (.ref a87)])) rfl (by rw [hml]; rfl) (Steps.refl _) (argsL := [(.ref a87)]) (rest := []) (lenOf pd__Ljava_lang_Object__Z_838 rfl) rfl (by show 2 * 0 + _ ≤ _; exact Nat.le_of_eq rfl) (hb hby at_213) (fun _ _ => ⟨rfl, e174, (by decide : 16 + 0 ≤ _), (by decide : 50 + 0 ≤ _)⟩)
            dsimp only [Pt.U, Pt.locs, Pt.cells, Pt.slots] at X178 l178 y178 z178 st178 hQ178
            subst l178 y178 z178
            obtain ⟨rfl, N178q, e178q⟩ := hQ178
            have N178 := Fr.app N174 N178q
            refine own_tr st178 ?_
            have e178 : T178.heap = T152.heap := e178q
            show own_Comes p e below s _ _ _ (T178.setTop (mkF m 216 #[.val (.int p0), .val (.int p1), .val (.int p2), .val (.int p3), .val (.int (3 : Int32)), .val (.int (2 : Int32)), .val (.ref a85), .val (.ref a86), .val (.ref a87), .val (.ref a88), .val (.ref b89), .val (.ref a152), .val (.ref a87), .val (.ref a87)] [(.int (1 : Int32))]))
            have hb179 : ¬ ((1 : Int32) = (0 : Int32)) := by decide
            refine own_by (fun _ kS => XS.ifNo X178.here hx rfl (hb hby at_216) rfl ((if0 _ _).trans (feq hb179).1) kS) ?_
            show own_Comes p e below s _ _ _ (T178.setTop (mkF m 219 #[.val (.int p0), .val (.int p1), .val (.int p2), .val (.int p3), .val (.int (3 : Int32)), .val (.int (2 : Int32)), .val (.ref a85), .val (.ref a86), .val (.ref a87), .val (.ref a88), .val (.ref b89), .val (.ref a152), .val (.ref a87), .val (.ref a87)] []))
            refine own_by (fun _ kS => XS.aload X178.here hx rfl (hb hby at_219) rfl rfl kS) ?_
            show own_Comes p e below s _ _ _ (T178.setTop (mkF m 221 #[.val (.int p0), .val (.int p1), .val (.int p2), .val (.int p3), .val (.int (3 : Int32)), .val (.int (2 : Int32)), .val (.ref a85), .val (.ref a86), .val (.ref a87), .val (.ref a88), .val (.ref b89), .val (.ref a152), .val (.ref a87), .val (.ref a87)] [(.ref b89)]))
            obtain ⟨cq180, kq180, q180a, q180b, q180c⟩ := isOf hZ e178 (hM97.ext E152).1
            obtain ⟨_, _, ⟨T180, L180, k180, n180⟩, -, X180, ⟨Lc180, hQ180, l180, y180, z180⟩, st180⟩ := X178.interfaceBack hx (xi := (⟨"java/util/List", "size", "()I"⟩ : MethodName)) (y := (⟨"java/util/ArrayList", "size", "()I"⟩ : MethodName)) hown (mvT hZ (hw _ (List.mem_of_getElem? (i := 147) rfl))) (mvT hZ (hw _ (List.mem_of_getElem? (i := 113) rfl))) (mvT hZ (hw _ (List.mem_of_getElem? (i := 114) rfl))) (mvT hZ (hw _ (List.mem_of_getElem? (i := 115) rfl))) (mvT hZ (hw _ (List.mem_of_getElem? (i := 116) rfl))) (mvT hZ (hw _ (List.mem_of_getElem? (i := 117) rfl))) (mvT hZ (hw _ (List.mem_of_getElem? (i := 118) rfl))) (mvT hZ (hw _ (List.mem_of_getElem? (i := 66) rfl))) (by decide) (backOf (W := 0) (rm21 l Z a0 hw [] b89 (3 : Int32) T152.heap n0 (Nat.le_trans (Nat.le_trans (Nat.le_trans (Nat.le_trans (Nat.le_trans (Nat.le_trans (Nat.le_trans (Nat.le_trans (Nat.le_trans (Nat.le_trans Z0 E85.1) E86.1) E87.1) E88.1) E89.1) K91.1) K93.1) K95.1) K97.1) E152.1) (hM97.ext E152).2.2.2.1) hZ (hw _ (List.mem_of_getElem? (i := 119) rfl)) (hw _ (List.mem_of_getElem? (i := 37) rfl)) (by decide) (by decide)) q180a q180b q180c (g := (mkF m 221 #[.val (.int p0), .val (.int p1), .val (.int p2), .val (.int p3), .val (.int (3 : Int32)), .val (.int (2 : Int32)), .val (.ref a85), .val (.ref a86), .val (.ref a87), .val (.ref a88), .val (.ref b89), .val (.ref a152), .val (.ref a87), .val (.ref a87)] [(.ref b89)])) rfl (by rw [hml]; rfl) (Steps.refl _) (argsL := []) (rest := []) (lenOf pd___I_154 rfl) rfl (by show 2 * 0 + _ ≤ _; exact Nat.le_of_eq rfl) (hb hby at_221) (fun _ _ => ⟨rfl, e178, (by decide : 16 + 0 ≤ _), (by decide : 50 + 0 ≤ _)⟩)
            dsimp only [Pt.U, Pt.locs, Pt.cells, Pt.slots] at X180 l180 y180 z180 st180 hQ180
            subst l180 y180 z180
            obtain ⟨rfl, N180q, e180q⟩ := hQ180
            have N180 := Fr.app N178 N180q
            refine own_tr st180 ?_
            have e180 : T180.heap = T152.heap := e180q
            show own_Comes p e below s _ _ _ (T180.setTop (mkF m 226 #[.val (.int p0), .val (.int p1), .val (.int p2), .val (.int p3), .val (.int (3 : Int32)), .val (.int (2 : Int32)), .val (.ref a85), .val (.ref a86), .val (.ref a87), .val (.ref a88), .val (.ref b89), .val (.ref a152), .val (.ref a87), .val (.ref a87)] [(.int (3 : Int32))]))
            refine own_by (fun _ kS => XS.iload X180.here hx rfl (hb hby at_226) rfl kS) ?_
            show own_Comes p e below s _ _ _ (T180.setTop (mkF m 228 #[.val (.int p0), .val (.int p1), .val (.int p2), .val (.int p3), .val (.int (3 : Int32)), .val (.int (2 : Int32)), .val (.ref a85), .val (.ref a86), .val (.ref a87), .val (.ref a88), .val (.ref b89), .val (.ref a152), .val (.ref a87), .val (.ref a87)] [(.int (3 : Int32)), (.int (3 : Int32))]))
            have hb181 : (3 : Int32) = (3 : Int32) := by decide
            refine own_by (fun _ kS => XS.icmpNo X180.here hx rfl (hb hby at_228) rfl (teq hb181).2 kS) ?_
            show own_Comes p e below s _ _ _ (T180.setTop (mkF m 231 #[.val (.int p0), .val (.int p1), .val (.int p2), .val (.int p3), .val (.int (3 : Int32)), .val (.int (2 : Int32)), .val (.ref a85), .val (.ref a86), .val (.ref a87), .val (.ref a88), .val (.ref b89), .val (.ref a152), .val (.ref a87), .val (.ref a87)] []))
            refine own_by (fun _ kS => XS.aload X180.here hx rfl (hb hby at_231) rfl rfl kS) ?_
            show own_Comes p e below s _ _ _ (T180.setTop (mkF m 233 #[.val (.int p0), .val (.int p1), .val (.int p2), .val (.int p3), .val (.int (3 : Int32)), .val (.int (2 : Int32)), .val (.ref a85), .val (.ref a86), .val (.ref a87), .val (.ref a88), .val (.ref b89), .val (.ref a152), .val (.ref a87), .val (.ref a87)] [(.ref b89)]))
            refine own_by (fun _ kS => XS.iconst X180.here hx rfl (hb hby at_233) kS) ?_
            show own_Comes p e below s _ _ _ (T180.setTop (mkF m 234 #[.val (.int p0), .val (.int p1), .val (.int p2), .val (.int p3), .val (.int (3 : Int32)), .val (.int (2 : Int32)), .val (.ref a85), .val (.ref a86), .val (.ref a87), .val (.ref a88), .val (.ref b89), .val (.ref a152), .val (.ref a87), .val (.ref a87)] [(.int (0 : Int32)), (.ref b89)]))
            obtain ⟨cq182, kq182, q182a, q182b, q182c⟩ := isOf hZ e180 (hM97.ext E152).1
            obtain ⟨_, _, ⟨T182, L182, k182, n182⟩, -, X182, ⟨Lc182, hQ182, l182, y182, z182⟩, st182⟩ := X180.interfaceBack hx (xi := (⟨"java/util/List", "get", "(I)Ljava/lang/Object;"⟩ : MethodName)) (y := (⟨"java/util/ArrayList", "get", "(I)Ljava/lang/Object;"⟩ : MethodName)) hown (mvT hZ (hw _ (List.mem_of_getElem? (i := 148) rfl))) (mvT hZ (hw _ (List.mem_of_getElem? (i := 121) rfl))) (mvT hZ (hw _ (List.mem_of_getElem? (i := 122) rfl))) (mvT hZ (hw _ (List.mem_of_getElem? (i := 123) rfl))) (mvT hZ (hw _ (List.mem_of_getElem? (i := 124) rfl))) (mvT hZ (hw _ (List.mem_of_getElem? (i := 125) rfl))) (mvT hZ (hw _ (List.mem_of_getElem? (i := 126) rfl))) (mvT hZ (hw _ (List.mem_of_getElem? (i := 66) rfl))) (by decide) (backOf (W := 0) (rm22 l Z a0 hw [] b89 (0 : Int32) a93 k93 (3 : Int32) [(.ref a85), (.ref a86), (.ref a87), .null, .null, .null, .null, .null, .null, .null] a85 T152.heap n0 (Nat.le_trans (Nat.le_trans (Nat.le_trans (Nat.le_trans (Nat.le_trans (Nat.le_trans (Nat.le_trans (Nat.le_trans (Nat.le_trans (Nat.le_trans Z0 E85.1) E86.1) E87.1) E88.1) E89.1) K91.1) K93.1) K95.1) K97.1) E152.1) (hM97.ext E152) (by decide) (by decide) (by decide) rfl) hZ (hw _ (List.mem_of_getElem? (i := 127) rfl)) (hw _ (List.mem_of_getElem? (i := 37) rfl)) (by decide) (by decide)) q182a q182b q182c (g := (mkF m 234 #[.val (.int p0), .val (.int p1), .val (.int p2), .val (.int p3), .val (.int (3 : Int32)), .val (.int (2 : Int32)), .val (.ref a85), .val (.ref a86), .val (.ref a87), .val (.ref a88), .val (.ref b89), .val (.ref a152), .val (.ref a87), .val (.ref a87)] [(.int (0 : Int32)), (.ref b89)])) rfl (by rw [hml]; rfl) (Steps.refl _) (argsL := [(.int (0 : Int32))]) (rest := []) (lenOf pd__I_Ljava_lang_Object__821 rfl) rfl (by show 2 * 0 + _ ≤ _; exact Nat.le_of_eq rfl) (hb hby at_234) (fun _ _ => ⟨rfl, e180, (by decide : 16 + 0 ≤ _), (by decide : 50 + 0 ≤ _)⟩)
            dsimp only [Pt.U, Pt.locs, Pt.cells, Pt.slots] at X182 l182 y182 z182 st182 hQ182
            subst l182 y182 z182
            obtain ⟨rfl, N182q, e182q⟩ := hQ182
            have N182 := Fr.app N180 N182q
            refine own_tr st182 ?_
            have e182 : T182.heap = T152.heap := e182q
            show own_Comes p e below s _ _ _ (T182.setTop (mkF m 239 #[.val (.int p0), .val (.int p1), .val (.int p2), .val (.int p3), .val (.int (3 : Int32)), .val (.int (2 : Int32)), .val (.ref a85), .val (.ref a86), .val (.ref a87), .val (.ref a88), .val (.ref b89), .val (.ref a152), .val (.ref a87), .val (.ref a87)] [(.ref a85)]))
            obtain ⟨T183, X183, e183, st183⟩ := castY X182 hx hZ hown (hw _ (List.mem_of_getElem? (i := 6) rfl)) e182 (Ins.self ((((c92.keep K93).keep K95).keep K97).ext E152)) (g := (mkF m 239 #[.val (.int p0), .val (.int p1), .val (.int p2), .val (.int p3), .val (.int (3 : Int32)), .val (.int (2 : Int32)), .val (.ref a85), .val (.ref a86), .val (.ref a87), .val (.ref a88), .val (.ref b89), .val (.ref a152), .val (.ref a87), .val (.ref a87)] [(.ref a85)])) rfl rfl (hb hby at_239)
            refine own_by st183 ?_
            show own_Comes p e below s _ _ _ (T183.setTop (mkF m 242 #[.val (.int p0), .val (.int p1), .val (.int p2), .val (.int p3), .val (.int (3 : Int32)), .val (.int (2 : Int32)), .val (.ref a85), .val (.ref a86), .val (.ref a87), .val (.ref a88), .val (.ref b89), .val (.ref a152), .val (.ref a87), .val (.ref a87)] [(.ref a85)]))
            refine own_by (fun _ kS => XS.aload X183.here hx rfl (hb hby at_242) rfl rfl kS) ?_
            show own_Comes p e below s _ _ _ (T183.setTop (mkF m 244 #[.val (.int p0), .val (.int p1), .val (.int p2), .val (.int p3), .val (.int (3 : Int32)), .val (.int (2 : Int32)), .val (.ref a85), .val (.ref a86), .val (.ref a87), .val (.ref a88), .val (.ref b89), .val (.ref a152), .val (.ref a87), .val (.ref a87)] [(.ref a85), (.ref a85)]))
            obtain ⟨cq184, kq184, q184a, q184b, q184c⟩ := isOf hZ e183 ((((c92.keep K93).keep K95).keep K97).ext E152)
            obtain ⟨_, _, ⟨T184, L184, k184, n184⟩, -, X184, ⟨Lc184, hQ184, l184, y184, z184⟩, st184⟩ := X183.virtualBack hx (y := (⟨"java/lang/String", "equals", "(Ljava/lang/Object;)Z"⟩ : MethodName)) (z := (⟨"java/lang/String", "equals", "(Ljava/lang/Object;)Z"⟩ : MethodName)) hown (mvT hZ (hw _ (List.mem_of_getElem? (i := 142) rfl))) (mvT hZ (hw _ (List.mem_of_getElem? (i := 143) rfl))) (notFace_of_selects (args := #[]) (mvT hZ (hw _ (List.mem_of_getElem? (i := 145) rfl)))) (mvT hZ (hw _ (List.mem_of_getElem? (i := 145) rfl))) (mvT hZ (hw _ (List.mem_of_getElem? (i := 144) rfl))) (by decide) (backOf (W := 0) (rm26 l Z a0 hw [] a85 T152.heap n0 (Nat.le_trans (Nat.le_trans (Nat.le_trans (Nat.le_trans (Nat.le_trans (Nat.le_trans (Nat.le_trans (Nat.le_trans (Nat.le_trans (Nat.le_trans Z0 E85.1) E86.1) E87.1) E88.1) E89.1) K91.1) K93.1) K95.1) K97.1) E152.1)) hZ (hw _ (List.mem_of_getElem? (i := 146) rfl)) (hw _ (List.mem_of_getElem? (i := 8) rfl)) (by decide) (by decide)) q184a q184c (g := (mkF m 244 #[.val (.int p0), .val (.int p1), .val (.int p2), .val (.int p3), .val (.int (3 : Int32)), .val (.int (2 : Int32)), .val (.ref a85), .val (.ref a86), .val (.ref a87), .val (.ref a88), .val (.ref b89), .val (.ref a152), .val (.ref a87), .val (.ref a87)] [(.ref a85), (.ref a85)])) rfl (by rw [hml]; rfl) (Steps.refl _) (argsL := [(.ref a85)]) (rest := []) (lenOf pd__Ljava_lang_Object__Z_838 rfl) rfl (by show 2 * 0 + _ ≤ _; exact Nat.le_of_eq rfl) (hb hby at_244) (fun _ _ => ⟨rfl, e183, (by decide : 16 + 0 ≤ _), (by decide : 50 + 0 ≤ _)⟩)
            dsimp only [Pt.U, Pt.locs, Pt.cells, Pt.slots] at X184 l184 y184 z184 st184 hQ184
            subst l184 y184 z184
            obtain ⟨rfl, N184q, e184q⟩ := hQ184
            have N184 := Fr.app N182 N184q
            refine own_tr st184 ?_
            have e184 : T184.heap = T152.heap := e184q
            show own_Comes p e below s _ _ _ (T184.setTop (mkF m 247 #[.val (.int p0), .val (.int p1), .val (.int p2), .val (.int p3), .val (.int (3 : Int32)), .val (.int (2 : Int32)), .val (.ref a85), .val (.ref a86), .val (.ref a87), .val (.ref a88), .val (.ref b89), .val (.ref a152), .val (.ref a87), .val (.ref a87)] [(.int (1 : Int32))]))
            have hb185 : ¬ ((1 : Int32) = (0 : Int32)) := by decide
            refine own_by (fun _ kS => XS.ifNo X184.here hx rfl (hb hby at_247) rfl ((if0 _ _).trans (feq hb185).1) kS) ?_
            show own_Comes p e below s _ _ _ (T184.setTop (mkF m 250 #[.val (.int p0), .val (.int p1), .val (.int p2), .val (.int p3), .val (.int (3 : Int32)), .val (.int (2 : Int32)), .val (.ref a85), .val (.ref a86), .val (.ref a87), .val (.ref a88), .val (.ref b89), .val (.ref a152), .val (.ref a87), .val (.ref a87)] []))
            refine own_by (fun _ kS => XS.iconst X184.here hx rfl (hb hby at_250) kS) ?_
            show own_Comes p e below s _ _ _ (T184.setTop (mkF m 251 #[.val (.int p0), .val (.int p1), .val (.int p2), .val (.int p3), .val (.int (3 : Int32)), .val (.int (2 : Int32)), .val (.ref a85), .val (.ref a86), .val (.ref a87), .val (.ref a88), .val (.ref b89), .val (.ref a152), .val (.ref a87), .val (.ref a87)] [(.int (1 : Int32))]))
            refine own_by (fun _ kS => XS.goto X184.here hx rfl (pc0 := 251) (pc' := 255) rfl (hb hby at_251) (by decide) (by decide) kS) ?_
            show own_Comes p e below s _ _ _ (T184.setTop (mkF m 255 #[.val (.int p0), .val (.int p1), .val (.int p2), .val (.int p3), .val (.int (3 : Int32)), .val (.int (2 : Int32)), .val (.ref a85), .val (.ref a86), .val (.ref a87), .val (.ref a88), .val (.ref b89), .val (.ref a152), .val (.ref a87), .val (.ref a87)] [(.int (1 : Int32))]))
            refine own_ret X184 (v := some (.int (1 : Int32))) (fun h => by rw [Bd.returns] at h; cases h) Bd.notSynchronized (by decide) (by decide) ?_ (fun fs hr => retN X184 hx (t := .boolean) Bd.returns (by simp) (hb hby at_255) hr)
            rw [e184]; exact ⟨rfl, N184⟩
    · refine own_by (fun _ kS => XS.icmpYes X95.here hx rfl (pc0 := 111) (pc' := 124) rfl (hb hby at_111) rfl (flt hk2).2.2.2 (by decide) (by decide) kS) ?_
      show own_Comes p e below s _ _ _ (T95.setTop (mkF m 124 #[.val (.int p0), .val (.int p1), .val (.int p2), .val (.int p3), .val (.int K), .val (.int I), .val (.ref a85), .val (.ref a86), .val (.ref a87), .val (.ref a88), .val (.ref b89), .unset, .unset, .unset] []))
      have hKe : K.toInt = 2 := by
        rw [Int32.lt_iff_toInt_lt] at hk1 hk2; omega
      have hKl : K = (2 : Int32) := own_ki hKe (by decide)
      rw [show K = (2 : Int32) from hKl]
      show own_Comes p e below s _ _ _ (T95.setTop (mkF m 124 #[.val (.int p0), .val (.int p1), .val (.int p2), .val (.int p3), .val (.int (2 : Int32)), .val (.int I), .val (.ref a85), .val (.ref a86), .val (.ref a87), .val (.ref a88), .val (.ref b89), .unset, .unset, .unset] []))
      refine own_by (fun _ kS => XS.iload X95.here hx rfl (hb hby at_124) rfl kS) ?_
      show own_Comes p e below s _ _ _ (T95.setTop (mkF m 126 #[.val (.int p0), .val (.int p1), .val (.int p2), .val (.int p3), .val (.int (2 : Int32)), .val (.int I), .val (.ref a85), .val (.ref a86), .val (.ref a87), .val (.ref a88), .val (.ref b89), .unset, .unset, .unset] [(.int (2 : Int32))]))
      refine own_by (fun _ kS => XS.iconst X95.here hx rfl (hb hby at_126) kS) ?_
      show own_Comes p e below s _ _ _ (T95.setTop (mkF m 127 #[.val (.int p0), .val (.int p1), .val (.int p2), .val (.int p3), .val (.int (2 : Int32)), .val (.int I), .val (.ref a85), .val (.ref a86), .val (.ref a87), .val (.ref a88), .val (.ref b89), .unset, .unset, .unset] [(.int (3 : Int32)), (.int (2 : Int32))]))
      have hb186 : ¬ ((3 : Int32) < (2 : Int32)) := by decide
      refine own_by (fun _ kS => XS.icmpYes X95.here hx rfl (pc0 := 127) (pc' := 140) rfl (hb hby at_127) rfl (flt hb186).2.2.2 (by decide) (by decide) kS) ?_
      show own_Comes p e below s _ _ _ (T95.setTop (mkF m 140 #[.val (.int p0), .val (.int p1), .val (.int p2), .val (.int p3), .val (.int (2 : Int32)), .val (.int I), .val (.ref a85), .val (.ref a86), .val (.ref a87), .val (.ref a88), .val (.ref b89), .unset, .unset, .unset] []))
      refine own_by (fun _ kS => XS.iloadN X95.here hx rfl (hb hby at_140) rfl kS) ?_
      show own_Comes p e below s _ _ _ (T95.setTop (mkF m 141 #[.val (.int p0), .val (.int p1), .val (.int p2), .val (.int p3), .val (.int (2 : Int32)), .val (.int I), .val (.ref a85), .val (.ref a86), .val (.ref a87), .val (.ref a88), .val (.ref b89), .unset, .unset, .unset] [(.int p3)]))
      refine own_by (fun _ kS => XS.sipush X95.here hx rfl (hb hby at_141) kS) ?_
      show own_Comes p e below s _ _ _ (T95.setTop (mkF m 144 #[.val (.int p0), .val (.int p1), .val (.int p2), .val (.int p3), .val (.int (2 : Int32)), .val (.int I), .val (.ref a85), .val (.ref a86), .val (.ref a87), .val (.ref a88), .val (.ref b89), .unset, .unset, .unset] [(.int (255 : Int32)), (.int p3)]))
      refine own_by (fun _ kS => XS.iand X95.here hx rfl (hb hby at_144) rfl kS) ?_
      show own_Comes p e below s _ _ _ (T95.setTop (mkF m 145 #[.val (.int p0), .val (.int p1), .val (.int p2), .val (.int p3), .val (.int (2 : Int32)), .val (.int I), .val (.ref a85), .val (.ref a86), .val (.ref a87), .val (.ref a88), .val (.ref b89), .unset, .unset, .unset] [(.int (p3 &&& (255 : Int32)))]))
      refine own_by (fun _ kS => XS.i2c X95.here hx rfl (hb hby at_145) rfl kS) ?_
      show own_Comes p e below s _ _ _ (T95.setTop (mkF m 146 #[.val (.int p0), .val (.int p1), .val (.int p2), .val (.int p3), .val (.int (2 : Int32)), .val (.int I), .val (.ref a85), .val (.ref a86), .val (.ref a87), .val (.ref a88), .val (.ref b89), .unset, .unset, .unset] [(.int ((p3 &&& (255 : Int32)).toUInt32.toUInt16.toUInt32.toInt32))]))
      have c187 := (((c90.keep K91 (allS g_b89 all0)).keep K93 (allS g_b89 all0)).keep K95 (allS g_b89 (allS g_a93 all0)))
      obtain ⟨_, _, ⟨T188, L188, k188, n188⟩, -, X188, ⟨Lc188, hQ188, l188, y188, z188⟩, st188⟩ := Jvm.LawKit.callS X95 hx (y := (⟨"java/lang/String", "valueOf", "(C)Ljava/lang/String;"⟩ : MethodName)) hown (mvT hZ (hw _ (List.mem_of_getElem? (i := 94) rfl))) (mvT hZ (hw _ (List.mem_of_getElem? (i := 95) rfl))) (mvT hZ (hw _ (List.mem_of_getElem? (i := 8) rfl))) (mvT hZ (hw _ (List.mem_of_getElem? (i := 96) rfl))) (by decide) (backOf (W := 0) (rm16 l Z a0 hw [] ((p3 &&& (255 : Int32)).toUInt32.toUInt16.toUInt32.toInt32) zc T95.heap n0 (Nat.le_trans (Nat.le_trans (Nat.le_trans (Nat.le_trans (Nat.le_trans (Nat.le_trans (Nat.le_trans (Nat.le_trans Z0 E85.1) E86.1) E87.1) E88.1) E89.1) K91.1) K93.1) K95.1) (own_and255 p3).2 c187 Sz hzc) hZ (hw _ (List.mem_of_getElem? (i := 96) rfl)) (hw _ (List.mem_of_getElem? (i := 8) rfl)) (by decide) (by decide)) (g := (mkF m 146 #[.val (.int p0), .val (.int p1), .val (.int p2), .val (.int p3), .val (.int (2 : Int32)), .val (.int I), .val (.ref a85), .val (.ref a86), .val (.ref a87), .val (.ref a88), .val (.ref b89), .unset, .unset, .unset] [(.int ((p3 &&& (255 : Int32)).toUInt32.toUInt16.toUInt32.toInt32))])) rfl (by rw [hml]; rfl) (argsL := [(.int ((p3 &&& (255 : Int32)).toUInt32.toUInt16.toUInt32.toInt32))]) (rest := []) (lenOf pd__C_Ljava_lang_String__847 rfl) rfl (by show 2 * 0 + _ ≤ _; exact Nat.le_of_eq rfl) (hb hby at_146) (fun _ _ => ⟨rfl, rfl, (by decide : 14 + 2 ≤ _), (by decide : 45 + 5 ≤ _)⟩)
      dsimp only [Pt.U, Pt.locs, Pt.cells, Pt.slots] at X188 l188 y188 z188 st188 hQ188
      subst l188 y188 z188
      obtain ⟨a188, rfl, N188q, E188, Eb188⟩ := hQ188
      have N188 := Fr.app N95 N188q
      refine own_by st188 ?_
      show own_Comes p e below s _ _ _ (T188.setTop (mkF m 149 #[.val (.int p0), .val (.int p1), .val (.int p2), .val (.int p3), .val (.int (2 : Int32)), .val (.int I), .val (.ref a85), .val (.ref a86), .val (.ref a87), .val (.ref a88), .val (.ref b89), .unset, .unset, .unset] [(.ref a188)]))
      refine own_by (fun _ kS => XS.astore X188.here hx rfl (hb hby at_149) rfl rfl (l' := #[.val (.int p0), .val (.int p1), .val (.int p2), .val (.int p3), .val (.int (2 : Int32)), .val (.int I), .val (.ref a85), .val (.ref a86), .val (.ref a87), .val (.ref a88), .val (.ref b89), .val (.ref a188), .unset, .unset]) rfl kS) ?_
      show own_Comes p e below s _ _ _ (T188.setTop (mkF m 151 #[.val (.int p0), .val (.int p1), .val (.int p2), .val (.int p3), .val (.int (2 : Int32)), .val (.int I), .val (.ref a85), .val (.ref a86), .val (.ref a87), .val (.ref a88), .val (.ref b89), .val (.ref a188), .unset, .unset] []))
      refine own_by (fun _ kS => XS.aload X188.here hx rfl (hb hby at_151) rfl rfl kS) ?_
      show own_Comes p e below s _ _ _ (T188.setTop (mkF m 153 #[.val (.int p0), .val (.int p1), .val (.int p2), .val (.int p3), .val (.int (2 : Int32)), .val (.int I), .val (.ref a85), .val (.ref a86), .val (.ref a87), .val (.ref a88), .val (.ref b89), .val (.ref a188), .unset, .unset] [(.ref b89)]))
      by_cases hi2_0 : I.toInt = 0
      · rw [show I = (0 : Int32) from own_ki (n := 0) (by omega) (by decide)]
        show own_Comes p e below s _ _ _ (T188.setTop (mkF m 153 #[.val (.int p0), .val (.int p1), .val (.int p2), .val (.int p3), .val (.int (2 : Int32)), .val (.int (0 : Int32)), .val (.ref a85), .val (.ref a86), .val (.ref a87), .val (.ref a88), .val (.ref b89), .val (.ref a188), .unset, .unset] [(.ref b89)]))
        refine own_by (fun _ kS => XS.iload X188.here hx rfl (hb hby at_153) rfl kS) ?_
        show own_Comes p e below s _ _ _ (T188.setTop (mkF m 155 #[.val (.int p0), .val (.int p1), .val (.int p2), .val (.int p3), .val (.int (2 : Int32)), .val (.int (0 : Int32)), .val (.ref a85), .val (.ref a86), .val (.ref a87), .val (.ref a88), .val (.ref b89), .val (.ref a188), .unset, .unset] [(.int (0 : Int32)), (.ref b89)]))
        refine own_by (fun _ kS => XS.aload X188.here hx rfl (hb hby at_155) rfl rfl kS) ?_
        show own_Comes p e below s _ _ _ (T188.setTop (mkF m 157 #[.val (.int p0), .val (.int p1), .val (.int p2), .val (.int p3), .val (.int (2 : Int32)), .val (.int (0 : Int32)), .val (.ref a85), .val (.ref a86), .val (.ref a87), .val (.ref a88), .val (.ref b89), .val (.ref a188), .unset, .unset] [(.ref a188), (.int (0 : Int32)), (.ref b89)]))
        obtain ⟨_, _, ⟨T189, L189, k189, n189⟩, -, X189, ⟨Lc189, hQ189, l189, y189, z189⟩, st189⟩ := Jvm.LawKit.callS X188 hx (y := (⟨"com/example/callyard/callyard/cli/CommandLine", "operand", "(Ljava/util/List;ILjava/lang/String;)Ljava/lang/String;"⟩ : MethodName)) hown (mvT hZ (hw _ (List.mem_of_getElem? (i := 108) rfl))) (mvT hZ (hw _ (List.mem_of_getElem? (i := 109) rfl))) (mvT hZ (hw _ (List.mem_of_getElem? (i := 110) rfl))) (mvT hZ (hw _ (List.mem_of_getElem? (i := 111) rfl))) (by decide) (backOf (W := 0) (rm20 l Z a0 hw [] b89 (0 : Int32) a188 a93 k93 (2 : Int32) [(.ref a85), (.ref a86), .null, .null, .null, .null, .null, .null, .null, .null] a85 T188.heap n0 (Nat.le_trans (Nat.le_trans (Nat.le_trans (Nat.le_trans (Nat.le_trans (Nat.le_trans (Nat.le_trans (Nat.le_trans (Nat.le_trans Z0 E85.1) E86.1) E87.1) E88.1) E89.1) K91.1) K93.1) K95.1) E188.1) (hM95.ext E188) (by decide) (by decide) (by decide) rfl (((c92.keep K93).keep K95).ext E188)) hZ (hw _ (List.mem_of_getElem? (i := 111) rfl)) (hw _ (List.mem_of_getElem? (i := 110) rfl)) (by decide) (by decide)) (g := (mkF m 157 #[.val (.int p0), .val (.int p1), .val (.int p2), .val (.int p3), .val (.int (2 : Int32)), .val (.int (0 : Int32)), .val (.ref a85), .val (.ref a86), .val (.ref a87), .val (.ref a88), .val (.ref b89), .val (.ref a188), .unset, .unset] [(.ref a188), (.int (0 : Int32)), (.ref b89)])) rfl (by rw [hml]; rfl) (argsL := [(.ref b89), (.int (0 : Int32)), (.ref a188)]) (rest := []) (lenOf pd__Ljava_util_List_ILjava_lang_String__Ljava_lang_String__66 rfl) rfl (by show 2 * 0 + _ ≤ _; exact Nat.le_of_eq rfl) (hb hby at_157) (fun _ _ => ⟨rfl, rfl, (by decide : 16 + 0 ≤ _), (by decide : 50 + 0 ≤ _)⟩)
        dsimp only [Pt.U, Pt.locs, Pt.cells, Pt.slots] at X189 l189 y189 z189 st189 hQ189
        subst l189 y189 z189
        obtain ⟨rfl, N189q, e189q⟩ := hQ189
        have N189 := Fr.app N188 N189q
        refine own_by st189 ?_
        have e189 : T189.heap = T188.heap := e189q
        show own_Comes p e below s _ _ _ (T189.setTop (mkF m 160 #[.val (.int p0), .val (.int p1), .val (.int p2), .val (.int p3), .val (.int (2 : Int32)), .val (.int (0 : Int32)), .val (.ref a85), .val (.ref a86), .val (.ref a87), .val (.ref a88), .val (.ref b89), .val (.ref a188), .unset, .unset] [(.ref a85)]))
        refine own_by (fun _ kS => XS.astore X189.here hx rfl (hb hby at_160) rfl rfl (l' := #[.val (.int p0), .val (.int p1), .val (.int p2), .val (.int p3), .val (.int (2 : Int32)), .val (.int (0 : Int32)), .val (.ref a85), .val (.ref a86), .val (.ref a87), .val (.ref a88), .val (.ref b89), .val (.ref a188), .val (.ref a85), .unset]) rfl kS) ?_
        show own_Comes p e below s _ _ _ (T189.setTop (mkF m 162 #[.val (.int p0), .val (.int p1), .val (.int p2), .val (.int p3), .val (.int (2 : Int32)), .val (.int (0 : Int32)), .val (.ref a85), .val (.ref a86), .val (.ref a87), .val (.ref a88), .val (.ref b89), .val (.ref a188), .val (.ref a85), .unset] []))
        refine own_by (fun _ kS => XS.iload X189.here hx rfl (hb hby at_162) rfl kS) ?_
        show own_Comes p e below s _ _ _ (T189.setTop (mkF m 164 #[.val (.int p0), .val (.int p1), .val (.int p2), .val (.int p3), .val (.int (2 : Int32)), .val (.int (0 : Int32)), .val (.ref a85), .val (.ref a86), .val (.ref a87), .val (.ref a88), .val (.ref b89), .val (.ref a188), .val (.ref a85), .unset] [(.int (0 : Int32))]))
        have hb190 : (0 : Int32) = (0 : Int32) := by decide
        refine own_by (fun _ kS => XS.ifNo X189.here hx rfl (hb hby at_164) rfl ((if0 _ _).trans (teq hb190).2) kS) ?_
        show own_Comes p e below s _ _ _ (T189.setTop (mkF m 167 #[.val (.int p0), .val (.int p1), .val (.int p2), .val (.int p3), .val (.int (2 : Int32)), .val (.int (0 : Int32)), .val (.ref a85), .val (.ref a86), .val (.ref a87), .val (.ref a88), .val (.ref b89), .val (.ref a188), .val (.ref a85), .unset] []))
        refine own_by (fun _ kS => XS.aload X189.here hx rfl (hb hby at_167) rfl rfl kS) ?_
        show own_Comes p e below s _ _ _ (T189.setTop (mkF m 169 #[.val (.int p0), .val (.int p1), .val (.int p2), .val (.int p3), .val (.int (2 : Int32)), .val (.int (0 : Int32)), .val (.ref a85), .val (.ref a86), .val (.ref a87), .val (.ref a88), .val (.ref b89), .val (.ref a188), .val (.ref a85), .unset] [(.ref a85)]))
        refine own_by (fun _ kS => XS.astore X189.here hx rfl (hb hby at_169) rfl rfl (l' := #[.val (.int p0), .val (.int p1), .val (.int p2), .val (.int p3), .val (.int (2 : Int32)), .val (.int (0 : Int32)), .val (.ref a85), .val (.ref a86), .val (.ref a87), .val (.ref a88), .val (.ref b89), .val (.ref a188), .val (.ref a85), .val (.ref a85)]) rfl kS) ?_
        show own_Comes p e below s _ _ _ (T189.setTop (mkF m 171 #[.val (.int p0), .val (.int p1), .val (.int p2), .val (.int p3), .val (.int (2 : Int32)), .val (.int (0 : Int32)), .val (.ref a85), .val (.ref a86), .val (.ref a87), .val (.ref a88), .val (.ref b89), .val (.ref a188), .val (.ref a85), .val (.ref a85)] []))
        refine own_by (fun _ kS => XS.goto X189.here hx rfl (pc0 := 171) (pc' := 204) rfl (hb hby at_171) (by decide) (by decide) kS) ?_
        show own_Comes p e below s _ _ _ (T189.setTop (mkF m 204 #[.val (.int p0), .val (.int p1), .val (.int p2), .val (.int p3), .val (.int (2 : Int32)), .val (.int (0 : Int32)), .val (.ref a85), .val (.ref a86), .val (.ref a87), .val (.ref a88), .val (.ref b89), .val (.ref a188), .val (.ref a85), .val (.ref a85)] []))
        refine own_by (fun _ kS => XS.aload X189.here hx rfl (hb hby at_204) rfl rfl kS) ?_
        show own_Comes p e below s _ _ _ (T189.setTop (mkF m 206 #[.val (.int p0), .val (.int p1), .val (.int p2), .val (.int p3), .val (.int (2 : Int32)), .val (.int (0 : Int32)), .val (.ref a85), .val (.ref a86), .val (.ref a87), .val (.ref a88), .val (.ref b89), .val (.ref a188), .val (.ref a85), .val (.ref a85)] [(.ref a85)]))
        refine own_by (fun _ kS => XS.ifnullNo X189.here hx rfl (hb hby at_206) rfl kS) ?_
        show own_Comes p e below s _ _ _ (T189.setTop (mkF m 209 #[.val (.int p0), .val (.int p1), .val (.int p2), .val (.int p3), .val (.int (2 : Int32)), .val (.int (0 : Int32)), .val (.ref a85), .val (.ref a86), .val (.ref a87), .val (.ref a88), .val (.ref b89), .val (.ref a188), .val (.ref a85), .val (.ref a85)] []))
        refine own_by (fun _ kS => XS.aload X189.here hx rfl (hb hby at_209) rfl rfl kS) ?_
        show own_Comes p e below s _ _ _ (T189.setTop (mkF m 211 #[.val (.int p0), .val (.int p1), .val (.int p2), .val (.int p3), .val (.int (2 : Int32)), .val (.int (0 : Int32)), .val (.ref a85), .val (.ref a86), .val (.ref a87), .val (.ref a88), .val (.ref b89), .val (.ref a188), .val (.ref a85), .val (.ref a85)] [(.ref a85)]))
        refine own_by (fun _ kS => XS.aload X189.here hx rfl (hb hby at_211) rfl rfl kS) ?_
        show own_Comes p e below s _ _ _ (T189.setTop (mkF m 213 #[.val (.int p0), .val (.int p1), .val (.int p2), .val (.int p3), .val (.int (2 : Int32)), .val (.int (0 : Int32)), .val (.ref a85), .val (.ref a86), .val (.ref a87), .val (.ref a88), .val (.ref b89), .val (.ref a188), .val (.ref a85), .val (.ref a85)] [(.ref a85), (.ref a85)]))
        obtain ⟨cq191, kq191, q191a, q191b, q191c⟩ := isOf hZ e189 (((c92.keep K93).keep K95).ext E188)
        obtain ⟨_, _, ⟨T191, L191, k191, n191⟩, -, X191, ⟨Lc191, hQ191, l191, y191, z191⟩, st191⟩ := X189.virtualBack hx (y := (⟨"java/lang/String", "equals", "(Ljava/lang/Object;)Z"⟩ : MethodName)) (z := (⟨"java/lang/String", "equals", "(Ljava/lang/Object;)Z"⟩ : MethodName)) hown (mvT hZ (hw _ (List.mem_of_getElem? (i := 142) rfl))) (mvT hZ (hw _ (List.mem_of_getElem? (i := 143) rfl))) (notFace_of_selects (args := #[]) (mvT hZ (hw _ (List.mem_of_getElem? (i := 145) rfl)))) (mvT hZ (hw _ (List.mem_of_getElem? (i := 145) rfl))) (mvT hZ (hw _ (List.mem_of_getElem? (i := 144) rfl))) (by decide) (backOf (W := 0) (rm26 l Z a0 hw [] a85 T188.heap n0 (Nat.le_trans (Nat.le_trans (Nat.le_trans (Nat.le_trans (Nat.le_trans (Nat.le_trans (Nat.le_trans (Nat.le_trans (Nat.le_trans Z0 E85.1) E86.1) E87.1) E88.1) E89.1) K91.1) K93.1) K95.1) E188.1)) hZ (hw _ (List.mem_of_getElem? (i := 146) rfl)) (hw _ (List.mem_of_getElem? (i := 8) rfl)) (by decide) (by decide)) q191a q191c (g := (mkF m 213 #[.val (.int p0), .val (.int p1), .val (.int p2), .val (.int p3), .val (.int (2 : Int32)), .val (.int (0 : Int32)), .val (.ref a85), .val (.ref a86), .val (.ref a87), .val (.ref a88), .val (.ref b89), .val (.ref a188), .val (.ref a85), .val (.ref a85)] [(.ref a85), (.ref a85)])) rfl (by rw [hml]; rfl) (Steps.refl _) (argsL := [(.ref a85)]) (rest := []) (lenOf pd__Ljava_lang_Object__Z_838 rfl) rfl (by show 2 * 0 + _ ≤ _; exact Nat.le_of_eq rfl) (hb hby at_213) (fun _ _ => ⟨rfl, e189, (by decide : 16 + 0 ≤ _), (by decide : 50 + 0 ≤ _)⟩)
        dsimp only [Pt.U, Pt.locs, Pt.cells, Pt.slots] at X191 l191 y191 z191 st191 hQ191
        subst l191 y191 z191
        obtain ⟨rfl, N191q, e191q⟩ := hQ191
        have N191 := Fr.app N189 N191q
        refine own_tr st191 ?_
        have e191 : T191.heap = T188.heap := e191q
        show own_Comes p e below s _ _ _ (T191.setTop (mkF m 216 #[.val (.int p0), .val (.int p1), .val (.int p2), .val (.int p3), .val (.int (2 : Int32)), .val (.int (0 : Int32)), .val (.ref a85), .val (.ref a86), .val (.ref a87), .val (.ref a88), .val (.ref b89), .val (.ref a188), .val (.ref a85), .val (.ref a85)] [(.int (1 : Int32))]))
        have hb192 : ¬ ((1 : Int32) = (0 : Int32)) := by decide
        refine own_by (fun _ kS => XS.ifNo X191.here hx rfl (hb hby at_216) rfl ((if0 _ _).trans (feq hb192).1) kS) ?_
        show own_Comes p e below s _ _ _ (T191.setTop (mkF m 219 #[.val (.int p0), .val (.int p1), .val (.int p2), .val (.int p3), .val (.int (2 : Int32)), .val (.int (0 : Int32)), .val (.ref a85), .val (.ref a86), .val (.ref a87), .val (.ref a88), .val (.ref b89), .val (.ref a188), .val (.ref a85), .val (.ref a85)] []))
        refine own_by (fun _ kS => XS.aload X191.here hx rfl (hb hby at_219) rfl rfl kS) ?_
        show own_Comes p e below s _ _ _ (T191.setTop (mkF m 221 #[.val (.int p0), .val (.int p1), .val (.int p2), .val (.int p3), .val (.int (2 : Int32)), .val (.int (0 : Int32)), .val (.ref a85), .val (.ref a86), .val (.ref a87), .val (.ref a88), .val (.ref b89), .val (.ref a188), .val (.ref a85), .val (.ref a85)] [(.ref b89)]))
        obtain ⟨cq193, kq193, q193a, q193b, q193c⟩ := isOf hZ e191 (hM95.ext E188).1
        obtain ⟨_, _, ⟨T193, L193, k193, n193⟩, -, X193, ⟨Lc193, hQ193, l193, y193, z193⟩, st193⟩ := X191.interfaceBack hx (xi := (⟨"java/util/List", "size", "()I"⟩ : MethodName)) (y := (⟨"java/util/ArrayList", "size", "()I"⟩ : MethodName)) hown (mvT hZ (hw _ (List.mem_of_getElem? (i := 147) rfl))) (mvT hZ (hw _ (List.mem_of_getElem? (i := 113) rfl))) (mvT hZ (hw _ (List.mem_of_getElem? (i := 114) rfl))) (mvT hZ (hw _ (List.mem_of_getElem? (i := 115) rfl))) (mvT hZ (hw _ (List.mem_of_getElem? (i := 116) rfl))) (mvT hZ (hw _ (List.mem_of_getElem? (i := 117) rfl))) (mvT hZ (hw _ (List.mem_of_getElem? (i := 118) rfl))) (mvT hZ (hw _ (List.mem_of_getElem? (i := 66) rfl))) (by decide) (backOf (W := 0) (rm21 l Z a0 hw [] b89 (2 : Int32) T188.heap n0 (Nat.le_trans (Nat.le_trans (Nat.le_trans (Nat.le_trans (Nat.le_trans (Nat.le_trans (Nat.le_trans (Nat.le_trans (Nat.le_trans Z0 E85.1) E86.1) E87.1) E88.1) E89.1) K91.1) K93.1) K95.1) E188.1) (hM95.ext E188).2.2.2.1) hZ (hw _ (List.mem_of_getElem? (i := 119) rfl)) (hw _ (List.mem_of_getElem? (i := 37) rfl)) (by decide) (by decide)) q193a q193b q193c (g := (mkF m 221 #[.val (.int p0), .val (.int p1), .val (.int p2), .val (.int p3), .val (.int (2 : Int32)), .val (.int (0 : Int32)), .val (.ref a85), .val (.ref a86), .val (.ref a87), .val (.ref a88), .val (.ref b89), .val (.ref a188), .val (.ref a85), .val (.ref a85)] [(.ref b89)])) rfl (by rw [hml]; rfl) (Steps.refl _) (argsL := []) (rest := []) (lenOf pd___I_154 rfl) rfl (by show 2 * 0 + _ ≤ _; exact Nat.le_of_eq rfl) (hb hby at_221) (fun _ _ => ⟨rfl, e191, (by decide : 16 + 0 ≤ _), (by decide : 50 + 0 ≤ _)⟩)
        dsimp only [Pt.U, Pt.locs, Pt.cells, Pt.slots] at X193 l193 y193 z193 st193 hQ193
        subst l193 y193 z193
        obtain ⟨rfl, N193q, e193q⟩ := hQ193
        have N193 := Fr.app N191 N193q
        refine own_tr st193 ?_
        have e193 : T193.heap = T188.heap := e193q
        show own_Comes p e below s _ _ _ (T193.setTop (mkF m 226 #[.val (.int p0), .val (.int p1), .val (.int p2), .val (.int p3), .val (.int (2 : Int32)), .val (.int (0 : Int32)), .val (.ref a85), .val (.ref a86), .val (.ref a87), .val (.ref a88), .val (.ref b89), .val (.ref a188), .val (.ref a85), .val (.ref a85)] [(.int (2 : Int32))]))
        refine own_by (fun _ kS => XS.iload X193.here hx rfl (hb hby at_226) rfl kS) ?_
        show own_Comes p e below s _ _ _ (T193.setTop (mkF m 228 #[.val (.int p0), .val (.int p1), .val (.int p2), .val (.int p3), .val (.int (2 : Int32)), .val (.int (0 : Int32)), .val (.ref a85), .val (.ref a86), .val (.ref a87), .val (.ref a88), .val (.ref b89), .val (.ref a188), .val (.ref a85), .val (.ref a85)] [(.int (2 : Int32)), (.int (2 : Int32))]))
        have hb194 : (2 : Int32) = (2 : Int32) := by decide
        refine own_by (fun _ kS => XS.icmpNo X193.here hx rfl (hb hby at_228) rfl (teq hb194).2 kS) ?_
        show own_Comes p e below s _ _ _ (T193.setTop (mkF m 231 #[.val (.int p0), .val (.int p1), .val (.int p2), .val (.int p3), .val (.int (2 : Int32)), .val (.int (0 : Int32)), .val (.ref a85), .val (.ref a86), .val (.ref a87), .val (.ref a88), .val (.ref b89), .val (.ref a188), .val (.ref a85), .val (.ref a85)] []))
        refine own_by (fun _ kS => XS.aload X193.here hx rfl (hb hby at_231) rfl rfl kS) ?_
        show own_Comes p e below s _ _ _ (T193.setTop (mkF m 233 #[.val (.int p0), .val (.int p1), .val (.int p2), .val (.int p3), .val (.int (2 : Int32)), .val (.int (0 : Int32)), .val (.ref a85), .val (.ref a86), .val (.ref a87), .val (.ref a88), .val (.ref b89), .val (.ref a188), .val (.ref a85), .val (.ref a85)] [(.ref b89)]))
        refine own_by (fun _ kS => XS.iconst X193.here hx rfl (hb hby at_233) kS) ?_
        show own_Comes p e below s _ _ _ (T193.setTop (mkF m 234 #[.val (.int p0), .val (.int p1), .val (.int p2), .val (.int p3), .val (.int (2 : Int32)), .val (.int (0 : Int32)), .val (.ref a85), .val (.ref a86), .val (.ref a87), .val (.ref a88), .val (.ref b89), .val (.ref a188), .val (.ref a85), .val (.ref a85)] [(.int (0 : Int32)), (.ref b89)]))
        obtain ⟨cq195, kq195, q195a, q195b, q195c⟩ := isOf hZ e193 (hM95.ext E188).1
        obtain ⟨_, _, ⟨T195, L195, k195, n195⟩, -, X195, ⟨Lc195, hQ195, l195, y195, z195⟩, st195⟩ := X193.interfaceBack hx (xi := (⟨"java/util/List", "get", "(I)Ljava/lang/Object;"⟩ : MethodName)) (y := (⟨"java/util/ArrayList", "get", "(I)Ljava/lang/Object;"⟩ : MethodName)) hown (mvT hZ (hw _ (List.mem_of_getElem? (i := 148) rfl))) (mvT hZ (hw _ (List.mem_of_getElem? (i := 121) rfl))) (mvT hZ (hw _ (List.mem_of_getElem? (i := 122) rfl))) (mvT hZ (hw _ (List.mem_of_getElem? (i := 123) rfl))) (mvT hZ (hw _ (List.mem_of_getElem? (i := 124) rfl))) (mvT hZ (hw _ (List.mem_of_getElem? (i := 125) rfl))) (mvT hZ (hw _ (List.mem_of_getElem? (i := 126) rfl))) (mvT hZ (hw _ (List.mem_of_getElem? (i := 66) rfl))) (by decide) (backOf (W := 0) (rm22 l Z a0 hw [] b89 (0 : Int32) a93 k93 (2 : Int32) [(.ref a85), (.ref a86), .null, .null, .null, .null, .null, .null, .null, .null] a85 T188.heap n0 (Nat.le_trans (Nat.le_trans (Nat.le_trans (Nat.le_trans (Nat.le_trans (Nat.le_trans (Nat.le_trans (Nat.le_trans (Nat.le_trans Z0 E85.1) E86.1) E87.1) E88.1) E89.1) K91.1) K93.1) K95.1) E188.1) (hM95.ext E188) (by decide) (by decide) (by decide) rfl) hZ (hw _ (List.mem_of_getElem? (i := 127) rfl)) (hw _ (List.mem_of_getElem? (i := 37) rfl)) (by decide) (by decide)) q195a q195b q195c (g := (mkF m 234 #[.val (.int p0), .val (.int p1), .val (.int p2), .val (.int p3), .val (.int (2 : Int32)), .val (.int (0 : Int32)), .val (.ref a85), .val (.ref a86), .val (.ref a87), .val (.ref a88), .val (.ref b89), .val (.ref a188), .val (.ref a85), .val (.ref a85)] [(.int (0 : Int32)), (.ref b89)])) rfl (by rw [hml]; rfl) (Steps.refl _) (argsL := [(.int (0 : Int32))]) (rest := []) (lenOf pd__I_Ljava_lang_Object__821 rfl) rfl (by show 2 * 0 + _ ≤ _; exact Nat.le_of_eq rfl) (hb hby at_234) (fun _ _ => ⟨rfl, e193, (by decide : 16 + 0 ≤ _), (by decide : 50 + 0 ≤ _)⟩)
        dsimp only [Pt.U, Pt.locs, Pt.cells, Pt.slots] at X195 l195 y195 z195 st195 hQ195
        subst l195 y195 z195
        obtain ⟨rfl, N195q, e195q⟩ := hQ195
        have N195 := Fr.app N193 N195q
        refine own_tr st195 ?_
        have e195 : T195.heap = T188.heap := e195q
        show own_Comes p e below s _ _ _ (T195.setTop (mkF m 239 #[.val (.int p0), .val (.int p1), .val (.int p2), .val (.int p3), .val (.int (2 : Int32)), .val (.int (0 : Int32)), .val (.ref a85), .val (.ref a86), .val (.ref a87), .val (.ref a88), .val (.ref b89), .val (.ref a188), .val (.ref a85), .val (.ref a85)] [(.ref a85)]))
        obtain ⟨T196, X196, e196, st196⟩ := castY X195 hx hZ hown (hw _ (List.mem_of_getElem? (i := 6) rfl)) e195 (Ins.self (((c92.keep K93).keep K95).ext E188)) (g := (mkF m 239 #[.val (.int p0), .val (.int p1), .val (.int p2), .val (.int p3), .val (.int (2 : Int32)), .val (.int (0 : Int32)), .val (.ref a85), .val (.ref a86), .val (.ref a87), .val (.ref a88), .val (.ref b89), .val (.ref a188), .val (.ref a85), .val (.ref a85)] [(.ref a85)])) rfl rfl (hb hby at_239)
        refine own_by st196 ?_
        show own_Comes p e below s _ _ _ (T196.setTop (mkF m 242 #[.val (.int p0), .val (.int p1), .val (.int p2), .val (.int p3), .val (.int (2 : Int32)), .val (.int (0 : Int32)), .val (.ref a85), .val (.ref a86), .val (.ref a87), .val (.ref a88), .val (.ref b89), .val (.ref a188), .val (.ref a85), .val (.ref a85)] [(.ref a85)]))
        refine own_by (fun _ kS => XS.aload X196.here hx rfl (hb hby at_242) rfl rfl kS) ?_
        show own_Comes p e below s _ _ _ (T196.setTop (mkF m 244 #[.val (.int p0), .val (.int p1), .val (.int p2), .val (.int p3), .val (.int (2 : Int32)), .val (.int (0 : Int32)), .val (.ref a85), .val (.ref a86), .val (.ref a87), .val (.ref a88), .val (.ref b89), .val (.ref a188), .val (.ref a85), .val (.ref a85)] [(.ref a85), (.ref a85)]))
        obtain ⟨cq197, kq197, q197a, q197b, q197c⟩ := isOf hZ e196 (((c92.keep K93).keep K95).ext E188)
        obtain ⟨_, _, ⟨T197, L197, k197, n197⟩, -, X197, ⟨Lc197, hQ197, l197, y197, z197⟩, st197⟩ := X196.virtualBack hx (y := (⟨"java/lang/String", "equals", "(Ljava/lang/Object;)Z"⟩ : MethodName)) (z := (⟨"java/lang/String", "equals", "(Ljava/lang/Object;)Z"⟩ : MethodName)) hown (mvT hZ (hw _ (List.mem_of_getElem? (i := 142) rfl))) (mvT hZ (hw _ (List.mem_of_getElem? (i := 143) rfl))) (notFace_of_selects (args := #[]) (mvT hZ (hw _ (List.mem_of_getElem? (i := 145) rfl)))) (mvT hZ (hw _ (List.mem_of_getElem? (i := 145) rfl))) (mvT hZ (hw _ (List.mem_of_getElem? (i := 144) rfl))) (by decide) (backOf (W := 0) (rm26 l Z a0 hw [] a85 T188.heap n0 (Nat.le_trans (Nat.le_trans (Nat.le_trans (Nat.le_trans (Nat.le_trans (Nat.le_trans (Nat.le_trans (Nat.le_trans (Nat.le_trans Z0 E85.1) E86.1) E87.1) E88.1) E89.1) K91.1) K93.1) K95.1) E188.1)) hZ (hw _ (List.mem_of_getElem? (i := 146) rfl)) (hw _ (List.mem_of_getElem? (i := 8) rfl)) (by decide) (by decide)) q197a q197c (g := (mkF m 244 #[.val (.int p0), .val (.int p1), .val (.int p2), .val (.int p3), .val (.int (2 : Int32)), .val (.int (0 : Int32)), .val (.ref a85), .val (.ref a86), .val (.ref a87), .val (.ref a88), .val (.ref b89), .val (.ref a188), .val (.ref a85), .val (.ref a85)] [(.ref a85), (.ref a85)])) rfl (by rw [hml]; rfl) (Steps.refl _) (argsL := [(.ref a85)]) (rest := []) (lenOf pd__Ljava_lang_Object__Z_838 rfl) rfl (by show 2 * 0 + _ ≤ _; exact Nat.le_of_eq rfl) (hb hby at_244) (fun _ _ => ⟨rfl, e196, (by decide : 16 + 0 ≤ _), (by decide : 50 + 0 ≤ _)⟩)
        dsimp only [Pt.U, Pt.locs, Pt.cells, Pt.slots] at X197 l197 y197 z197 st197 hQ197
        subst l197 y197 z197
        obtain ⟨rfl, N197q, e197q⟩ := hQ197
        have N197 := Fr.app N195 N197q
        refine own_tr st197 ?_
        have e197 : T197.heap = T188.heap := e197q
        show own_Comes p e below s _ _ _ (T197.setTop (mkF m 247 #[.val (.int p0), .val (.int p1), .val (.int p2), .val (.int p3), .val (.int (2 : Int32)), .val (.int (0 : Int32)), .val (.ref a85), .val (.ref a86), .val (.ref a87), .val (.ref a88), .val (.ref b89), .val (.ref a188), .val (.ref a85), .val (.ref a85)] [(.int (1 : Int32))]))
        have hb198 : ¬ ((1 : Int32) = (0 : Int32)) := by decide
        refine own_by (fun _ kS => XS.ifNo X197.here hx rfl (hb hby at_247) rfl ((if0 _ _).trans (feq hb198).1) kS) ?_
        show own_Comes p e below s _ _ _ (T197.setTop (mkF m 250 #[.val (.int p0), .val (.int p1), .val (.int p2), .val (.int p3), .val (.int (2 : Int32)), .val (.int (0 : Int32)), .val (.ref a85), .val (.ref a86), .val (.ref a87), .val (.ref a88), .val (.ref b89), .val (.ref a188), .val (.ref a85), .val (.ref a85)] []))
        refine own_by (fun _ kS => XS.iconst X197.here hx rfl (hb hby at_250) kS) ?_
        show own_Comes p e below s _ _ _ (T197.setTop (mkF m 251 #[.val (.int p0), .val (.int p1), .val (.int p2), .val (.int p3), .val (.int (2 : Int32)), .val (.int (0 : Int32)), .val (.ref a85), .val (.ref a86), .val (.ref a87), .val (.ref a88), .val (.ref b89), .val (.ref a188), .val (.ref a85), .val (.ref a85)] [(.int (1 : Int32))]))
        refine own_by (fun _ kS => XS.goto X197.here hx rfl (pc0 := 251) (pc' := 255) rfl (hb hby at_251) (by decide) (by decide) kS) ?_
        show own_Comes p e below s _ _ _ (T197.setTop (mkF m 255 #[.val (.int p0), .val (.int p1), .val (.int p2), .val (.int p3), .val (.int (2 : Int32)), .val (.int (0 : Int32)), .val (.ref a85), .val (.ref a86), .val (.ref a87), .val (.ref a88), .val (.ref b89), .val (.ref a188), .val (.ref a85), .val (.ref a85)] [(.int (1 : Int32))]))
        refine own_ret X197 (v := some (.int (1 : Int32))) (fun h => by rw [Bd.returns] at h; cases h) Bd.notSynchronized (by decide) (by decide) ?_ (fun fs hr => retN X197 hx (t := .boolean) Bd.returns (by simp) (hb hby at_255) hr)
        rw [e197]; exact ⟨rfl, N197⟩
      · have _hh : True := trivial
        rw [show I = (1 : Int32) from own_ki (n := 1) (by omega) (by decide)]
        show own_Comes p e below s _ _ _ (T188.setTop (mkF m 153 #[.val (.int p0), .val (.int p1), .val (.int p2), .val (.int p3), .val (.int (2 : Int32)), .val (.int (1 : Int32)), .val (.ref a85), .val (.ref a86), .val (.ref a87), .val (.ref a88), .val (.ref b89), .val (.ref a188), .unset, .unset] [(.ref b89)]))
        refine own_by (fun _ kS => XS.iload X188.here hx rfl (hb hby at_153) rfl kS) ?_
        show own_Comes p e below s _ _ _ (T188.setTop (mkF m 155 #[.val (.int p0), .val (.int p1), .val (.int p2), .val (.int p3), .val (.int (2 : Int32)), .val (.int (1 : Int32)), .val (.ref a85), .val (.ref a86), .val (.ref a87), .val (.ref a88), .val (.ref b89), .val (.ref a188), .unset, .unset] [(.int (1 : Int32)), (.ref b89)]))
        refine own_by (fun _ kS => XS.aload X188.here hx rfl (hb hby at_155) rfl rfl kS) ?_
        show own_Comes p e below s _ _ _ (T188.setTop (mkF m 157 #[.val (.int p0), .val (.int p1), .val (.int p2), .val (.int p3), .val (.int (2 : Int32)), .val (.int (1 : Int32)), .val (.ref a85), .val (.ref a86), .val (.ref a87), .val (.ref a88), .val (.ref b89), .val (.ref a188), .unset, .unset] [(.ref a188), (.int (1 : Int32)), (.ref b89)]))
        obtain ⟨_, _, ⟨T199, L199, k199, n199⟩, -, X199, ⟨Lc199, hQ199, l199, y199, z199⟩, st199⟩ := Jvm.LawKit.callS X188 hx (y := (⟨"com/example/callyard/callyard/cli/CommandLine", "operand", "(Ljava/util/List;ILjava/lang/String;)Ljava/lang/String;"⟩ : MethodName)) hown (mvT hZ (hw _ (List.mem_of_getElem? (i := 108) rfl))) (mvT hZ (hw _ (List.mem_of_getElem? (i := 109) rfl))) (mvT hZ (hw _ (List.mem_of_getElem? (i := 110) rfl))) (mvT hZ (hw _ (List.mem_of_getElem? (i := 111) rfl))) (by decide) (backOf (W := 0) (rm20 l Z a0 hw [] b89 (1 : Int32) a188 a93 k93 (2 : Int32) [(.ref a85), (.ref a86), .null, .null, .null, .null, .null, .null, .null, .null] a86 T188.heap n0 (Nat.le_trans (Nat.le_trans (Nat.le_trans (Nat.le_trans (Nat.le_trans (Nat.le_trans (Nat.le_trans (Nat.le_trans (Nat.le_trans Z0 E85.1) E86.1) E87.1) E88.1) E89.1) K91.1) K93.1) K95.1) E188.1) (hM95.ext E188) (by decide) (by decide) (by decide) rfl ((c94.keep K95).ext E188)) hZ (hw _ (List.mem_of_getElem? (i := 111) rfl)) (hw _ (List.mem_of_getElem? (i := 110) rfl)) (by decide) (by decide)) (g := (mkF m 157 #[.val (.int p0), .val (.int p1), .val (.int p2), .val (.int p3), .val (.int (2 : Int32)), .val (.int (1 : Int32)), .val (.ref a85), .val (.ref a86), .val (.ref a87), .val (.ref a88), .val (.ref b89), .val (.ref a188), .unset, .unset] [(.ref a188), (.int (1 : Int32)), (.ref b89)])) rfl (by rw [hml]; rfl) (argsL := [(.ref b89), (.int (1 : Int32)), (.ref a188)]) (rest := []) (lenOf pd__Ljava_util_List_ILjava_lang_String__Ljava_lang_String__66 rfl) rfl (by show 2 * 0 + _ ≤ _; exact Nat.le_of_eq rfl) (hb hby at_157) (fun _ _ => ⟨rfl, rfl, (by decide : 16 + 0 ≤ _), (by decide : 50 + 0 ≤ _)⟩)
        dsimp only [Pt.U, Pt.locs, Pt.cells, Pt.slots] at X199 l199 y199 z199 st199 hQ199
        subst l199 y199 z199
        obtain ⟨rfl, N199q, e199q⟩ := hQ199
        have N199 := Fr.app N188 N199q
        refine own_by st199 ?_
        have e199 : T199.heap = T188.heap := e199q
        show own_Comes p e below s _ _ _ (T199.setTop (mkF m 160 #[.val (.int p0), .val (.int p1), .val (.int p2), .val (.int p3), .val (.int (2 : Int32)), .val (.int (1 : Int32)), .val (.ref a85), .val (.ref a86), .val (.ref a87), .val (.ref a88), .val (.ref b89), .val (.ref a188), .unset, .unset] [(.ref a86)]))
        refine own_by (fun _ kS => XS.astore X199.here hx rfl (hb hby at_160) rfl rfl (l' := #[.val (.int p0), .val (.int p1), .val (.int p2), .val (.int p3), .val (.int (2 : Int32)), .val (.int (1 : Int32)), .val (.ref a85), .val (.ref a86), .val (.ref a87), .val (.ref a88), .val (.ref b89), .val (.ref a188), .val (.ref a86), .unset]) rfl kS) ?_
        show own_Comes p e below s _ _ _ (T199.setTop (mkF m 162 #[.val (.int p0), .val (.int p1), .val (.int p2), .val (.int p3), .val (.int (2 : Int32)), .val (.int (1 : Int32)), .val (.ref a85), .val (.ref a86), .val (.ref a87), .val (.ref a88), .val (.ref b89), .val (.ref a188), .val (.ref a86), .unset] []))
        refine own_by (fun _ kS => XS.iload X199.here hx rfl (hb hby at_162) rfl kS) ?_
        show own_Comes p e below s _ _ _ (T199.setTop (mkF m 164 #[.val (.int p0), .val (.int p1), .val (.int p2), .val (.int p3), .val (.int (2 : Int32)), .val (.int (1 : Int32)), .val (.ref a85), .val (.ref a86), .val (.ref a87), .val (.ref a88), .val (.ref b89), .val (.ref a188), .val (.ref a86), .unset] [(.int (1 : Int32))]))
        have hb200 : ¬ ((1 : Int32) = (0 : Int32)) := by decide
        refine own_by (fun _ kS => XS.ifYes X199.here hx rfl (pc0 := 164) (pc' := 174) rfl (hb hby at_164) rfl ((if0 _ _).trans (feq hb200).2) (by decide) (by decide) kS) ?_
        show own_Comes p e below s _ _ _ (T199.setTop (mkF m 174 #[.val (.int p0), .val (.int p1), .val (.int p2), .val (.int p3), .val (.int (2 : Int32)), .val (.int (1 : Int32)), .val (.ref a85), .val (.ref a86), .val (.ref a87), .val (.ref a88), .val (.ref b89), .val (.ref a188), .val (.ref a86), .unset] []))
        refine own_by (fun _ kS => XS.iload X199.here hx rfl (hb hby at_174) rfl kS) ?_
        show own_Comes p e below s _ _ _ (T199.setTop (mkF m 176 #[.val (.int p0), .val (.int p1), .val (.int p2), .val (.int p3), .val (.int (2 : Int32)), .val (.int (1 : Int32)), .val (.ref a85), .val (.ref a86), .val (.ref a87), .val (.ref a88), .val (.ref b89), .val (.ref a188), .val (.ref a86), .unset] [(.int (1 : Int32))]))
        refine own_by (fun _ kS => XS.iconst X199.here hx rfl (hb hby at_176) kS) ?_
        show own_Comes p e below s _ _ _ (T199.setTop (mkF m 177 #[.val (.int p0), .val (.int p1), .val (.int p2), .val (.int p3), .val (.int (2 : Int32)), .val (.int (1 : Int32)), .val (.ref a85), .val (.ref a86), .val (.ref a87), .val (.ref a88), .val (.ref b89), .val (.ref a188), .val (.ref a86), .unset] [(.int (1 : Int32)), (.int (1 : Int32))]))
        have hb201 : (1 : Int32) = (1 : Int32) := by decide
        refine own_by (fun _ kS => XS.icmpNo X199.here hx rfl (hb hby at_177) rfl (teq hb201).2 kS) ?_
        show own_Comes p e below s _ _ _ (T199.setTop (mkF m 180 #[.val (.int p0), .val (.int p1), .val (.int p2), .val (.int p3), .val (.int (2 : Int32)), .val (.int (1 : Int32)), .val (.ref a85), .val (.ref a86), .val (.ref a87), .val (.ref a88), .val (.ref b89), .val (.ref a188), .val (.ref a86), .unset] []))
        refine own_by (fun _ kS => XS.aload X199.here hx rfl (hb hby at_180) rfl rfl kS) ?_
        show own_Comes p e below s _ _ _ (T199.setTop (mkF m 182 #[.val (.int p0), .val (.int p1), .val (.int p2), .val (.int p3), .val (.int (2 : Int32)), .val (.int (1 : Int32)), .val (.ref a85), .val (.ref a86), .val (.ref a87), .val (.ref a88), .val (.ref b89), .val (.ref a188), .val (.ref a86), .unset] [(.ref a86)]))
        refine own_by (fun _ kS => XS.astore X199.here hx rfl (hb hby at_182) rfl rfl (l' := #[.val (.int p0), .val (.int p1), .val (.int p2), .val (.int p3), .val (.int (2 : Int32)), .val (.int (1 : Int32)), .val (.ref a85), .val (.ref a86), .val (.ref a87), .val (.ref a88), .val (.ref b89), .val (.ref a188), .val (.ref a86), .val (.ref a86)]) rfl kS) ?_
        show own_Comes p e below s _ _ _ (T199.setTop (mkF m 184 #[.val (.int p0), .val (.int p1), .val (.int p2), .val (.int p3), .val (.int (2 : Int32)), .val (.int (1 : Int32)), .val (.ref a85), .val (.ref a86), .val (.ref a87), .val (.ref a88), .val (.ref b89), .val (.ref a188), .val (.ref a86), .val (.ref a86)] []))
        refine own_by (fun _ kS => XS.goto X199.here hx rfl (pc0 := 184) (pc' := 204) rfl (hb hby at_184) (by decide) (by decide) kS) ?_
        show own_Comes p e below s _ _ _ (T199.setTop (mkF m 204 #[.val (.int p0), .val (.int p1), .val (.int p2), .val (.int p3), .val (.int (2 : Int32)), .val (.int (1 : Int32)), .val (.ref a85), .val (.ref a86), .val (.ref a87), .val (.ref a88), .val (.ref b89), .val (.ref a188), .val (.ref a86), .val (.ref a86)] []))
        refine own_by (fun _ kS => XS.aload X199.here hx rfl (hb hby at_204) rfl rfl kS) ?_
        show own_Comes p e below s _ _ _ (T199.setTop (mkF m 206 #[.val (.int p0), .val (.int p1), .val (.int p2), .val (.int p3), .val (.int (2 : Int32)), .val (.int (1 : Int32)), .val (.ref a85), .val (.ref a86), .val (.ref a87), .val (.ref a88), .val (.ref b89), .val (.ref a188), .val (.ref a86), .val (.ref a86)] [(.ref a86)]))
        refine own_by (fun _ kS => XS.ifnullNo X199.here hx rfl (hb hby at_206) rfl kS) ?_
        show own_Comes p e below s _ _ _ (T199.setTop (mkF m 209 #[.val (.int p0), .val (.int p1), .val (.int p2), .val (.int p3), .val (.int (2 : Int32)), .val (.int (1 : Int32)), .val (.ref a85), .val (.ref a86), .val (.ref a87), .val (.ref a88), .val (.ref b89), .val (.ref a188), .val (.ref a86), .val (.ref a86)] []))
        refine own_by (fun _ kS => XS.aload X199.here hx rfl (hb hby at_209) rfl rfl kS) ?_
        show own_Comes p e below s _ _ _ (T199.setTop (mkF m 211 #[.val (.int p0), .val (.int p1), .val (.int p2), .val (.int p3), .val (.int (2 : Int32)), .val (.int (1 : Int32)), .val (.ref a85), .val (.ref a86), .val (.ref a87), .val (.ref a88), .val (.ref b89), .val (.ref a188), .val (.ref a86), .val (.ref a86)] [(.ref a86)]))
        refine own_by (fun _ kS => XS.aload X199.here hx rfl (hb hby at_211) rfl rfl kS) ?_
        show own_Comes p e below s _ _ _ (T199.setTop (mkF m 213 #[.val (.int p0), .val (.int p1), .val (.int p2), .val (.int p3), .val (.int (2 : Int32)), .val (.int (1 : Int32)), .val (.ref a85), .val (.ref a86), .val (.ref a87), .val (.ref a88), .val (.ref b89), .val (.ref a188), .val (.ref a86), .val (.ref a86)] [(.ref a86), (.ref a86)]))
        obtain ⟨cq202, kq202, q202a, q202b, q202c⟩ := isOf hZ e199 ((c94.keep K95).ext E188)
        obtain ⟨_, _, ⟨T202, L202, k202, n202⟩, -, X202, ⟨Lc202, hQ202, l202, y202, z202⟩, st202⟩ := X199.virtualBack hx (y := (⟨"java/lang/String", "equals", "(Ljava/lang/Object;)Z"⟩ : MethodName)) (z := (⟨"java/lang/String", "equals", "(Ljava/lang/Object;)Z"⟩ : MethodName)) hown (mvT hZ (hw _ (List.mem_of_getElem? (i := 142) rfl))) (mvT hZ (hw _ (List.mem_of_getElem? (i := 143) rfl))) (notFace_of_selects (args := #[]) (mvT hZ (hw _ (List.mem_of_getElem? (i := 145) rfl)))) (mvT hZ (hw _ (List.mem_of_getElem? (i := 145) rfl))) (mvT hZ (hw _ (List.mem_of_getElem? (i := 144) rfl))) (by decide) (backOf (W := 0) (rm26 l Z a0 hw [] a86 T188.heap n0 (Nat.le_trans (Nat.le_trans (Nat.le_trans (Nat.le_trans (Nat.le_trans (Nat.le_trans (Nat.le_trans (Nat.le_trans (Nat.le_trans Z0 E85.1) E86.1) E87.1) E88.1) E89.1) K91.1) K93.1) K95.1) E188.1)) hZ (hw _ (List.mem_of_getElem? (i := 146) rfl)) (hw _ (List.mem_of_getElem? (i := 8) rfl)) (by decide) (by decide)) q202a q202c (g := (mkF m 213 #[.val (.int p0), .val (.int p1), .val (.int p2), .val (.int p3), .val (.int (2 : Int32)), .val (.int (1 : Int32)), .val (.ref a85), .val (.ref a86), .val (.ref a87), .val (.ref a88), .val (.ref b89), .val (.ref a188), .val (.ref a86), .val (.ref a86)] [(.ref a86), (.ref a86)])) rfl (by rw [hml]; rfl) (Steps.refl _) (argsL := [(.ref a86)]) (rest := []) (lenOf pd__Ljava_lang_Object__Z_838 rfl) rfl (by show 2 * 0 + _ ≤ _; exact Nat.le_of_eq rfl) (hb hby at_213) (fun _ _ => ⟨rfl, e199, (by decide : 16 + 0 ≤ _), (by decide : 50 + 0 ≤ _)⟩)
        dsimp only [Pt.U, Pt.locs, Pt.cells, Pt.slots] at X202 l202 y202 z202 st202 hQ202
        subst l202 y202 z202
        obtain ⟨rfl, N202q, e202q⟩ := hQ202
        have N202 := Fr.app N199 N202q
        refine own_tr st202 ?_
        have e202 : T202.heap = T188.heap := e202q
        show own_Comes p e below s _ _ _ (T202.setTop (mkF m 216 #[.val (.int p0), .val (.int p1), .val (.int p2), .val (.int p3), .val (.int (2 : Int32)), .val (.int (1 : Int32)), .val (.ref a85), .val (.ref a86), .val (.ref a87), .val (.ref a88), .val (.ref b89), .val (.ref a188), .val (.ref a86), .val (.ref a86)] [(.int (1 : Int32))]))
        have hb203 : ¬ ((1 : Int32) = (0 : Int32)) := by decide
        refine own_by (fun _ kS => XS.ifNo X202.here hx rfl (hb hby at_216) rfl ((if0 _ _).trans (feq hb203).1) kS) ?_
        show own_Comes p e below s _ _ _ (T202.setTop (mkF m 219 #[.val (.int p0), .val (.int p1), .val (.int p2), .val (.int p3), .val (.int (2 : Int32)), .val (.int (1 : Int32)), .val (.ref a85), .val (.ref a86), .val (.ref a87), .val (.ref a88), .val (.ref b89), .val (.ref a188), .val (.ref a86), .val (.ref a86)] []))
        refine own_by (fun _ kS => XS.aload X202.here hx rfl (hb hby at_219) rfl rfl kS) ?_
        show own_Comes p e below s _ _ _ (T202.setTop (mkF m 221 #[.val (.int p0), .val (.int p1), .val (.int p2), .val (.int p3), .val (.int (2 : Int32)), .val (.int (1 : Int32)), .val (.ref a85), .val (.ref a86), .val (.ref a87), .val (.ref a88), .val (.ref b89), .val (.ref a188), .val (.ref a86), .val (.ref a86)] [(.ref b89)]))
        obtain ⟨cq204, kq204, q204a, q204b, q204c⟩ := isOf hZ e202 (hM95.ext E188).1
        obtain ⟨_, _, ⟨T204, L204, k204, n204⟩, -, X204, ⟨Lc204, hQ204, l204, y204, z204⟩, st204⟩ := X202.interfaceBack hx (xi := (⟨"java/util/List", "size", "()I"⟩ : MethodName)) (y := (⟨"java/util/ArrayList", "size", "()I"⟩ : MethodName)) hown (mvT hZ (hw _ (List.mem_of_getElem? (i := 147) rfl))) (mvT hZ (hw _ (List.mem_of_getElem? (i := 113) rfl))) (mvT hZ (hw _ (List.mem_of_getElem? (i := 114) rfl))) (mvT hZ (hw _ (List.mem_of_getElem? (i := 115) rfl))) (mvT hZ (hw _ (List.mem_of_getElem? (i := 116) rfl))) (mvT hZ (hw _ (List.mem_of_getElem? (i := 117) rfl))) (mvT hZ (hw _ (List.mem_of_getElem? (i := 118) rfl))) (mvT hZ (hw _ (List.mem_of_getElem? (i := 66) rfl))) (by decide) (backOf (W := 0) (rm21 l Z a0 hw [] b89 (2 : Int32) T188.heap n0 (Nat.le_trans (Nat.le_trans (Nat.le_trans (Nat.le_trans (Nat.le_trans (Nat.le_trans (Nat.le_trans (Nat.le_trans (Nat.le_trans Z0 E85.1) E86.1) E87.1) E88.1) E89.1) K91.1) K93.1) K95.1) E188.1) (hM95.ext E188).2.2.2.1) hZ (hw _ (List.mem_of_getElem? (i := 119) rfl)) (hw _ (List.mem_of_getElem? (i := 37) rfl)) (by decide) (by decide)) q204a q204b q204c (g := (mkF m 221 #[.val (.int p0), .val (.int p1), .val (.int p2), .val (.int p3), .val (.int (2 : Int32)), .val (.int (1 : Int32)), .val (.ref a85), .val (.ref a86), .val (.ref a87), .val (.ref a88), .val (.ref b89), .val (.ref a188), .val (.ref a86), .val (.ref a86)] [(.ref b89)])) rfl (by rw [hml]; rfl) (Steps.refl _) (argsL := []) (rest := []) (lenOf pd___I_154 rfl) rfl (by show 2 * 0 + _ ≤ _; exact Nat.le_of_eq rfl) (hb hby at_221) (fun _ _ => ⟨rfl, e202, (by decide : 16 + 0 ≤ _), (by decide : 50 + 0 ≤ _)⟩)
        dsimp only [Pt.U, Pt.locs, Pt.cells, Pt.slots] at X204 l204 y204 z204 st204 hQ204
        subst l204 y204 z204
        obtain ⟨rfl, N204q, e204q⟩ := hQ204
        have N204 := Fr.app N202 N204q
        refine own_tr st204 ?_
        have e204 : T204.heap = T188.heap := e204q
        show own_Comes p e below s _ _ _ (T204.setTop (mkF m 226 #[.val (.int p0), .val (.int p1), .val (.int p2), .val (.int p3), .val (.int (2 : Int32)), .val (.int (1 : Int32)), .val (.ref a85), .val (.ref a86), .val (.ref a87), .val (.ref a88), .val (.ref b89), .val (.ref a188), .val (.ref a86), .val (.ref a86)] [(.int (2 : Int32))]))
        refine own_by (fun _ kS => XS.iload X204.here hx rfl (hb hby at_226) rfl kS) ?_
        show own_Comes p e below s _ _ _ (T204.setTop (mkF m 228 #[.val (.int p0), .val (.int p1), .val (.int p2), .val (.int p3), .val (.int (2 : Int32)), .val (.int (1 : Int32)), .val (.ref a85), .val (.ref a86), .val (.ref a87), .val (.ref a88), .val (.ref b89), .val (.ref a188), .val (.ref a86), .val (.ref a86)] [(.int (2 : Int32)), (.int (2 : Int32))]))
        have hb205 : (2 : Int32) = (2 : Int32) := by decide
        refine own_by (fun _ kS => XS.icmpNo X204.here hx rfl (hb hby at_228) rfl (teq hb205).2 kS) ?_
        show own_Comes p e below s _ _ _ (T204.setTop (mkF m 231 #[.val (.int p0), .val (.int p1), .val (.int p2), .val (.int p3), .val (.int (2 : Int32)), .val (.int (1 : Int32)), .val (.ref a85), .val (.ref a86), .val (.ref a87), .val (.ref a88), .val (.ref b89), .val (.ref a188), .val (.ref a86), .val (.ref a86)] []))
        refine own_by (fun _ kS => XS.aload X204.here hx rfl (hb hby at_231) rfl rfl kS) ?_
        show own_Comes p e below s _ _ _ (T204.setTop (mkF m 233 #[.val (.int p0), .val (.int p1), .val (.int p2), .val (.int p3), .val (.int (2 : Int32)), .val (.int (1 : Int32)), .val (.ref a85), .val (.ref a86), .val (.ref a87), .val (.ref a88), .val (.ref b89), .val (.ref a188), .val (.ref a86), .val (.ref a86)] [(.ref b89)]))
        refine own_by (fun _ kS => XS.iconst X204.here hx rfl (hb hby at_233) kS) ?_
        show own_Comes p e below s _ _ _ (T204.setTop (mkF m 234 #[.val (.int p0), .val (.int p1), .val (.int p2), .val (.int p3), .val (.int (2 : Int32)), .val (.int (1 : Int32)), .val (.ref a85), .val (.ref a86), .val (.ref a87), .val (.ref a88), .val (.ref b89), .val (.ref a188), .val (.ref a86), .val (.ref a86)] [(.int (0 : Int32)), (.ref b89)]))
        obtain ⟨cq206, kq206, q206a, q206b, q206c⟩ := isOf hZ e204 (hM95.ext E188).1
        obtain ⟨_, _, ⟨T206, L206, k206, n206⟩, -, X206, ⟨Lc206, hQ206, l206, y206, z206⟩, st206⟩ := X204.interfaceBack hx (xi := (⟨"java/util/List", "get", "(I)Ljava/lang/Object;"⟩ : MethodName)) (y := (⟨"java/util/ArrayList", "get", "(I)Ljava/lang/Object;"⟩ : MethodName)) hown (mvT hZ (hw _ (List.mem_of_getElem? (i := 148) rfl))) (mvT hZ (hw _ (List.mem_of_getElem? (i := 121) rfl))) (mvT hZ (hw _ (List.mem_of_getElem? (i := 122) rfl))) (mvT hZ (hw _ (List.mem_of_getElem? (i := 123) rfl))) (mvT hZ (hw _ (List.mem_of_getElem? (i := 124) rfl))) (mvT hZ (hw _ (List.mem_of_getElem? (i := 125) rfl))) (mvT hZ (hw _ (List.mem_of_getElem? (i := 126) rfl))) (mvT hZ (hw _ (List.mem_of_getElem? (i := 66) rfl))) (by decide) (backOf (W := 0) (rm22 l Z a0 hw [] b89 (0 : Int32) a93 k93 (2 : Int32) [(.ref a85), (.ref a86), .null, .null, .null, .null, .null, .null, .null, .null] a85 T188.heap n0 (Nat.le_trans (Nat.le_trans (Nat.le_trans (Nat.le_trans (Nat.le_trans (Nat.le_trans (Nat.le_trans (Nat.le_trans (Nat.le_trans Z0 E85.1) E86.1) E87.1) E88.1) E89.1) K91.1) K93.1) K95.1) E188.1) (hM95.ext E188) (by decide) (by decide) (by decide) rfl) hZ (hw _ (List.mem_of_getElem? (i := 127) rfl)) (hw _ (List.mem_of_getElem? (i := 37) rfl)) (by decide) (by decide)) q206a q206b q206c (g := (mkF m 234 #[.val (.int p0), .val (.int p1), .val (.int p2), .val (.int p3), .val (.int (2 : Int32)), .val (.int (1 : Int32)), .val (.ref a85), .val (.ref a86), .val (.ref a87), .val (.ref a88), .val (.ref b89), .val (.ref a188), .val (.ref a86), .val (.ref a86)] [(.int (0 : Int32)), (.ref b89)])) rfl (by rw [hml]; rfl) (Steps.refl _) (argsL := [(.int (0 : Int32))]) (rest := []) (lenOf pd__I_Ljava_lang_Object__821 rfl) rfl (by show 2 * 0 + _ ≤ _; exact Nat.le_of_eq rfl) (hb hby at_234) (fun _ _ => ⟨rfl, e204, (by decide : 16 + 0 ≤ _), (by decide : 50 + 0 ≤ _)⟩)
        dsimp only [Pt.U, Pt.locs, Pt.cells, Pt.slots] at X206 l206 y206 z206 st206 hQ206
        subst l206 y206 z206
        obtain ⟨rfl, N206q, e206q⟩ := hQ206
        have N206 := Fr.app N204 N206q
        refine own_tr st206 ?_
        have e206 : T206.heap = T188.heap := e206q
        show own_Comes p e below s _ _ _ (T206.setTop (mkF m 239 #[.val (.int p0), .val (.int p1), .val (.int p2), .val (.int p3), .val (.int (2 : Int32)), .val (.int (1 : Int32)), .val (.ref a85), .val (.ref a86), .val (.ref a87), .val (.ref a88), .val (.ref b89), .val (.ref a188), .val (.ref a86), .val (.ref a86)] [(.ref a85)]))
        obtain ⟨T207, X207, e207, st207⟩ := castY X206 hx hZ hown (hw _ (List.mem_of_getElem? (i := 6) rfl)) e206 (Ins.self (((c92.keep K93).keep K95).ext E188)) (g := (mkF m 239 #[.val (.int p0), .val (.int p1), .val (.int p2), .val (.int p3), .val (.int (2 : Int32)), .val (.int (1 : Int32)), .val (.ref a85), .val (.ref a86), .val (.ref a87), .val (.ref a88), .val (.ref b89), .val (.ref a188), .val (.ref a86), .val (.ref a86)] [(.ref a85)])) rfl rfl (hb hby at_239)
        refine own_by st207 ?_
        show own_Comes p e below s _ _ _ (T207.setTop (mkF m 242 #[.val (.int p0), .val (.int p1), .val (.int p2), .val (.int p3), .val (.int (2 : Int32)), .val (.int (1 : Int32)), .val (.ref a85), .val (.ref a86), .val (.ref a87), .val (.ref a88), .val (.ref b89), .val (.ref a188), .val (.ref a86), .val (.ref a86)] [(.ref a85)]))
        refine own_by (fun _ kS => XS.aload X207.here hx rfl (hb hby at_242) rfl rfl kS) ?_
        show own_Comes p e below s _ _ _ (T207.setTop (mkF m 244 #[.val (.int p0), .val (.int p1), .val (.int p2), .val (.int p3), .val (.int (2 : Int32)), .val (.int (1 : Int32)), .val (.ref a85), .val (.ref a86), .val (.ref a87), .val (.ref a88), .val (.ref b89), .val (.ref a188), .val (.ref a86), .val (.ref a86)] [(.ref a85), (.ref a85)]))
        obtain ⟨cq208, kq208, q208a, q208b, q208c⟩ := isOf hZ e207 (((c92.keep K93).keep K95).ext E188)
        obtain ⟨_, _, ⟨T208, L208, k208, n208⟩, -, X208, ⟨Lc208, hQ208, l208, y208, z208⟩, st208⟩ := X207.virtualBack hx (y := (⟨"java/lang/String", "equals", "(Ljava/lang/Object;)Z"⟩ : MethodName)) (z := (⟨"java/lang/String", "equals", "(Ljava/lang/Object;)Z"⟩ : MethodName)) hown (mvT hZ (hw _ (List.mem_of_getElem? (i := 142) rfl))) (mvT hZ (hw _ (List.mem_of_getElem? (i := 143) rfl))) (notFace_of_selects (args := #[]) (mvT hZ (hw _ (List.mem_of_getElem? (i := 145) rfl)))) (mvT hZ (hw _ (List.mem_of_getElem? (i := 145) rfl))) (mvT hZ (hw _ (List.mem_of_getElem? (i := 144) rfl))) (by decide) (backOf (W := 0) (rm26 l Z a0 hw [] a85 T188.heap n0 (Nat.le_trans (Nat.le_trans (Nat.le_trans (Nat.le_trans (Nat.le_trans (Nat.le_trans (Nat.le_trans (Nat.le_trans (Nat.le_trans Z0 E85.1) E86.1) E87.1) E88.1) E89.1) K91.1) K93.1) K95.1) E188.1)) hZ (hw _ (List.mem_of_getElem? (i := 146) rfl)) (hw _ (List.mem_of_getElem? (i := 8) rfl)) (by decide) (by decide)) q208a q208c (g := (mkF m 244 #[.val (.int p0), .val (.int p1), .val (.int p2), .val (.int p3), .val (.int (2 : Int32)), .val (.int (1 : Int32)), .val (.ref a85), .val (.ref a86), .val (.ref a87), .val (.ref a88), .val (.ref b89), .val (.ref a188), .val (.ref a86), .val (.ref a86)] [(.ref a85), (.ref a85)])) rfl (by rw [hml]; rfl) (Steps.refl _) (argsL := [(.ref a85)]) (rest := []) (lenOf pd__Ljava_lang_Object__Z_838 rfl) rfl (by show 2 * 0 + _ ≤ _; exact Nat.le_of_eq rfl) (hb hby at_244) (fun _ _ => ⟨rfl, e207, (by decide : 16 + 0 ≤ _), (by decide : 50 + 0 ≤ _)⟩)
        dsimp only [Pt.U, Pt.locs, Pt.cells, Pt.slots] at X208 l208 y208 z208 st208 hQ208
        subst l208 y208 z208
        obtain ⟨rfl, N208q, e208q⟩ := hQ208
        have N208 := Fr.app N206 N208q
        refine own_tr st208 ?_
        have e208 : T208.heap = T188.heap := e208q
        show own_Comes p e below s _ _ _ (T208.setTop (mkF m 247 #[.val (.int p0), .val (.int p1), .val (.int p2), .val (.int p3), .val (.int (2 : Int32)), .val (.int (1 : Int32)), .val (.ref a85), .val (.ref a86), .val (.ref a87), .val (.ref a88), .val (.ref b89), .val (.ref a188), .val (.ref a86), .val (.ref a86)] [(.int (1 : Int32))]))
        have hb209 : ¬ ((1 : Int32) = (0 : Int32)) := by decide
        refine own_by (fun _ kS => XS.ifNo X208.here hx rfl (hb hby at_247) rfl ((if0 _ _).trans (feq hb209).1) kS) ?_
        show own_Comes p e below s _ _ _ (T208.setTop (mkF m 250 #[.val (.int p0), .val (.int p1), .val (.int p2), .val (.int p3), .val (.int (2 : Int32)), .val (.int (1 : Int32)), .val (.ref a85), .val (.ref a86), .val (.ref a87), .val (.ref a88), .val (.ref b89), .val (.ref a188), .val (.ref a86), .val (.ref a86)] []))
        refine own_by (fun _ kS => XS.iconst X208.here hx rfl (hb hby at_250) kS) ?_
        show own_Comes p e below s _ _ _ (T208.setTop (mkF m 251 #[.val (.int p0), .val (.int p1), .val (.int p2), .val (.int p3), .val (.int (2 : Int32)), .val (.int (1 : Int32)), .val (.ref a85), .val (.ref a86), .val (.ref a87), .val (.ref a88), .val (.ref b89), .val (.ref a188), .val (.ref a86), .val (.ref a86)] [(.int (1 : Int32))]))
        refine own_by (fun _ kS => XS.goto X208.here hx rfl (pc0 := 251) (pc' := 255) rfl (hb hby at_251) (by decide) (by decide) kS) ?_
        show own_Comes p e below s _ _ _ (T208.setTop (mkF m 255 #[.val (.int p0), .val (.int p1), .val (.int p2), .val (.int p3), .val (.int (2 : Int32)), .val (.int (1 : Int32)), .val (.ref a85), .val (.ref a86), .val (.ref a87), .val (.ref a88), .val (.ref b89), .val (.ref a188), .val (.ref a86), .val (.ref a86)] [(.int (1 : Int32))]))
        refine own_ret X208 (v := some (.int (1 : Int32))) (fun h => by rw [Bd.returns] at h; cases h) Bd.notSynchronized (by decide) (by decide) ?_ (fun fs hr => retN X208 hx (t := .boolean) Bd.returns (by simp) (hb hby at_255) hr)
        rw [e208]; exact ⟨rfl, N208⟩
  · refine own_by (fun _ kS => XS.icmpYes X93.here hx rfl (pc0 := 95) (pc' := 108) rfl (hb hby at_95) rfl (flt hk1).2.2.2 (by decide) (by decide) kS) ?_
    show own_Comes p e below s _ _ _ (T93.setTop (mkF m 108 #[.val (.int p0), .val (.int p1), .val (.int p2), .val (.int p3), .val (.int K), .val (.int I), .val (.ref a85), .val (.ref a86), .val (.ref a87), .val (.ref a88), .val (.ref b89), .unset, .unset, .unset] []))
    have hKe : K.toInt = 1 := by
      rw [Int32.lt_iff_toInt_lt] at hk1; omega
    have hKl : K = (1 : Int32) := own_ki hKe (by decide)
    rw [show K = (1 : Int32) from hKl]
    show own_Comes p e below s _ _ _ (T93.setTop (mkF m 108 #[.val (.int p0), .val (.int p1), .val (.int p2), .val (.int p3), .val (.int (1 : Int32)), .val (.int I), .val (.ref a85), .val (.ref a86), .val (.ref a87), .val (.ref a88), .val (.ref b89), .unset, .unset, .unset] []))
    refine own_by (fun _ kS => XS.iload X93.here hx rfl (hb hby at_108) rfl kS) ?_
    show own_Comes p e below s _ _ _ (T93.setTop (mkF m 110 #[.val (.int p0), .val (.int p1), .val (.int p2), .val (.int p3), .val (.int (1 : Int32)), .val (.int I), .val (.ref a85), .val (.ref a86), .val (.ref a87), .val (.ref a88), .val (.ref b89), .unset, .unset, .unset] [(.int (1 : Int32))]))
    refine own_by (fun _ kS => XS.iconst X93.here hx rfl (hb hby at_110) kS) ?_
    show own_Comes p e below s _ _ _ (T93.setTop (mkF m 111 #[.val (.int p0), .val (.int p1), .val (.int p2), .val (.int p3), .val (.int (1 : Int32)), .val (.int I), .val (.ref a85), .val (.ref a86), .val (.ref a87), .val (.ref a88), .val (.ref b89), .unset, .unset, .unset] [(.int (2 : Int32)), (.int (1 : Int32))]))
    have hb210 : ¬ ((2 : Int32) < (1 : Int32)) := by decide
    refine own_by (fun _ kS => XS.icmpYes X93.here hx rfl (pc0 := 111) (pc' := 124) rfl (hb hby at_111) rfl (flt hb210).2.2.2 (by decide) (by decide) kS) ?_
    show own_Comes p e below s _ _ _ (T93.setTop (mkF m 124 #[.val (.int p0), .val (.int p1), .val (.int p2), .val (.int p3), .val (.int (1 : Int32)), .val (.int I), .val (.ref a85), .val (.ref a86), .val (.ref a87), .val (.ref a88), .val (.ref b89), .unset, .unset, .unset] []))
    refine own_by (fun _ kS => XS.iload X93.here hx rfl (hb hby at_124) rfl kS) ?_
    show own_Comes p e below s _ _ _ (T93.setTop (mkF m 126 #[.val (.int p0), .val (.int p1), .val (.int p2), .val (.int p3), .val (.int (1 : Int32)), .val (.int I), .val (.ref a85), .val (.ref a86), .val (.ref a87), .val (.ref a88), .val (.ref b89), .unset, .unset, .unset] [(.int (1 : Int32))]))
    refine own_by (fun _ kS => XS.iconst X93.here hx rfl (hb hby at_126) kS) ?_
    show own_Comes p e below s _ _ _ (T93.setTop (mkF m 127 #[.val (.int p0), .val (.int p1), .val (.int p2), .val (.int p3), .val (.int (1 : Int32)), .val (.int I), .val (.ref a85), .val (.ref a86), .val (.ref a87), .val (.ref a88), .val (.ref b89), .unset, .unset, .unset] [(.int (3 : Int32)), (.int (1 : Int32))]))
    have hb211 : ¬ ((3 : Int32) < (1 : Int32)) := by decide
    refine own_by (fun _ kS => XS.icmpYes X93.here hx rfl (pc0 := 127) (pc' := 140) rfl (hb hby at_127) rfl (flt hb211).2.2.2 (by decide) (by decide) kS) ?_
    show own_Comes p e below s _ _ _ (T93.setTop (mkF m 140 #[.val (.int p0), .val (.int p1), .val (.int p2), .val (.int p3), .val (.int (1 : Int32)), .val (.int I), .val (.ref a85), .val (.ref a86), .val (.ref a87), .val (.ref a88), .val (.ref b89), .unset, .unset, .unset] []))
    refine own_by (fun _ kS => XS.iloadN X93.here hx rfl (hb hby at_140) rfl kS) ?_
    show own_Comes p e below s _ _ _ (T93.setTop (mkF m 141 #[.val (.int p0), .val (.int p1), .val (.int p2), .val (.int p3), .val (.int (1 : Int32)), .val (.int I), .val (.ref a85), .val (.ref a86), .val (.ref a87), .val (.ref a88), .val (.ref b89), .unset, .unset, .unset] [(.int p3)]))
    refine own_by (fun _ kS => XS.sipush X93.here hx rfl (hb hby at_141) kS) ?_
    show own_Comes p e below s _ _ _ (T93.setTop (mkF m 144 #[.val (.int p0), .val (.int p1), .val (.int p2), .val (.int p3), .val (.int (1 : Int32)), .val (.int I), .val (.ref a85), .val (.ref a86), .val (.ref a87), .val (.ref a88), .val (.ref b89), .unset, .unset, .unset] [(.int (255 : Int32)), (.int p3)]))
    refine own_by (fun _ kS => XS.iand X93.here hx rfl (hb hby at_144) rfl kS) ?_
    show own_Comes p e below s _ _ _ (T93.setTop (mkF m 145 #[.val (.int p0), .val (.int p1), .val (.int p2), .val (.int p3), .val (.int (1 : Int32)), .val (.int I), .val (.ref a85), .val (.ref a86), .val (.ref a87), .val (.ref a88), .val (.ref b89), .unset, .unset, .unset] [(.int (p3 &&& (255 : Int32)))]))
    refine own_by (fun _ kS => XS.i2c X93.here hx rfl (hb hby at_145) rfl kS) ?_
    show own_Comes p e below s _ _ _ (T93.setTop (mkF m 146 #[.val (.int p0), .val (.int p1), .val (.int p2), .val (.int p3), .val (.int (1 : Int32)), .val (.int I), .val (.ref a85), .val (.ref a86), .val (.ref a87), .val (.ref a88), .val (.ref b89), .unset, .unset, .unset] [(.int ((p3 &&& (255 : Int32)).toUInt32.toUInt16.toUInt32.toInt32))]))
    have c212 := ((c90.keep K91 (allS g_b89 all0)).keep K93 (allS g_b89 all0))
    obtain ⟨_, _, ⟨T213, L213, k213, n213⟩, -, X213, ⟨Lc213, hQ213, l213, y213, z213⟩, st213⟩ := Jvm.LawKit.callS X93 hx (y := (⟨"java/lang/String", "valueOf", "(C)Ljava/lang/String;"⟩ : MethodName)) hown (mvT hZ (hw _ (List.mem_of_getElem? (i := 94) rfl))) (mvT hZ (hw _ (List.mem_of_getElem? (i := 95) rfl))) (mvT hZ (hw _ (List.mem_of_getElem? (i := 8) rfl))) (mvT hZ (hw _ (List.mem_of_getElem? (i := 96) rfl))) (by decide) (backOf (W := 0) (rm16 l Z a0 hw [] ((p3 &&& (255 : Int32)).toUInt32.toUInt16.toUInt32.toInt32) zc T93.heap n0 (Nat.le_trans (Nat.le_trans (Nat.le_trans (Nat.le_trans (Nat.le_trans (Nat.le_trans (Nat.le_trans Z0 E85.1) E86.1) E87.1) E88.1) E89.1) K91.1) K93.1) (own_and255 p3).2 c212 Sz hzc) hZ (hw _ (List.mem_of_getElem? (i := 96) rfl)) (hw _ (List.mem_of_getElem? (i := 8) rfl)) (by decide) (by decide)) (g := (mkF m 146 #[.val (.int p0), .val (.int p1), .val (.int p2), .val (.int p3), .val (.int (1 : Int32)), .val (.int I), .val (.ref a85), .val (.ref a86), .val (.ref a87), .val (.ref a88), .val (.ref b89), .unset, .unset, .unset] [(.int ((p3 &&& (255 : Int32)).toUInt32.toUInt16.toUInt32.toInt32))])) rfl (by rw [hml]; rfl) (argsL := [(.int ((p3 &&& (255 : Int32)).toUInt32.toUInt16.toUInt32.toInt32))]) (rest := []) (lenOf pd__C_Ljava_lang_String__847 rfl) rfl (by show 2 * 0 + _ ≤ _; exact Nat.le_of_eq rfl) (hb hby at_146) (fun _ _ => ⟨rfl, rfl, (by decide : 14 + 2 ≤ _), (by decide : 45 + 5 ≤ _)⟩)
    dsimp only [Pt.U, Pt.locs, Pt.cells, Pt.slots] at X213 l213 y213 z213 st213 hQ213
    subst l213 y213 z213
    obtain ⟨a213, rfl, N213q, E213, Eb213⟩ := hQ213
    have N213 := Fr.app N93 N213q
    refine own_by st213 ?_
    show own_Comes p e below s _ _ _ (T213.setTop (mkF m 149 #[.val (.int p0), .val (.int p1), .val (.int p2), .val (.int p3), .val (.int (1 : Int32)), .val (.int I), .val (.ref a85), .val (.ref a86), .val (.ref a87), .val (.ref a88), .val (.ref b89), .unset, .unset, .unset] [(.ref a213)]))
    refine own_by (fun _ kS => XS.astore X213.here hx rfl (hb hby at_149) rfl rfl (l' := #[.val (.int p0), .val (.int p1), .val (.int p2), .val (.int p3), .val (.int (1 : Int32)), .val (.int I), .val (.ref a85), .val (.ref a86), .val (.ref a87), .val (.ref a88), .val (.ref b89), .val (.ref a213), .unset, .unset]) rfl kS) ?_
    show own_Comes p e below s _ _ _ (T213.setTop (mkF m 151 #[.val (.int p0), .val (.int p1), .val (.int p2), .val (.int p3), .val (.int (1 : Int32)), .val (.int I), .val (.ref a85), .val (.ref a86), .val (.ref a87), .val (.ref a88), .val (.ref b89), .val (.ref a213), .unset, .unset] []))
    refine own_by (fun _ kS => XS.aload X213.here hx rfl (hb hby at_151) rfl rfl kS) ?_
    show own_Comes p e below s _ _ _ (T213.setTop (mkF m 153 #[.val (.int p0), .val (.int p1), .val (.int p2), .val (.int p3), .val (.int (1 : Int32)), .val (.int I), .val (.ref a85), .val (.ref a86), .val (.ref a87), .val (.ref a88), .val (.ref b89), .val (.ref a213), .unset, .unset] [(.ref b89)]))
    rw [show I = (0 : Int32) from own_ki (n := 0) (by omega) (by decide)]
    show own_Comes p e below s _ _ _ (T213.setTop (mkF m 153 #[.val (.int p0), .val (.int p1), .val (.int p2), .val (.int p3), .val (.int (1 : Int32)), .val (.int (0 : Int32)), .val (.ref a85), .val (.ref a86), .val (.ref a87), .val (.ref a88), .val (.ref b89), .val (.ref a213), .unset, .unset] [(.ref b89)]))
    refine own_by (fun _ kS => XS.iload X213.here hx rfl (hb hby at_153) rfl kS) ?_
    show own_Comes p e below s _ _ _ (T213.setTop (mkF m 155 #[.val (.int p0), .val (.int p1), .val (.int p2), .val (.int p3), .val (.int (1 : Int32)), .val (.int (0 : Int32)), .val (.ref a85), .val (.ref a86), .val (.ref a87), .val (.ref a88), .val (.ref b89), .val (.ref a213), .unset, .unset] [(.int (0 : Int32)), (.ref b89)]))
    refine own_by (fun _ kS => XS.aload X213.here hx rfl (hb hby at_155) rfl rfl kS) ?_
    show own_Comes p e below s _ _ _ (T213.setTop (mkF m 157 #[.val (.int p0), .val (.int p1), .val (.int p2), .val (.int p3), .val (.int (1 : Int32)), .val (.int (0 : Int32)), .val (.ref a85), .val (.ref a86), .val (.ref a87), .val (.ref a88), .val (.ref b89), .val (.ref a213), .unset, .unset] [(.ref a213), (.int (0 : Int32)), (.ref b89)]))
    obtain ⟨_, _, ⟨T214, L214, k214, n214⟩, -, X214, ⟨Lc214, hQ214, l214, y214, z214⟩, st214⟩ := Jvm.LawKit.callS X213 hx (y := (⟨"com/example/callyard/callyard/cli/CommandLine", "operand", "(Ljava/util/List;ILjava/lang/String;)Ljava/lang/String;"⟩ : MethodName)) hown (mvT hZ (hw _ (List.mem_of_getElem? (i := 108) rfl))) (mvT hZ (hw _ (List.mem_of_getElem? (i := 109) rfl))) (mvT hZ (hw _ (List.mem_of_getElem? (i := 110) rfl))) (mvT hZ (hw _ (List.mem_of_getElem? (i := 111) rfl))) (by decide) (backOf (W := 0) (rm20 l Z a0 hw [] b89 (0 : Int32) a213 a93 k93 (1 : Int32) [(.ref a85), .null, .null, .null, .null, .null, .null, .null, .null, .null] a85 T213.heap n0 (Nat.le_trans (Nat.le_trans (Nat.le_trans (Nat.le_trans (Nat.le_trans (Nat.le_trans (Nat.le_trans (Nat.le_trans Z0 E85.1) E86.1) E87.1) E88.1) E89.1) K91.1) K93.1) E213.1) (hL93.ext E213) (by decide) (by decide) (by decide) rfl ((c92.keep K93).ext E213)) hZ (hw _ (List.mem_of_getElem? (i := 111) rfl)) (hw _ (List.mem_of_getElem? (i := 110) rfl)) (by decide) (by decide)) (g := (mkF m 157 #[.val (.int p0), .val (.int p1), .val (.int p2), .val (.int p3), .val (.int (1 : Int32)), .val (.int (0 : Int32)), .val (.ref a85), .val (.ref a86), .val (.ref a87), .val (.ref a88), .val (.ref b89), .val (.ref a213), .unset, .unset] [(.ref a213), (.int (0 : Int32)), (.ref b89)])) rfl (by rw [hml]; rfl) (argsL := [(.ref b89), (.int (0 : Int32)), (.ref a213)]) (rest := []) (lenOf pd__Ljava_util_List_ILjava_lang_String__Ljava_lang_String__66 rfl) rfl (by show 2 * 0 + _ ≤ _; exact Nat.le_of_eq rfl) (hb hby at_157) (fun _ _ => ⟨rfl, rfl, (by decide : 16 + 0 ≤ _), (by decide : 50 + 0 ≤ _)⟩)
    dsimp only [Pt.U, Pt.locs, Pt.cells, Pt.slots] at X214 l214 y214 z214 st214 hQ214
    subst l214 y214 z214
    obtain ⟨rfl, N214q, e214q⟩ := hQ214
    have N214 := Fr.app N213 N214q
    refine own_by st214 ?_
    have e214 : T214.heap = T213.heap := e214q
    show own_Comes p e below s _ _ _ (T214.setTop (mkF m 160 #[.val (.int p0), .val (.int p1), .val (.int p2), .val (.int p3), .val (.int (1 : Int32)), .val (.int (0 : Int32)), .val (.ref a85), .val (.ref a86), .val (.ref a87), .val (.ref a88), .val (.ref b89), .val (.ref a213), .unset, .unset] [(.ref a85)]))
    refine own_by (fun _ kS => XS.astore X214.here hx rfl (hb hby at_160) rfl rfl (l' := #[.val (.int p0), .val (.int p1), .val (.int p2), .val (.int p3), .val (.int (1 : Int32)), .val (.int (0 : Int32)), .val (.ref a85), .val (.ref a86), .val (.ref a87), .val (.ref a88), .val (.ref b89), .val (.ref a213), .val (.ref a85), .unset]) rfl kS) ?_
    show own_Comes p e below s _ _ _ (T214.setTop (mkF m 162 #[.val (.int p0), .val (.int p1), .val (.int p2), .val (.int p3), .val (.int (1 : Int32)), .val (.int (0 : Int32)), .val (.ref a85), .val (.ref a86), .val (.ref a87), .val (.ref a88), .val (.ref b89), .val (.ref a213), .val (.ref a85), .unset] []))
    refine own_by (fun _ kS => XS.iload X214.here hx rfl (hb hby at_162) rfl kS) ?_
    show own_Comes p e below s _ _ _ (T214.setTop (mkF m 164 #[.val (.int p0), .val (.int p1), .val (.int p2), .val (.int p3), .val (.int (1 : Int32)), .val (.int (0 : Int32)), .val (.ref a85), .val (.ref a86), .val (.ref a87), .val (.ref a88), .val (.ref b89), .val (.ref a213), .val (.ref a85), .unset] [(.int (0 : Int32))]))
    have hb215 : (0 : Int32) = (0 : Int32) := by decide
    refine own_by (fun _ kS => XS.ifNo X214.here hx rfl (hb hby at_164) rfl ((if0 _ _).trans (teq hb215).2) kS) ?_
    show own_Comes p e below s _ _ _ (T214.setTop (mkF m 167 #[.val (.int p0), .val (.int p1), .val (.int p2), .val (.int p3), .val (.int (1 : Int32)), .val (.int (0 : Int32)), .val (.ref a85), .val (.ref a86), .val (.ref a87), .val (.ref a88), .val (.ref b89), .val (.ref a213), .val (.ref a85), .unset] []))
    refine own_by (fun _ kS => XS.aload X214.here hx rfl (hb hby at_167) rfl rfl kS) ?_
    show own_Comes p e below s _ _ _ (T214.setTop (mkF m 169 #[.val (.int p0), .val (.int p1), .val (.int p2), .val (.int p3), .val (.int (1 : Int32)), .val (.int (0 : Int32)), .val (.ref a85), .val (.ref a86), .val (.ref a87), .val (.ref a88), .val (.ref b89), .val (.ref a213), .val (.ref a85), .unset] [(.ref a85)]))
    refine own_by (fun _ kS => XS.astore X214.here hx rfl (hb hby at_169) rfl rfl (l' := #[.val (.int p0), .val (.int p1), .val (.int p2), .val (.int p3), .val (.int (1 : Int32)), .val (.int (0 : Int32)), .val (.ref a85), .val (.ref a86), .val (.ref a87), .val (.ref a88), .val (.ref b89), .val (.ref a213), .val (.ref a85), .val (.ref a85)]) rfl kS) ?_
    show own_Comes p e below s _ _ _ (T214.setTop (mkF m 171 #[.val (.int p0), .val (.int p1), .val (.int p2), .val (.int p3), .val (.int (1 : Int32)), .val (.int (0 : Int32)), .val (.ref a85), .val (.ref a86), .val (.ref a87), .val (.ref a88), .val (.ref b89), .val (.ref a213), .val (.ref a85), .val (.ref a85)] []))
    refine own_by (fun _ kS => XS.goto X214.here hx rfl (pc0 := 171) (pc' := 204) rfl (hb hby at_171) (by decide) (by decide) kS) ?_
    show own_Comes p e below s _ _ _ (T214.setTop (mkF m 204 #[.val (.int p0), .val (.int p1), .val (.int p2), .val (.int p3), .val (.int (1 : Int32)), .val (.int (0 : Int32)), .val (.ref a85), .val (.ref a86), .val (.ref a87), .val (.ref a88), .val (.ref b89), .val (.ref a213), .val (.ref a85), .val (.ref a85)] []))
    refine own_by (fun _ kS => XS.aload X214.here hx rfl (hb hby at_204) rfl rfl kS) ?_
    show own_Comes p e below s _ _ _ (T214.setTop (mkF m 206 #[.val (.int p0), .val (.int p1), .val (.int p2), .val (.int p3), .val (.int (1 : Int32)), .val (.int (0 : Int32)), .val (.ref a85), .val (.ref a86), .val (.ref a87), .val (.ref a88), .val (.ref b89), .val (.ref a213), .val (.ref a85), .val (.ref a85)] [(.ref a85)]))
    refine own_by (fun _ kS => XS.ifnullNo X214.here hx rfl (hb hby at_206) rfl kS) ?_
    show own_Comes p e below s _ _ _ (T214.setTop (mkF m 209 #[.val (.int p0), .val (.int p1), .val (.int p2), .val (.int p3), .val (.int (1 : Int32)), .val (.int (0 : Int32)), .val (.ref a85), .val (.ref a86), .val (.ref a87), .val (.ref a88), .val (.ref b89), .val (.ref a213), .val (.ref a85), .val (.ref a85)] []))
    refine own_by (fun _ kS => XS.aload X214.here hx rfl (hb hby at_209) rfl rfl kS) ?_
    show own_Comes p e below s _ _ _ (T214.setTop (mkF m 211 #[.val (.int p0), .val (.int p1), .val (.int p2), .val (.int p3), .val (.int (1 : Int32)), .val (.int (0 : Int32)), .val (.ref a85), .val (.ref a86), .val (.ref a87), .val (.ref a88), .val (.ref b89), .val (.ref a213), .val (.ref a85), .val (.ref a85)] [(.ref a85)]))
    refine own_by (fun _ kS => XS.aload X214.here hx rfl (hb hby at_211) rfl rfl kS) ?_
    show own_Comes p e below s _ _ _ (T214.setTop (mkF m 213 #[.val (.int p0), .val (.int p1), .val (.int p2), .val (.int p3), .val (.int (1 : Int32)), .val (.int (0 : Int32)), .val (.ref a85), .val (.ref a86), .val (.ref a87), .val (.ref a88), .val (.ref b89), .val (.ref a213), .val (.ref a85), .val (.ref a85)] [(.ref a85), (.ref a85)]))
    obtain ⟨cq216, kq216, q216a, q216b, q216c⟩ := isOf hZ e214 ((c92.keep K93).ext E213)
    obtain ⟨_, _, ⟨T216, L216, k216, n216⟩, -, X216, ⟨Lc216, hQ216, l216, y216, z216⟩, st216⟩ := X214.virtualBack hx (y := (⟨"java/lang/String", "equals", "(Ljava/lang/Object;)Z"⟩ : MethodName)) (z := (⟨"java/lang/String", "equals", "(Ljava/lang/Object;)Z"⟩ : MethodName)) hown (mvT hZ (hw _ (List.mem_of_getElem? (i := 142) rfl))) (mvT hZ (hw _ (List.mem_of_getElem? (i := 143) rfl))) (notFace_of_selects (args := #[]) (mvT hZ (hw _ (List.mem_of_getElem? (i := 145) rfl)))) (mvT hZ (hw _ (List.mem_of_getElem? (i := 145) rfl))) (mvT hZ (hw _ (List.mem_of_getElem? (i := 144) rfl))) (by decide) (backOf (W := 0) (rm26 l Z a0 hw [] a85 T213.heap n0 (Nat.le_trans (Nat.le_trans (Nat.le_trans (Nat.le_trans (Nat.le_trans (Nat.le_trans (Nat.le_trans (Nat.le_trans Z0 E85.1) E86.1) E87.1) E88.1) E89.1) K91.1) K93.1) E213.1)) hZ (hw _ (List.mem_of_getElem? (i := 146) rfl)) (hw _ (List.mem_of_getElem? (i := 8) rfl)) (by decide) (by decide)) q216a q216c (g := (mkF m 213 #[.val (.int p0), .val (.int p1), .val (.int p2), .val (.int p3), .val (.int (1 : Int32)), .val (.int (0 : Int32)), .val (.ref a85), .val (.ref a86), .val (.ref a87), .val (.ref a88), .val (.ref b89), .val (.ref a213), .val (.ref a85), .val (.ref a85)] [(.ref a85), (.ref a85)])) rfl (by rw [hml]; rfl) (Steps.refl _) (argsL := [(.ref a85)]) (rest := []) (lenOf pd__Ljava_lang_Object__Z_838 rfl) rfl (by show 2 * 0 + _ ≤ _; exact Nat.le_of_eq rfl) (hb hby at_213) (fun _ _ => ⟨rfl, e214, (by decide : 16 + 0 ≤ _), (by decide : 50 + 0 ≤ _)⟩)
    dsimp only [Pt.U, Pt.locs, Pt.cells, Pt.slots] at X216 l216 y216 z216 st216 hQ216
    subst l216 y216 z216
    obtain ⟨rfl, N216q, e216q⟩ := hQ216
    have N216 := Fr.app N214 N216q
    refine own_tr st216 ?_
    have e216 : T216.heap = T213.heap := e216q
    show own_Comes p e below s _ _ _ (T216.setTop (mkF m 216 #[.val (.int p0), .val (.int p1), .val (.int p2), .val (.int p3), .val (.int (1 : Int32)), .val (.int (0 : Int32)), .val (.ref a85), .val (.ref a86), .val (.ref a87), .val (.ref a88), .val (.ref b89), .val (.ref a213), .val (.ref a85), .val (.ref a85)] [(.int (1 : Int32))]))
    have hb217 : ¬ ((1 : Int32) = (0 : Int32)) := by decide
    refine own_by (fun _ kS => XS.ifNo X216.here hx rfl (hb hby at_216) rfl ((if0 _ _).trans (feq hb217).1) kS) ?_
    show own_Comes p e below s _ _ _ (T216.setTop (mkF m 219 #[.val (.int p0), .val (.int p1), .val (.int p2), .val (.int p3), .val (.int (1 : Int32)), .val (.int (0 : Int32)), .val (.ref a85), .val (.ref a86), .val (.ref a87), .val (.ref a88), .val (.ref b89), .val (.ref a213), .val (.ref a85), .val (.ref a85)] []))
    refine own_by (fun _ kS => XS.aload X216.here hx rfl (hb hby at_219) rfl rfl kS) ?_
    show own_Comes p e below s _ _ _ (T216.setTop (mkF m 221 #[.val (.int p0), .val (.int p1), .val (.int p2), .val (.int p3), .val (.int (1 : Int32)), .val (.int (0 : Int32)), .val (.ref a85), .val (.ref a86), .val (.ref a87), .val (.ref a88), .val (.ref b89), .val (.ref a213), .val (.ref a85), .val (.ref a85)] [(.ref b89)]))
    obtain ⟨cq218, kq218, q218a, q218b, q218c⟩ := isOf hZ e216 (hL93.ext E213).1
    obtain ⟨_, _, ⟨T218, L218, k218, n218⟩, -, X218, ⟨Lc218, hQ218, l218, y218, z218⟩, st218⟩ := X216.interfaceBack hx (xi := (⟨"java/util/List", "size", "()I"⟩ : MethodName)) (y := (⟨"java/util/ArrayList", "size", "()I"⟩ : MethodName)) hown (mvT hZ (hw _ (List.mem_of_getElem? (i := 147) rfl))) (mvT hZ (hw _ (List.mem_of_getElem? (i := 113) rfl))) (mvT hZ (hw _ (List.mem_of_getElem? (i := 114) rfl))) (mvT hZ (hw _ (List.mem_of_getElem? (i := 115) rfl))) (mvT hZ (hw _ (List.mem_of_getElem? (i := 116) rfl))) (mvT hZ (hw _ (List.mem_of_getElem? (i := 117) rfl))) (mvT hZ (hw _ (List.mem_of_getElem? (i := 118) rfl))) (mvT hZ (hw _ (List.mem_of_getElem? (i := 66) rfl))) (by decide) (backOf (W := 0) (rm21 l Z a0 hw [] b89 (1 : Int32) T213.heap n0 (Nat.le_trans (Nat.le_trans (Nat.le_trans (Nat.le_trans (Nat.le_trans (Nat.le_trans (Nat.le_trans (Nat.le_trans Z0 E85.1) E86.1) E87.1) E88.1) E89.1) K91.1) K93.1) E213.1) (hL93.ext E213).2.2.2.1) hZ (hw _ (List.mem_of_getElem? (i := 119) rfl)) (hw _ (List.mem_of_getElem? (i := 37) rfl)) (by decide) (by decide)) q218a q218b q218c (g := (mkF m 221 #[.val (.int p0), .val (.int p1), .val (.int p2), .val (.int p3), .val (.int (1 : Int32)), .val (.int (0 : Int32)), .val (.ref a85), .val (.ref a86), .val (.ref a87), .val (.ref a88), .val (.ref b89), .val (.ref a213), .val (.ref a85), .val (.ref a85)] [(.ref b89)])) rfl (by rw [hml]; rfl) (Steps.refl _) (argsL := []) (rest := []) (lenOf pd___I_154 rfl) rfl (by show 2 * 0 + _ ≤ _; exact Nat.le_of_eq rfl) (hb hby at_221) (fun _ _ => ⟨rfl, e216, (by decide : 16 + 0 ≤ _), (by decide : 50 + 0 ≤ _)⟩)
    dsimp only [Pt.U, Pt.locs, Pt.cells, Pt.slots] at X218 l218 y218 z218 st218 hQ218
    subst l218 y218 z218
    obtain ⟨rfl, N218q, e218q⟩ := hQ218
    have N218 := Fr.app N216 N218q
    refine own_tr st218 ?_
    have e218 : T218.heap = T213.heap := e218q
    show own_Comes p e below s _ _ _ (T218.setTop (mkF m 226 #[.val (.int p0), .val (.int p1), .val (.int p2), .val (.int p3), .val (.int (1 : Int32)), .val (.int (0 : Int32)), .val (.ref a85), .val (.ref a86), .val (.ref a87), .val (.ref a88), .val (.ref b89), .val (.ref a213), .val (.ref a85), .val (.ref a85)] [(.int (1 : Int32))]))
    refine own_by (fun _ kS => XS.iload X218.here hx rfl (hb hby at_226) rfl kS) ?_
    show own_Comes p e below s _ _ _ (T218.setTop (mkF m 228 #[.val (.int p0), .val (.int p1), .val (.int p2), .val (.int p3), .val (.int (1 : Int32)), .val (.int (0 : Int32)), .val (.ref a85), .val (.ref a86), .val (.ref a87), .val (.ref a88), .val (.ref b89), .val (.ref a213), .val (.ref a85), .val (.ref a85)] [(.int (1 : Int32)), (.int (1 : Int32))]))
    have hb219 : (1 : Int32) = (1 : Int32) := by decide
    refine own_by (fun _ kS => XS.icmpNo X218.here hx rfl (hb hby at_228) rfl (teq hb219).2 kS) ?_
    show own_Comes p e below s _ _ _ (T218.setTop (mkF m 231 #[.val (.int p0), .val (.int p1), .val (.int p2), .val (.int p3), .val (.int (1 : Int32)), .val (.int (0 : Int32)), .val (.ref a85), .val (.ref a86), .val (.ref a87), .val (.ref a88), .val (.ref b89), .val (.ref a213), .val (.ref a85), .val (.ref a85)] []))
    refine own_by (fun _ kS => XS.aload X218.here hx rfl (hb hby at_231) rfl rfl kS) ?_
    show own_Comes p e below s _ _ _ (T218.setTop (mkF m 233 #[.val (.int p0), .val (.int p1), .val (.int p2), .val (.int p3), .val (.int (1 : Int32)), .val (.int (0 : Int32)), .val (.ref a85), .val (.ref a86), .val (.ref a87), .val (.ref a88), .val (.ref b89), .val (.ref a213), .val (.ref a85), .val (.ref a85)] [(.ref b89)]))
    refine own_by (fun _ kS => XS.iconst X218.here hx rfl (hb hby at_233) kS) ?_
    show own_Comes p e below s _ _ _ (T218.setTop (mkF m 234 #[.val (.int p0), .val (.int p1), .val (.int p2), .val (.int p3), .val (.int (1 : Int32)), .val (.int (0 : Int32)), .val (.ref a85), .val (.ref a86), .val (.ref a87), .val (.ref a88), .val (.ref b89), .val (.ref a213), .val (.ref a85), .val (.ref a85)] [(.int (0 : Int32)), (.ref b89)]))
    obtain ⟨cq220, kq220, q220a, q220b, q220c⟩ := isOf hZ e218 (hL93.ext E213).1
    obtain ⟨_, _, ⟨T220, L220, k220, n220⟩, -, X220, ⟨Lc220, hQ220, l220, y220, z220⟩, st220⟩ := X218.interfaceBack hx (xi := (⟨"java/util/List", "get", "(I)Ljava/lang/Object;"⟩ : MethodName)) (y := (⟨"java/util/ArrayList", "get", "(I)Ljava/lang/Object;"⟩ : MethodName)) hown (mvT hZ (hw _ (List.mem_of_getElem? (i := 148) rfl))) (mvT hZ (hw _ (List.mem_of_getElem? (i := 121) rfl))) (mvT hZ (hw _ (List.mem_of_getElem? (i := 122) rfl))) (mvT hZ (hw _ (List.mem_of_getElem? (i := 123) rfl))) (mvT hZ (hw _ (List.mem_of_getElem? (i := 124) rfl))) (mvT hZ (hw _ (List.mem_of_getElem? (i := 125) rfl))) (mvT hZ (hw _ (List.mem_of_getElem? (i := 126) rfl))) (mvT hZ (hw _ (List.mem_of_getElem? (i := 66) rfl))) (by decide) (backOf (W := 0) (rm22 l Z a0 hw [] b89 (0 : Int32) a93 k93 (1 : Int32) [(.ref a85), .null, .null, .null, .null, .null, .null, .null, .null, .null] a85 T213.heap n0 (Nat.le_trans (Nat.le_trans (Nat.le_trans (Nat.le_trans (Nat.le_trans (Nat.le_trans (Nat.le_trans (Nat.le_trans Z0 E85.1) E86.1) E87.1) E88.1) E89.1) K91.1) K93.1) E213.1) (hL93.ext E213) (by decide) (by decide) (by decide) rfl) hZ (hw _ (List.mem_of_getElem? (i := 127) rfl)) (hw _ (List.mem_of_getElem? (i := 37) rfl)) (by decide) (by decide)) q220a q220b q220c (g := (mkF m 234 #[.val (.int p0), .val (.int p1), .val (.int p2), .val (.int p3), .val (.int (1 : Int32)), .val (.int (0 : Int32)), .val (.ref a85), .val (.ref a86), .val (.ref a87), .val (.ref a88), .val (.ref b89), .val (.ref a213), .val (.ref a85), .val (.ref a85)] [(.int (0 : Int32)), (.ref b89)])) rfl (by rw [hml]; rfl) (Steps.refl _) (argsL := [(.int (0 : Int32))]) (rest := []) (lenOf pd__I_Ljava_lang_Object__821 rfl) rfl (by show 2 * 0 + _ ≤ _; exact Nat.le_of_eq rfl) (hb hby at_234) (fun _ _ => ⟨rfl, e218, (by decide : 16 + 0 ≤ _), (by decide : 50 + 0 ≤ _)⟩)
    dsimp only [Pt.U, Pt.locs, Pt.cells, Pt.slots] at X220 l220 y220 z220 st220 hQ220
    subst l220 y220 z220
    obtain ⟨rfl, N220q, e220q⟩ := hQ220
    have N220 := Fr.app N218 N220q
    refine own_tr st220 ?_
    have e220 : T220.heap = T213.heap := e220q
    show own_Comes p e below s _ _ _ (T220.setTop (mkF m 239 #[.val (.int p0), .val (.int p1), .val (.int p2), .val (.int p3), .val (.int (1 : Int32)), .val (.int (0 : Int32)), .val (.ref a85), .val (.ref a86), .val (.ref a87), .val (.ref a88), .val (.ref b89), .val (.ref a213), .val (.ref a85), .val (.ref a85)] [(.ref a85)]))
    obtain ⟨T221, X221, e221, st221⟩ := castY X220 hx hZ hown (hw _ (List.mem_of_getElem? (i := 6) rfl)) e220 (Ins.self ((c92.keep K93).ext E213)) (g := (mkF m 239 #[.val (.int p0), .val (.int p1), .val (.int p2), .val (.int p3), .val (.int (1 : Int32)), .val (.int (0 : Int32)), .val (.ref a85), .val (.ref a86), .val (.ref a87), .val (.ref a88), .val (.ref b89), .val (.ref a213), .val (.ref a85), .val (.ref a85)] [(.ref a85)])) rfl rfl (hb hby at_239)
    refine own_by st221 ?_
    show own_Comes p e below s _ _ _ (T221.setTop (mkF m 242 #[.val (.int p0), .val (.int p1), .val (.int p2), .val (.int p3), .val (.int (1 : Int32)), .val (.int (0 : Int32)), .val (.ref a85), .val (.ref a86), .val (.ref a87), .val (.ref a88), .val (.ref b89), .val (.ref a213), .val (.ref a85), .val (.ref a85)] [(.ref a85)]))
    refine own_by (fun _ kS => XS.aload X221.here hx rfl (hb hby at_242) rfl rfl kS) ?_
    show own_Comes p e below s _ _ _ (T221.setTop (mkF m 244 #[.val (.int p0), .val (.int p1), .val (.int p2), .val (.int p3), .val (.int (1 : Int32)), .val (.int (0 : Int32)), .val (.ref a85), .val (.ref a86), .val (.ref a87), .val (.ref a88), .val (.ref b89), .val (.ref a213), .val (.ref a85), .val (.ref a85)] [(.ref a85), (.ref a85)]))
    obtain ⟨cq222, kq222, q222a, q222b, q222c⟩ := isOf hZ e221 ((c92.keep K93).ext E213)
    obtain ⟨_, _, ⟨T222, L222, k222, n222⟩, -, X222, ⟨Lc222, hQ222, l222, y222, z222⟩, st222⟩ := X221.virtualBack hx (y := (⟨"java/lang/String", "equals", "(Ljava/lang/Object;)Z"⟩ : MethodName)) (z := (⟨"java/lang/String", "equals", "(Ljava/lang/Object;)Z"⟩ : MethodName)) hown (mvT hZ (hw _ (List.mem_of_getElem? (i := 142) rfl))) (mvT hZ (hw _ (List.mem_of_getElem? (i := 143) rfl))) (notFace_of_selects (args := #[]) (mvT hZ (hw _ (List.mem_of_getElem? (i := 145) rfl)))) (mvT hZ (hw _ (List.mem_of_getElem? (i := 145) rfl))) (mvT hZ (hw _ (List.mem_of_getElem? (i := 144) rfl))) (by decide) (backOf (W := 0) (rm26 l Z a0 hw [] a85 T213.heap n0 (Nat.le_trans (Nat.le_trans (Nat.le_trans (Nat.le_trans (Nat.le_trans (Nat.le_trans (Nat.le_trans (Nat.le_trans Z0 E85.1) E86.1) E87.1) E88.1) E89.1) K91.1) K93.1) E213.1)) hZ (hw _ (List.mem_of_getElem? (i := 146) rfl)) (hw _ (List.mem_of_getElem? (i := 8) rfl)) (by decide) (by decide)) q222a q222c (g := (mkF m 244 #[.val (.int p0), .val (.int p1), .val (.int p2), .val (.int p3), .val (.int (1 : Int32)), .val (.int (0 : Int32)), .val (.ref a85), .val (.ref a86), .val (.ref a87), .val (.ref a88), .val (.ref b89), .val (.ref a213), .val (.ref a85), .val (.ref a85)] [(.ref a85), (.ref a85)])) rfl (by rw [hml]; rfl) (Steps.refl _) (argsL := [(.ref a85)]) (rest := []) (lenOf pd__Ljava_lang_Object__Z_838 rfl) rfl (by show 2 * 0 + _ ≤ _; exact Nat.le_of_eq rfl) (hb hby at_244) (fun _ _ => ⟨rfl, e221, (by decide : 16 + 0 ≤ _), (by decide : 50 + 0 ≤ _)⟩)
    dsimp only [Pt.U, Pt.locs, Pt.cells, Pt.slots] at X222 l222 y222 z222 st222 hQ222
    subst l222 y222 z222
    obtain ⟨rfl, N222q, e222q⟩ := hQ222
    have N222 := Fr.app N220 N222q
    refine own_tr st222 ?_
    have e222 : T222.heap = T213.heap := e222q
    show own_Comes p e below s _ _ _ (T222.setTop (mkF m 247 #[.val (.int p0), .val (.int p1), .val (.int p2), .val (.int p3), .val (.int (1 : Int32)), .val (.int (0 : Int32)), .val (.ref a85), .val (.ref a86), .val (.ref a87), .val (.ref a88), .val (.ref b89), .val (.ref a213), .val (.ref a85), .val (.ref a85)] [(.int (1 : Int32))]))
    have hb223 : ¬ ((1 : Int32) = (0 : Int32)) := by decide
    refine own_by (fun _ kS => XS.ifNo X222.here hx rfl (hb hby at_247) rfl ((if0 _ _).trans (feq hb223).1) kS) ?_
    show own_Comes p e below s _ _ _ (T222.setTop (mkF m 250 #[.val (.int p0), .val (.int p1), .val (.int p2), .val (.int p3), .val (.int (1 : Int32)), .val (.int (0 : Int32)), .val (.ref a85), .val (.ref a86), .val (.ref a87), .val (.ref a88), .val (.ref b89), .val (.ref a213), .val (.ref a85), .val (.ref a85)] []))
    refine own_by (fun _ kS => XS.iconst X222.here hx rfl (hb hby at_250) kS) ?_
    show own_Comes p e below s _ _ _ (T222.setTop (mkF m 251 #[.val (.int p0), .val (.int p1), .val (.int p2), .val (.int p3), .val (.int (1 : Int32)), .val (.int (0 : Int32)), .val (.ref a85), .val (.ref a86), .val (.ref a87), .val (.ref a88), .val (.ref b89), .val (.ref a213), .val (.ref a85), .val (.ref a85)] [(.int (1 : Int32))]))
    refine own_by (fun _ kS => XS.goto X222.here hx rfl (pc0 := 251) (pc' := 255) rfl (hb hby at_251) (by decide) (by decide) kS) ?_
    show own_Comes p e below s _ _ _ (T222.setTop (mkF m 255 #[.val (.int p0), .val (.int p1), .val (.int p2), .val (.int p3), .val (.int (1 : Int32)), .val (.int (0 : Int32)), .val (.ref a85), .val (.ref a86), .val (.ref a87), .val (.ref a88), .val (.ref b89), .val (.ref a213), .val (.ref a85), .val (.ref a85)] [(.int (1 : Int32))]))
    refine own_ret X222 (v := some (.int (1 : Int32))) (fun h => by rw [Bd.returns] at h; cases h) Bd.notSynchronized (by decide) (by decide) ?_ (fun fs hr => retN X222 hx (t := .boolean) Bd.returns (by simp) (hb hby at_255) hr)
    rw [e222]; exact ⟨rfl, N222⟩
set_option maxRecDepth 65536 in
set_option maxHeartbeats 40000000 in
theorem comes_1 {Post : Tables → Env → Array Value → State → Outcome → State → Prop} (hpost : ∀ tb e args s v u, (limb_1_1.after args s (.returned v) u = true ∧ limb_1_2.after args s (.returned v) u = true ∧ True) → FrameEnd s (.returned v) u (Jvm.fieldLocs frame_1_writes args s ++ Jvm.arrayLocs frame_1_arrays args s ++ Jvm.staticLocs frame_1_statics s) 40 192 → Post tb e args s (.returned v) u) :
    ArmFor flags0 classFile x code maxLocals ret World_1 tables_1 room_1 Calls_1 rest_1 Pre_1 Post := by
  intro l hfl _ _ p e ha hc hk s m args below hf hA hF happ hP
  obtain ⟨hcalls, hrest, hpre⟩ := hP
  obtain ⟨-, -, -, hnamed, -, -, -, hat⟩ := (Spec.applies_iff hf).mp happ
  obtain ⟨hg, hn⟩ := and_e (Cond.before_iff.mp (show (Jvm.Cond.and given_1 narrow_1).before args s = true from hpre))
  obtain ⟨hcount, hk0⟩ := and_e hg
  obtain ⟨ha0, hk1⟩ := and_e hk0
  obtain ⟨ha1, hk2⟩ := and_e hk1
  obtain ⟨ha2, hk3⟩ := and_e hk2
  have ha3 := hk3
  obtain ⟨w0, w1, w2, w3, rfl⟩ : ∃ w0 w1 w2 w3 : Value, args = #[w0, w1, w2, w3] := by
    have hs : args.size = 4 := by simpa [Cond.value, given_1] using hcount
    obtain ⟨L⟩ := args
    match L, hs with
    | [w0, w1, w2, w3], _ => exact ⟨w0, w1, w2, w3, rfl⟩
  have hw := fun d (hd : d ∈ tables_1) => atoms_spec (ws := Jvm.Cond.code x code maxLocals ret :: tables_1) hat d (List.mem_cons_of_mem _ hd)
  have hfit : Fit s := fun {y c} hc i hi => by
    obtain ⟨ha, rfl⟩ := Array.getElem?_eq_some_iff.mp hc
    have q := List.all_eq_true.mp ((Array.all_eq_true_iff_forall_mem.mp hF) _ (Array.getElem_mem ha)) i (List.mem_range.mpr hi)
    simpa [Array.getElem?_eq_getElem hi] using q
  obtain ⟨hsets, hown0⟩ := atoms_of _ (rest_1_c_eq ▸ (show rest_1_c.before _ s = true from hrest))
  obtain ⟨i0, ei0⟩ := is_v ha0
  obtain rfl : w0 = (.int i0) := Option.some.inj ei0
  obtain ⟨i1, ei1⟩ := is_v ha1
  obtain rfl : w1 = (.int i1) := Option.some.inj ei1
  obtain ⟨i2, ei2⟩ := is_v ha2
  obtain rfl : w2 = (.int i2) := Option.some.inj ei2
  obtain ⟨i3, ei3⟩ := is_v ha3
  obtain rfl : w3 = (.int i3) := Option.some.inj ei3
  obtain ⟨de, ede⟩ := arr_v (Cond.before_iff.mp (hsets _ (List.mem_of_getElem? (i := 15) rfl)))
  have Sd := Sta.start ede (Or.inr ⟨(hw _ (List.mem_of_getElem? (i := 37) rfl)), (hsets _ (List.mem_of_getElem? (i := 11) rfl))⟩)
  obtain ⟨cd, Ad⟩ := Arr.start ede (Cond.before_iff.mp (hsets _ (List.mem_of_getElem? (i := 15) rfl)))
  have ld := eqv_i (Term.int_eval (0)) (Cond.before_iff.mp (hsets _ (List.mem_of_getElem? (i := 17) rfl)))
  obtain ⟨qd1, qd2⟩ := own_len ede Ad ld
  have Vd := Arv.start (vs := []) (dv := .null) hfit Ad qd1 qd2 (by decide) rfl trivial
  obtain ⟨kd, hkd⟩ : ∃ k, k = cd.cls := ⟨_, rfl⟩
  rw [← hkd] at Vd
  obtain ⟨zc, ezc⟩ := is_v (Cond.before_iff.mp (hsets _ (List.mem_of_getElem? (i := 1) rfl)))
  have Sz := Sta.start ezc (Or.inl (hsets _ (List.mem_of_getElem? (i := 0) rfl)))
  have hzc : ¬ zc = 0 := gotF (Cond.eq_ints ezc (Term.int_eval (0))) (not_v (Cond.before_iff.mp (hsets _ (List.mem_of_getElem? (i := 2) rfl))))
  obtain ⟨n, o, h1, h2, h3, _, L, rfl, ⟨rfl, N⟩, hq⟩ := rm0 l s _ hw tables_1 i0 i1 i2 i3 de kd zc s.heap s.heap.size (Nat.le_refl _) (Old.start s) Sd Vd Sz hzc p e ha hc hk s m _ below hf ((Spec.applies_iff_loose hf).mp happ).1 ⟨rfl, State.Warmed39.refl s, rfl⟩ trivial
  refine ⟨n, _, h1, h2, h3, hpost _ _ _ _ _ _ ⟨Cond.after_iff.mpr rfl, Cond.after_iff.mpr (eq_i res_at (Term.int_eval (1)) rfl), trivial⟩ ⟨hq.1, hq.2.1, (hq.2.2.sift fun y hy => Or.inr (N y hy)).mono (by decide) (by decide)⟩⟩
theorem main_1_1 : Claimed_1_1 := comes_1 fun _ _ _ _ _ _ h hF => ⟨h.1, hF⟩
theorem main_1_2 : Claimed_1_2 := comes_1 fun _ _ _ _ _ _ h hF => ⟨h.2.1, hF⟩
end Jvm.Pilot.@@N@@
namespace Jvm.Pilot.@@N@@
open Jvm Jvm.ClassFile Sem Op Lib Jvm.Free Jvm.Stand Jvm.Pilot.@@N@@.Jvm.D
/-! MADE BY PROGRAM (witnessworld.py) out of the Statement's table words and the real class files: 31 classes; the members and pool entries that the words name. The judged class is class 1, her method 1. -/
namespace start1
open Jvm.ClassFile
def u (s : String) : CpInfo := .utf8 (stringToUtf16 s)
/-- a pool by its gaps: so many unusable entries, then the entry; so many at the end -/
def gap : Nat → List CpInfo → List CpInfo
  | 0, r => r
  | n + 1, r => .unusable :: gap n r
def poolList (es : List (Nat × CpInfo)) (last : Nat) : List CpInfo := es.foldr (fun e r => gap e.1 (e.2 :: r)) (gap last [])
def pool (es : List (Nat × CpInfo)) (last : Nat) : Array CpInfo := ⟨poolList es last⟩
def fileOf (pool : Array CpInfo) (this : Nat) (attrs : Array Attribute := #[]) (ms : Array MethodInfo := #[]) (fl : Nat := 33) (sup : Nat := 0) (ifs : Array Nat := #[]) (fds : Array FieldInfo := #[]) : ClassFile where
  minorVersion := 0
  majorVersion := 65
  constantPool := pool
  accessFlags := fl
  thisClass := this
  superClass := sup
  interfaces := ifs
  fields := fds
  methods := ms
  attributes := attrs
def plain (name : String) (sup : Option ClassId) : Class where
  name := name
  kind := .ordinary
  loader := none
  accessFlags := 33
  super := sup
  interfaces := #[]
  cf := none
  fields := #[]
  methods := #[]
  instanceTypes := #[]
  staticTypes := #[]
  resolved := #[]
  callSites := []
  init := .initialized
  statics := none
  mirror := none

def pool0 : Array CpInfo := pool [(5, u "<init>"), (0, u "()V"), (1, .class_ 10), (1, u "java/lang/Object")] 113

def k0c0 : Code := { maxStack := 0, maxLocals := 1, code := object_method_1_code, exceptionTable := #[], attributes := #[] }
def k0m0 : Method := { name := "<init>", desc := "()V", sig := { parameters := [], returnType := none }, accessFlags := 1, code := some k0c0 }
/-- java/lang/Object -/
def k0 : Class := { plain "java/lang/Object" none with
  accessFlags := 33
  interfaces := #[]
  cf := some (fileOf pool0 8 #[] #[{ accessFlags := 1, nameIndex := 5, descriptorIndex := 6, attributes := #[] }] 33 0 #[] #[])
  fields := #[]
  methods := #[k0m0]
  instanceTypes := #[]
  staticTypes := #[]
  resolved := Array.replicate 124 none
  statics := none }

def pool1 : Array CpInfo := pool [(2, .class_ 4), (0, .nameAndType 5 6), (0, u "java/lang/Object"), (0, u "<init>"), (0, u "()V"), (0, .integer 2147483647), (0, .methodref 9 10), (0, .class_ 11), (0, .nameAndType 12 13), (0, u "com/example/callyard/callyard/cli/CommandLineOperandPinLaw"), (0, u "two"), (0, u "(CI)Ljava/lang/String;"), (0, .class_ 15), (0, u "java/util/ArrayList"), (0, .methodref 14 3), (0, .interfaceMethodref 18 19), (0, .class_ 20), (0, .nameAndType 21 22), (0, u "java/util/List"), (0, u "add"), (0, u "(Ljava/lang/Object;)Z"), (0, .methodref 24 25), (0, .class_ 26), (0, .nameAndType 27 28), (0, u "java/lang/String"), (0, u "valueOf"), (0, u "(C)Ljava/lang/String;"), (0, .methodref 30 31), (0, .class_ 32), (0, .nameAndType 33 34), (0, u "com/example/callyard/callyard/cli/CommandLine"), (0, u "operand"), (0, u "(Ljava/util/List;ILjava/lang/String;)Ljava/lang/String;"), (0, .methodref 24 36), (0, .nameAndType 37 22), (0, u "equals"), (0, .interfaceMethodref 18 39), (0, .nameAndType 40 41), (0, u "size"), (0, u "()I"), (0, .interfaceMethodref 18 43), (0, .nameAndType 44 45), (0, u "get"), (0, u "(I)Ljava/lang/Object;"), (0, .methodref 24 47), (0, .nameAndType 5 48), (0, u "([C)V"), (2, u "law"), (0, u "(IIII)Z")] 6

def k1m0 : Method := { name := "<init>", desc := "()V", sig := { parameters := [], returnType := none }, accessFlags := 2, code := none }
def k1c1 : Code := { maxStack := 3, maxLocals := 14, code := code, exceptionTable := #[], attributes := #[] }
def k1m1 : Method := { name := "law", desc := "(IIII)Z", sig := { parameters := [.int, .int, .int, .int], returnType := some .boolean }, accessFlags := 9, code := some k1c1 }
def k1c2 : Code := { maxStack := 3, maxLocals := 3, code := method_3_code, exceptionTable := #[], attributes := #[] }
def k1m2 : Method := { name := "two", desc := "(CI)Ljava/lang/String;", sig := { parameters := [.char, .int], returnType := some (.object "java/lang/String") }, accessFlags := 10, code := some k1c2 }
/-- com/example/callyard/callyard/cli/CommandLineOperandPinLaw -/
def k1 : Class := { plain "com/example/callyard/callyard/cli/CommandLineOperandPinLaw" (some 0) with
  accessFlags := 49
  interfaces := #[]
  cf := some (fileOf pool1 9 #[] #[{ accessFlags := 2, nameIndex := 5, descriptorIndex := 6, attributes := #[] }, { accessFlags := 9, nameIndex := 51, descriptorIndex := 52, attributes := #[] }, { accessFlags := 10, nameIndex := 12, descriptorIndex := 13, attributes := #[] }] 49 2 #[] #[])
  fields := #[]
  methods := #[k1m0, k1m1, k1m2]
  instanceTypes := #[]
  staticTypes := #[]
  resolved := Array.replicate 59 none
  statics := none }

def pool2 : Array CpInfo := pool [(1, .class_ 2), (0, u "java/io/Serializable"), (0, .class_ 4), (0, u "java/lang/Object")] 2

/-- java/io/Serializable -/
def k2 : Class := { plain "java/io/Serializable" (some 0) with
  accessFlags := 1537
  interfaces := #[]
  cf := some (fileOf pool2 1 #[] #[] 1537 3 #[] #[])
  fields := #[]
  methods := #[]
  instanceTypes := #[]
  staticTypes := #[]
  resolved := Array.replicate 7 none
  statics := none }

def pool3 : Array CpInfo := pool [(1, .class_ 2), (0, u "java/lang/Comparable"), (0, .class_ 4), (0, u "java/lang/Object")] 7

/-- java/lang/Comparable -/
def k3 : Class := { plain "java/lang/Comparable" (some 0) with
  accessFlags := 1537
  interfaces := #[]
  cf := some (fileOf pool3 1 #[] #[] 1537 3 #[] #[])
  fields := #[]
  methods := #[]
  instanceTypes := #[]
  staticTypes := #[]
  resolved := Array.replicate 12 none
  statics := none }

def pool4 : Array CpInfo := pool [(2, .class_ 4), (1, u "java/lang/CharSequence"), (42, .class_ 48), (0, u "java/lang/CharSequence$1CodePointIterator"), (10, .class_ 60), (0, u "java/lang/CharSequence$1CharIterator"), (5, .class_ 67), (0, u "java/lang/Object")] 63

/-- java/lang/CharSequence -/
def k4 : Class := { plain "java/lang/CharSequence" (some 0) with
  accessFlags := 1537
  interfaces := #[]
  cf := some (fileOf pool4 2 #[.nestMembers #[47, 59]] #[] 1537 66 #[] #[])
  fields := #[]
  methods := #[]
  instanceTypes := #[]
  staticTypes := #[]
  resolved := Array.replicate 131 none
  statics := none }

def pool5 : Array CpInfo := pool [(1, .class_ 2), (0, u "java/lang/constant/Constable"), (0, .class_ 4), (0, u "java/lang/Object")] 6

/-- java/lang/constant/Constable -/
def k5 : Class := { plain "java/lang/constant/Constable" (some 0) with
  accessFlags := 1537
  interfaces := #[]
  cf := some (fileOf pool5 1 #[] #[] 1537 3 #[] #[])
  fields := #[]
  methods := #[]
  instanceTypes := #[]
  staticTypes := #[]
  resolved := Array.replicate 11 none
  statics := none }

def pool6 : Array CpInfo := pool [(1, .class_ 2), (0, u "java/lang/constant/ConstantDesc"), (0, .class_ 4), (0, u "java/lang/Object")] 32

/-- java/lang/constant/ConstantDesc -/
def k6 : Class := { plain "java/lang/constant/ConstantDesc" (some 0) with
  accessFlags := 1537
  interfaces := #[]
  cf := some (fileOf pool6 1 #[] #[] 1537 3 #[] #[])
  fields := #[]
  methods := #[]
  instanceTypes := #[]
  staticTypes := #[]
  resolved := Array.replicate 37 none
  statics := none }

def pool7 : Array CpInfo := pool [(1, .methodref 2 3), (0, .class_ 4), (0, .nameAndType 5 6), (0, u "java/lang/Object"), (0, u "<init>"), (0, u "()V"), (2, .fieldref 10 11), (0, .class_ 12), (0, .nameAndType 13 14), (0, u "java/lang/String"), (0, u "value"), (0, u "[B"), (0, .fieldref 10 16), (0, .nameAndType 17 18), (0, u "coder"), (0, u "B"), (2, u "hash"), (0, u "I"), (2, u "hashIsZero"), (0, u "Z"), (0, .methodref 10 28), (0, .nameAndType 5 29), (0, u "([CIILjava/lang/Void;)V"), (8, .fieldref 10 39), (0, .nameAndType 40 26), (0, u "COMPACT_STRINGS"), (1, .class_ 44), (1, u "java/lang/StringUTF16"), (0, u "compress"), (1, .methodref 42 48), (0, .nameAndType 49 50), (0, u "coderFromArrayLen"), (0, u "([BI)B"), (2, u "toBytes"), (53, .class_ 109), (1, u "java/lang/StringLatin1"), (67, .methodref 42 178), (0, .nameAndType 45 179), (0, u "([CII)[B"), (29, .methodref 10 210), (0, .nameAndType 5 211), (0, u "([BB)V"), (157, u "(C)Z"), (173, u "equals"), (29, u "(Ljava/lang/Object;)Z"), (1, .class_ 576), (0, u "java/lang/CharSequence"), (22, u "CASE_INSENSITIVE_ORDER"), (0, u "Ljava/util/Comparator;"), (181, u "valueOf"), (0, u "(C)Ljava/lang/String;"), (226, u "([C)V"), (4, .methodref 107 1016), (0, .nameAndType 1017 369), (0, u "canEncode"), (0, .methodref 107 1019), (0, .nameAndType 53 1020), (0, u "(C)[B"), (80, u "serialPersistentFields"), (0, u "[Ljava/io/ObjectStreamField;"), (0, .class_ 1104), (0, u "java/lang/String$CaseInsensitiveComparator"), (1, .class_ 1107), (0, u "java/io/Serializable"), (0, .class_ 1109), (0, u "java/lang/Comparable"), (0, .class_ 1111), (0, u "java/lang/constant/Constable"), (0, .class_ 1113), (0, u "java/lang/constant/ConstantDesc"), (2, u "serialVersionUID"), (0, u "J"), (3, u "REPL"), (0, u "C"), (2, u "LATIN1"), (1, u "UTF16")] 323

def k7m0 : Method := { name := "<init>", desc := "()V", sig := { parameters := [], returnType := none }, accessFlags := 1, code := none }
def k7c1 : Code := { maxStack := 5, maxLocals := 2, code := jdk_42_method_3_code, exceptionTable := #[], attributes := #[] }
def k7m1 : Method := { name := "<init>", desc := "([C)V", sig := { parameters := [(.array .char)], returnType := none }, accessFlags := 1, code := some k7c1 }
def k7c2 : Code := { maxStack := 2, maxLocals := 3, code := jdk_42_method_66_code, exceptionTable := #[], attributes := #[] }
def k7m2 : Method := { name := "equals", desc := "(Ljava/lang/Object;)Z", sig := { parameters := [(.object "java/lang/Object")], returnType := some .boolean }, accessFlags := 1, code := some k7c2 }
def k7c3 : Code := { maxStack := 4, maxLocals := 1, code := jdk_42_method_139_code, exceptionTable := #[], attributes := #[] }
def k7m3 : Method := { name := "valueOf", desc := "(C)Ljava/lang/String;", sig := { parameters := [.char], returnType := some (.object "java/lang/String") }, accessFlags := 9, code := some k7c3 }
def k7c4 : Code := { maxStack := 4, maxLocals := 6, code := jdk_42_method_149_code, exceptionTable := #[], attributes := #[] }
def k7m4 : Method := { name := "<init>", desc := "([CIILjava/lang/Void;)V", sig := { parameters := [(.array .char), .int, .int, (.object "java/lang/Void")], returnType := none }, accessFlags := 2, code := some k7c4 }
def k7c5 : Code := { maxStack := 2, maxLocals := 3, code := jdk_42_method_151_code, exceptionTable := #[], attributes := #[] }
def k7m5 : Method := { name := "<init>", desc := "([BB)V", sig := { parameters := [(.array .byte), .byte], returnType := none }, accessFlags := 0, code := some k7c5 }
/-- java/lang/String -/
def k7 : Class := { plain "java/lang/String" (some 0) with
  accessFlags := 49
  interfaces := #[2, 3, 4, 5, 6]
  cf := some (fileOf pool7 10 #[.nestMembers #[1103]] #[{ accessFlags := 1, nameIndex := 5, descriptorIndex := 6, attributes := #[] }, { accessFlags := 1, nameIndex := 5, descriptorIndex := 1010, attributes := #[] }, { accessFlags := 1, nameIndex := 543, descriptorIndex := 573, attributes := #[] }, { accessFlags := 9, nameIndex := 782, descriptorIndex := 783, attributes := #[] }, { accessFlags := 2, nameIndex := 5, descriptorIndex := 29, attributes := #[] }, { accessFlags := 0, nameIndex := 5, descriptorIndex := 211, attributes := #[] }] 49 2 #[1106, 1108, 575, 1110, 1112] #[{ accessFlags := 18, nameIndex := 13, descriptorIndex := 14, attributes := #[] }, { accessFlags := 18, nameIndex := 17, descriptorIndex := 18, attributes := #[] }, { accessFlags := 2, nameIndex := 21, descriptorIndex := 22, attributes := #[] }, { accessFlags := 2, nameIndex := 25, descriptorIndex := 26, attributes := #[] }, { accessFlags := 26, nameIndex := 1116, descriptorIndex := 1117, attributes := #[] }, { accessFlags := 24, nameIndex := 40, descriptorIndex := 26, attributes := #[] }, { accessFlags := 26, nameIndex := 1101, descriptorIndex := 1102, attributes := #[] }, { accessFlags := 26, nameIndex := 1121, descriptorIndex := 1122, attributes := #[] }, { accessFlags := 25, nameIndex := 599, descriptorIndex := 600, attributes := #[] }, { accessFlags := 24, nameIndex := 1125, descriptorIndex := 18, attributes := #[] }, { accessFlags := 24, nameIndex := 1127, descriptorIndex := 18, attributes := #[] }])
  fields := #[{ name := "value", type := (.array .byte), accessFlags := 18, slot := 0, constantValue := 0 }, { name := "coder", type := .byte, accessFlags := 18, slot := 1, constantValue := 0 }, { name := "hash", type := .int, accessFlags := 2, slot := 2, constantValue := 0 }, { name := "hashIsZero", type := .boolean, accessFlags := 2, slot := 3, constantValue := 0 }, { name := "serialVersionUID", type := .long, accessFlags := 26, slot := 0, constantValue := 0 }, { name := "COMPACT_STRINGS", type := .boolean, accessFlags := 24, slot := 1, constantValue := 0 }, { name := "serialPersistentFields", type := (.array (.object "java/io/ObjectStreamField")), accessFlags := 26, slot := 2, constantValue := 0 }, { name := "REPL", type := .char, accessFlags := 26, slot := 3, constantValue := 0 }, { name := "CASE_INSENSITIVE_ORDER", type := (.object "java/util/Comparator"), accessFlags := 25, slot := 4, constantValue := 0 }, { name := "LATIN1", type := .byte, accessFlags := 24, slot := 5, constantValue := 0 }, { name := "UTF16", type := .byte, accessFlags := 24, slot := 6, constantValue := 0 }]
  methods := #[k7m0, k7m1, k7m2, k7m3, k7m4, k7m5]
  instanceTypes := #[(.array .byte), .byte, .int, .boolean]
  staticTypes := #[.long, .boolean, (.array (.object "java/io/ObjectStreamField")), .char, (.object "java/util/Comparator"), .byte, .byte]
  resolved := Array.replicate 1451 none
  statics := some 0 }

def pool8 : Array CpInfo := pool [(6, .class_ 8), (1, u "java/lang/Object"), (0, u "<init>"), (0, u "()V"), (1, .class_ 14), (1, u "java/lang/StringUTF16"), (31, u "$assertionsDisabled"), (0, u "Z"), (13, u "HI_BYTE_SHIFT"), (0, u "I"), (2, u "LO_BYTE_SHIFT"), (49, .methodref 12 116), (0, .nameAndType 117 118), (0, u "compress"), (0, u "([CI[BII)I"), (3, u "([CII)[B"), (138, u "coderFromArrayLen"), (0, u "([BI)B"), (106, .class_ 371), (1, u "java/lang/StringUTF16$LinesSpliterator"), (58, u "MAX_LENGTH"), (196, .class_ 628), (0, u "java/lang/StringUTF16$CodePointsSpliterator"), (0, .class_ 630), (0, u "java/lang/StringUTF16$CharsSpliterator")] 4

def k8m0 : Method := { name := "<init>", desc := "()V", sig := { parameters := [], returnType := none }, accessFlags := 0, code := none }
def k8c1 : Code := { maxStack := 2, maxLocals := 2, code := jdk_52_method_15_code, exceptionTable := #[], attributes := #[] }
def k8m1 : Method := { name := "coderFromArrayLen", desc := "([BI)B", sig := { parameters := [(.array .byte), .int], returnType := some .byte }, accessFlags := 8, code := some k8c1 }
def k8c2 : Code := { maxStack := 5, maxLocals := 6, code := jdk_52_method_16_code, exceptionTable := #[], attributes := #[] }
def k8m2 : Method := { name := "compress", desc := "([CII)[B", sig := { parameters := [(.array .char), .int, .int], returnType := some (.array .byte) }, accessFlags := 9, code := some k8c2 }
def k8c3 : Code := { maxStack := 3, maxLocals := 7, code := jdk_52_method_21_code, exceptionTable := #[], attributes := #[] }
def k8m3 : Method := { name := "compress", desc := "([CI[BII)I", sig := { parameters := [(.array .char), .int, (.array .byte), .int, .int], returnType := some .int }, accessFlags := 9, code := some k8c3 }
/-- java/lang/StringUTF16 -/
def k8 : Class := { plain "java/lang/StringUTF16" (some 0) with
  accessFlags := 48
  interfaces := #[]
  cf := some (fileOf pool8 12 #[.nestMembers #[627, 629, 369]] #[{ accessFlags := 0, nameIndex := 9, descriptorIndex := 10, attributes := #[] }, { accessFlags := 8, nameIndex := 261, descriptorIndex := 262, attributes := #[] }, { accessFlags := 9, nameIndex := 117, descriptorIndex := 122, attributes := #[] }, { accessFlags := 9, nameIndex := 117, descriptorIndex := 118, attributes := #[] }] 48 6 #[] #[{ accessFlags := 26, nameIndex := 61, descriptorIndex := 62, attributes := #[] }, { accessFlags := 26, nameIndex := 65, descriptorIndex := 62, attributes := #[] }, { accessFlags := 24, nameIndex := 430, descriptorIndex := 62, attributes := #[] }, { accessFlags := 4120, nameIndex := 46, descriptorIndex := 47, attributes := #[] }])
  fields := #[{ name := "HI_BYTE_SHIFT", type := .int, accessFlags := 26, slot := 0, constantValue := 0 }, { name := "LO_BYTE_SHIFT", type := .int, accessFlags := 26, slot := 1, constantValue := 0 }, { name := "MAX_LENGTH", type := .int, accessFlags := 24, slot := 2, constantValue := 0 }, { name := "$assertionsDisabled", type := .boolean, accessFlags := 4120, slot := 3, constantValue := 0 }]
  methods := #[k8m0, k8m1, k8m2, k8m3]
  instanceTypes := #[]
  staticTypes := #[.int, .int, .int, .boolean]
  resolved := Array.replicate 635 none
  statics := none }

def pool9 : Array CpInfo := pool [(8, .class_ 10), (1, u "java/lang/Iterable"), (24, .class_ 36), (0, u "java/lang/Object")] 25

/-- java/lang/Iterable -/
def k9 : Class := { plain "java/lang/Iterable" (some 0) with
  accessFlags := 1537
  interfaces := #[]
  cf := some (fileOf pool9 8 #[] #[] 1537 35 #[] #[])
  fields := #[]
  methods := #[]
  instanceTypes := #[]
  staticTypes := #[]
  resolved := Array.replicate 62 none
  statics := none }

def pool10 : Array CpInfo := pool [(10, .class_ 12), (1, u "java/util/Collection"), (47, .class_ 61), (0, u "java/lang/Object"), (0, .class_ 63), (0, u "java/lang/Iterable")] 51

/-- java/util/Collection -/
def k10 : Class := { plain "java/util/Collection" (some 0) with
  accessFlags := 1537
  interfaces := #[9]
  cf := some (fileOf pool10 10 #[] #[] 1537 60 #[62] #[])
  fields := #[]
  methods := #[]
  instanceTypes := #[]
  staticTypes := #[]
  resolved := Array.replicate 115 none
  statics := none }

def pool11 : Array CpInfo := pool [(1, .methodref 2 3), (0, .class_ 4), (0, .nameAndType 5 6), (0, u "java/lang/Object"), (0, u "<init>"), (0, u "()V"), (1, .class_ 10), (1, u "java/util/AbstractCollection"), (66, .class_ 78), (0, u "java/util/Collection")] 81

def k11c0 : Code := { maxStack := 1, maxLocals := 1, code := jdk_22_method_1_code, exceptionTable := #[], attributes := #[] }
def k11m0 : Method := { name := "<init>", desc := "()V", sig := { parameters := [], returnType := none }, accessFlags := 4, code := some k11c0 }
/-- java/util/AbstractCollection -/
def k11 : Class := { plain "java/util/AbstractCollection" (some 0) with
  accessFlags := 1057
  interfaces := #[10]
  cf := some (fileOf pool11 8 #[] #[{ accessFlags := 4, nameIndex := 5, descriptorIndex := 6, attributes := #[] }] 1057 2 #[77] #[])
  fields := #[]
  methods := #[k11m0]
  instanceTypes := #[]
  staticTypes := #[]
  resolved := Array.replicate 160 none
  statics := none }

def pool12 : Array CpInfo := pool [(8, .class_ 10), (1, u "java/util/SequencedCollection"), (15, .class_ 27), (0, u "java/lang/Object"), (0, .class_ 29), (0, u "java/util/Collection")] 27

/-- java/util/SequencedCollection -/
def k12 : Class := { plain "java/util/SequencedCollection" (some 0) with
  accessFlags := 1537
  interfaces := #[10]
  cf := some (fileOf pool12 8 #[] #[] 1537 26 #[28] #[])
  fields := #[]
  methods := #[]
  instanceTypes := #[]
  staticTypes := #[]
  resolved := Array.replicate 57 none
  statics := none }

def pool13 : Array CpInfo := pool [(8, .class_ 10), (1, u "java/util/List"), (49, u "add"), (3, u "(Ljava/lang/Object;)Z"), (10, u "get"), (0, u "(I)Ljava/lang/Object;"), (2, u "size"), (0, u "()I"), (22, .class_ 104), (0, u "java/lang/Object"), (15, .class_ 121), (0, u "java/util/SequencedCollection")] 129

def k13m0 : Method := { name := "size", desc := "()I", sig := { parameters := [], returnType := some .int }, accessFlags := 1025, code := none }
def k13m1 : Method := { name := "add", desc := "(Ljava/lang/Object;)Z", sig := { parameters := [(.object "java/lang/Object")], returnType := some .boolean }, accessFlags := 1025, code := none }
def k13m2 : Method := { name := "get", desc := "(I)Ljava/lang/Object;", sig := { parameters := [.int], returnType := some (.object "java/lang/Object") }, accessFlags := 1025, code := none }
/-- java/util/List -/
def k13 : Class := { plain "java/util/List" (some 0) with
  accessFlags := 1537
  interfaces := #[12]
  cf := some (fileOf pool13 8 #[] #[{ accessFlags := 1025, nameIndex := 79, descriptorIndex := 80, attributes := #[] }, { accessFlags := 1025, nameIndex := 60, descriptorIndex := 64, attributes := #[] }, { accessFlags := 1025, nameIndex := 75, descriptorIndex := 76, attributes := #[] }] 1537 103 #[120] #[])
  fields := #[]
  methods := #[k13m0, k13m1, k13m2]
  instanceTypes := #[]
  staticTypes := #[]
  resolved := Array.replicate 251 none
  statics := none }

def pool14 : Array CpInfo := pool [(1, .methodref 2 3), (0, .class_ 4), (0, .nameAndType 5 6), (0, u "java/util/AbstractCollection"), (0, u "<init>"), (0, u "()V"), (0, .fieldref 8 9), (0, .class_ 10), (0, .nameAndType 11 12), (0, u "java/util/AbstractList"), (0, u "modCount"), (0, u "I"), (64, .class_ 78), (0, u "java/util/AbstractList$Itr"), (3, .class_ 83), (0, u "java/util/AbstractList$ListItr"), (9, .class_ 94), (0, u "java/util/AbstractList$RandomAccessSubList"), (3, .class_ 99), (0, u "java/util/AbstractList$SubList"), (33, .class_ 134), (0, u "java/util/List"), (73, .class_ 209), (0, u "java/util/AbstractList$SubList$1"), (0, .class_ 211), (0, u "java/util/AbstractList$RandomAccessSpliterator")] 6

def k14c0 : Code := { maxStack := 2, maxLocals := 1, code := jdk_39_method_1_code, exceptionTable := #[], attributes := #[] }
def k14m0 : Method := { name := "<init>", desc := "()V", sig := { parameters := [], returnType := none }, accessFlags := 4, code := some k14c0 }
/-- java/util/AbstractList -/
def k14 : Class := { plain "java/util/AbstractList" (some 11) with
  accessFlags := 1057
  interfaces := #[13]
  cf := some (fileOf pool14 8 #[.nestMembers #[93, 98, 208, 210, 82, 77]] #[{ accessFlags := 4, nameIndex := 5, descriptorIndex := 6, attributes := #[] }] 1057 2 #[133] #[{ accessFlags := 132, nameIndex := 11, descriptorIndex := 12, attributes := #[] }])
  fields := #[{ name := "modCount", type := .int, accessFlags := 132, slot := 0, constantValue := 0 }]
  methods := #[k14m0]
  instanceTypes := #[.int]
  staticTypes := #[]
  resolved := Array.replicate 218 none
  statics := none }

def pool15 : Array CpInfo := pool [(1, .class_ 2), (0, u "java/util/RandomAccess"), (0, .class_ 4), (0, u "java/lang/Object")] 2

/-- java/util/RandomAccess -/
def k15 : Class := { plain "java/util/RandomAccess" (some 0) with
  accessFlags := 1537
  interfaces := #[]
  cf := some (fileOf pool15 1 #[] #[] 1537 3 #[] #[])
  fields := #[]
  methods := #[]
  instanceTypes := #[]
  staticTypes := #[]
  resolved := Array.replicate 7 none
  statics := none }

def pool16 : Array CpInfo := pool [(1, .class_ 2), (0, u "java/lang/Cloneable"), (0, .class_ 4), (0, u "java/lang/Object")] 2

/-- java/lang/Cloneable -/
def k16 : Class := { plain "java/lang/Cloneable" (some 0) with
  accessFlags := 1537
  interfaces := #[]
  cf := some (fileOf pool16 1 #[] #[] 1537 3 #[] #[])
  fields := #[]
  methods := #[]
  instanceTypes := #[]
  staticTypes := #[]
  resolved := Array.replicate 7 none
  statics := none }

def pool17 : Array CpInfo := pool [(1, .methodref 2 3), (0, .class_ 4), (0, .nameAndType 5 6), (0, u "java/util/AbstractList"), (0, u "<init>"), (0, u "()V"), (0, .class_ 8), (0, u "java/lang/Object"), (0, .fieldref 10 11), (0, .class_ 12), (0, .nameAndType 13 14), (0, u "java/util/ArrayList"), (0, u "elementData"), (0, u "[Ljava/lang/Object;"), (2, u "EMPTY_ELEMENTDATA"), (21, .fieldref 10 40), (0, .nameAndType 41 14), (0, u "DEFAULTCAPACITY_EMPTY_ELEMENTDATA"), (5, u "()[Ljava/lang/Object;"), (0, .fieldref 10 49), (0, .nameAndType 50 51), (0, u "size"), (0, u "I"), (11, .fieldref 10 64), (0, .nameAndType 65 51), (0, u "modCount"), (3, .methodref 10 70), (0, .nameAndType 71 72), (0, u "grow"), (0, u "(I)[Ljava/lang/Object;"), (6, .methodref 80 81), (0, .class_ 82), (0, .nameAndType 83 84), (0, u "java/lang/Math"), (0, u "max"), (0, u "(II)I"), (11, u "(Ljava/lang/Object;)Z"), (21, .methodref 119 120), (0, .class_ 121), (0, .nameAndType 122 84), (0, u "java/util/Objects"), (0, u "checkIndex"), (0, .methodref 10 124), (0, .nameAndType 13 125), (0, u "(I)Ljava/lang/Object;"), (3, .methodref 10 130), (0, .nameAndType 71 47), (0, .methodref 10 132), (0, .nameAndType 133 134), (0, u "add"), (0, u "(Ljava/lang/Object;[Ljava/lang/Object;I)V"), (13, .class_ 149), (0, u "java/util/List"), (36, u "()I"), (75, .class_ 263), (0, u "java/util/ArrayList$ListItr"), (3, .class_ 268), (0, u "java/util/ArrayList$Itr"), (7, .class_ 277), (0, u "java/util/ArrayList$SubList"), (12, .class_ 291), (0, u "java/util/ArrayList$ArrayListSpliterator"), (37, .class_ 330), (0, u "java/util/RandomAccess"), (0, .class_ 332), (0, u "java/lang/Cloneable"), (0, .class_ 334), (0, u "java/io/Serializable"), (0, u "serialVersionUID"), (0, u "J"), (3, u "DEFAULT_CAPACITY"), (40, u "get"), (118, .class_ 501), (0, u "java/util/ArrayList$SubList$2"), (0, .class_ 503), (0, u "java/util/ArrayList$SubList$1")] 5

def k17c0 : Code := { maxStack := 2, maxLocals := 1, code := jdk_38_method_2_code, exceptionTable := #[], attributes := #[] }
def k17m0 : Method := { name := "<init>", desc := "()V", sig := { parameters := [], returnType := none }, accessFlags := 1, code := some k17c0 }
def k17c1 : Code := { maxStack := 4, maxLocals := 4, code := jdk_38_method_6_code, exceptionTable := #[], attributes := #[] }
def k17m1 : Method := { name := "grow", desc := "(I)[Ljava/lang/Object;", sig := { parameters := [.int], returnType := some (.array (.object "java/lang/Object")) }, accessFlags := 2, code := some k17c1 }
def k17c2 : Code := { maxStack := 3, maxLocals := 1, code := jdk_38_method_7_code, exceptionTable := #[], attributes := #[] }
def k17m2 : Method := { name := "grow", desc := "()[Ljava/lang/Object;", sig := { parameters := [], returnType := some (.array (.object "java/lang/Object")) }, accessFlags := 2, code := some k17c2 }
def k17c3 : Code := { maxStack := 1, maxLocals := 1, code := jdk_38_method_8_code, exceptionTable := #[], attributes := #[] }
def k17m3 : Method := { name := "size", desc := "()I", sig := { parameters := [], returnType := some .int }, accessFlags := 1, code := some k17c3 }
def k17c4 : Code := { maxStack := 2, maxLocals := 2, code := jdk_38_method_18_code, exceptionTable := #[], attributes := #[] }
def k17m4 : Method := { name := "elementData", desc := "(I)Ljava/lang/Object;", sig := { parameters := [.int], returnType := some (.object "java/lang/Object") }, accessFlags := 0, code := some k17c4 }
def k17c5 : Code := { maxStack := 2, maxLocals := 2, code := jdk_38_method_20_code, exceptionTable := #[], attributes := #[] }
def k17m5 : Method := { name := "get", desc := "(I)Ljava/lang/Object;", sig := { parameters := [.int], returnType := some (.object "java/lang/Object") }, accessFlags := 1, code := some k17c5 }
def k17c6 : Code := { maxStack := 3, maxLocals := 4, code := jdk_38_method_24_code, exceptionTable := #[], attributes := #[] }
def k17m6 : Method := { name := "add", desc := "(Ljava/lang/Object;[Ljava/lang/Object;I)V", sig := { parameters := [(.object "java/lang/Object"), (.array (.object "java/lang/Object")), .int], returnType := none }, accessFlags := 2, code := some k17c6 }
def k17c7 : Code := { maxStack := 4, maxLocals := 2, code := jdk_38_method_25_code, exceptionTable := #[], attributes := #[] }
def k17m7 : Method := { name := "add", desc := "(Ljava/lang/Object;)Z", sig := { parameters := [(.object "java/lang/Object")], returnType := some .boolean }, accessFlags := 1, code := some k17c7 }
/-- java/util/ArrayList -/
def k17 : Class := { plain "java/util/ArrayList" (some 14) with
  accessFlags := 33
  interfaces := #[13, 15, 16, 2]
  cf := some (fileOf pool17 10 #[.nestMembers #[290, 276, 500, 502, 262, 267]] #[{ accessFlags := 1, nameIndex := 5, descriptorIndex := 6, attributes := #[] }, { accessFlags := 2, nameIndex := 71, descriptorIndex := 72, attributes := #[] }, { accessFlags := 2, nameIndex := 71, descriptorIndex := 47, attributes := #[] }, { accessFlags := 1, nameIndex := 50, descriptorIndex := 186, attributes := #[] }, { accessFlags := 0, nameIndex := 13, descriptorIndex := 125, attributes := #[] }, { accessFlags := 1, nameIndex := 381, descriptorIndex := 125, attributes := #[] }, { accessFlags := 2, nameIndex := 133, descriptorIndex := 134, attributes := #[] }, { accessFlags := 1, nameIndex := 133, descriptorIndex := 96, attributes := #[] }] 33 2 #[148, 329, 331, 333] #[{ accessFlags := 26, nameIndex := 335, descriptorIndex := 336, attributes := #[] }, { accessFlags := 26, nameIndex := 340, descriptorIndex := 51, attributes := #[] }, { accessFlags := 26, nameIndex := 17, descriptorIndex := 14, attributes := #[] }, { accessFlags := 26, nameIndex := 41, descriptorIndex := 14, attributes := #[] }, { accessFlags := 128, nameIndex := 13, descriptorIndex := 14, attributes := #[] }, { accessFlags := 2, nameIndex := 50, descriptorIndex := 51, attributes := #[] }])
  fields := #[{ name := "serialVersionUID", type := .long, accessFlags := 26, slot := 0, constantValue := 0 }, { name := "DEFAULT_CAPACITY", type := .int, accessFlags := 26, slot := 1, constantValue := 0 }, { name := "EMPTY_ELEMENTDATA", type := (.array (.object "java/lang/Object")), accessFlags := 26, slot := 2, constantValue := 0 }, { name := "DEFAULTCAPACITY_EMPTY_ELEMENTDATA", type := (.array (.object "java/lang/Object")), accessFlags := 26, slot := 3, constantValue := 0 }, { name := "elementData", type := (.array (.object "java/lang/Object")), accessFlags := 128, slot := 1, constantValue := 0 }, { name := "size", type := .int, accessFlags := 2, slot := 2, constantValue := 0 }]
  methods := #[k17m0, k17m1, k17m2, k17m3, k17m4, k17m5, k17m6, k17m7]
  instanceTypes := #[.int, (.array (.object "java/lang/Object")), .int]
  staticTypes := #[.long, .int, (.array (.object "java/lang/Object")), (.array (.object "java/lang/Object"))]
  resolved := Array.replicate 509 none
  statics := some 1 }

def pool18 : Array CpInfo := pool [(1, .class_ 2), (0, u "java/lang/Math"), (1, .class_ 6), (1, u "java/lang/Object"), (0, u "<init>"), (0, u "()V"), (89, .class_ 100), (1, u "java/lang/Math$RandomNumberGeneratorHolder"), (71, u "negativeZeroFloatBits"), (0, u "J"), (2, u "negativeZeroDoubleBits"), (21, u "max"), (46, u "$assertionsDisabled"), (0, u "Z"), (88, u "(II)I"), (2, u "twoToTheDoubleScaleDown"), (0, u "D"), (4, u "twoToTheDoubleScaleUp"), (9, u "E"), (3, u "PI"), (2, u "TAU"), (2, u "DEGREES_TO_RADIANS"), (0, u "RADIANS_TO_DEGREES")] 94

def k18m0 : Method := { name := "<init>", desc := "()V", sig := { parameters := [], returnType := none }, accessFlags := 2, code := none }
def k18c1 : Code := { maxStack := 2, maxLocals := 2, code := jdk_29_method_65_code, exceptionTable := #[], attributes := #[] }
def k18m1 : Method := { name := "max", desc := "(II)I", sig := { parameters := [.int, .int], returnType := some .int }, accessFlags := 9, code := some k18c1 }
/-- java/lang/Math -/
def k18 : Class := { plain "java/lang/Math" (some 0) with
  accessFlags := 49
  interfaces := #[]
  cf := some (fileOf pool18 1 #[.nestMembers #[98]] #[{ accessFlags := 2, nameIndex := 7, descriptorIndex := 8, attributes := #[] }, { accessFlags := 9, nameIndex := 198, descriptorIndex := 335, attributes := #[] }] 49 4 #[] #[{ accessFlags := 25, nameIndex := 354, descriptorIndex := 339, attributes := #[] }, { accessFlags := 25, nameIndex := 358, descriptorIndex := 339, attributes := #[] }, { accessFlags := 25, nameIndex := 361, descriptorIndex := 339, attributes := #[] }, { accessFlags := 26, nameIndex := 364, descriptorIndex := 339, attributes := #[] }, { accessFlags := 26, nameIndex := 365, descriptorIndex := 339, attributes := #[] }, { accessFlags := 26, nameIndex := 172, descriptorIndex := 173, attributes := #[] }, { accessFlags := 26, nameIndex := 176, descriptorIndex := 173, attributes := #[] }, { accessFlags := 8, nameIndex := 344, descriptorIndex := 339, attributes := #[] }, { accessFlags := 8, nameIndex := 338, descriptorIndex := 339, attributes := #[] }, { accessFlags := 4120, nameIndex := 245, descriptorIndex := 246, attributes := #[] }])
  fields := #[{ name := "E", type := .double, accessFlags := 25, slot := 0, constantValue := 0 }, { name := "PI", type := .double, accessFlags := 25, slot := 1, constantValue := 0 }, { name := "TAU", type := .double, accessFlags := 25, slot := 2, constantValue := 0 }, { name := "DEGREES_TO_RADIANS", type := .double, accessFlags := 26, slot := 3, constantValue := 0 }, { name := "RADIANS_TO_DEGREES", type := .double, accessFlags := 26, slot := 4, constantValue := 0 }, { name := "negativeZeroFloatBits", type := .long, accessFlags := 26, slot := 5, constantValue := 0 }, { name := "negativeZeroDoubleBits", type := .long, accessFlags := 26, slot := 6, constantValue := 0 }, { name := "twoToTheDoubleScaleUp", type := .double, accessFlags := 8, slot := 7, constantValue := 0 }, { name := "twoToTheDoubleScaleDown", type := .double, accessFlags := 8, slot := 8, constantValue := 0 }, { name := "$assertionsDisabled", type := .boolean, accessFlags := 4120, slot := 9, constantValue := 0 }]
  methods := #[k18m0, k18m1]
  instanceTypes := #[]
  staticTypes := #[.double, .double, .double, .double, .double, .long, .long, .double, .double, .boolean]
  resolved := Array.replicate 460 none
  statics := none }

def pool19 : Array CpInfo := pool [(4, .class_ 6), (1, u "java/lang/Object"), (0, u "<init>"), (0, u "()V"), (5, .class_ 16), (1, u "java/lang/StringLatin1"), (73, u "canEncode"), (14, u "(C)Z"), (15, u "$assertionsDisabled"), (0, u "Z"), (98, .class_ 223), (1, u "java/lang/StringLatin1$LinesSpliterator"), (156, u "toBytes"), (1, u "(C)[B"), (7, .class_ 391), (0, u "java/lang/StringLatin1$CharsSpliterator")] 3

def k19m0 : Method := { name := "<init>", desc := "()V", sig := { parameters := [], returnType := none }, accessFlags := 0, code := none }
def k19c1 : Code := { maxStack := 2, maxLocals := 1, code := jdk_43_method_3_code, exceptionTable := #[], attributes := #[] }
def k19m1 : Method := { name := "canEncode", desc := "(C)Z", sig := { parameters := [.char], returnType := some .boolean }, accessFlags := 9, code := some k19c1 }
def k19c2 : Code := { maxStack := 4, maxLocals := 1, code := jdk_43_method_46_code, exceptionTable := #[], attributes := #[] }
def k19m2 : Method := { name := "toBytes", desc := "(C)[B", sig := { parameters := [.char], returnType := some (.array .byte) }, accessFlags := 9, code := some k19c2 }
/-- java/lang/StringLatin1 -/
def k19 : Class := { plain "java/lang/StringLatin1" (some 0) with
  accessFlags := 48
  interfaces := #[]
  cf := some (fileOf pool19 14 #[.nestMembers #[390, 221]] #[{ accessFlags := 0, nameIndex := 7, descriptorIndex := 8, attributes := #[] }, { accessFlags := 9, nameIndex := 90, descriptorIndex := 105, attributes := #[] }, { accessFlags := 9, nameIndex := 380, descriptorIndex := 382, attributes := #[] }] 48 4 #[] #[{ accessFlags := 4120, nameIndex := 121, descriptorIndex := 122, attributes := #[] }])
  fields := #[{ name := "$assertionsDisabled", type := .boolean, accessFlags := 4120, slot := 0, constantValue := 0 }]
  methods := #[k19m0, k19m1, k19m2]
  instanceTypes := #[]
  staticTypes := #[.boolean]
  resolved := Array.replicate 395 none
  statics := none }

def pool20 : Array CpInfo := pool [(1, .class_ 2), (0, u "com/example/callyard/callyard/cli/CommandLine"), (1, .class_ 6), (1, u "java/lang/Object"), (0, u "<init>"), (0, u "()V"), (5, .class_ 16), (1, u "java/lang/String"), (16, .interfaceMethodref 34 35), (0, .class_ 36), (0, .nameAndType 37 38), (0, u "java/util/List"), (0, u "size"), (0, u "()I"), (0, .interfaceMethodref 34 40), (0, .nameAndType 41 42), (0, u "get"), (0, u "(I)Ljava/lang/Object;"), (12, u "CLASSPATH"), (0, u "Ljava/lang/String;"), (3, u "ADDRESS"), (2, u "CLASSPATH_NEEDS"), (2, u "ADDRESS_NEEDS"), (10, u "operand"), (0, u "(Ljava/util/List;ILjava/lang/String;)Ljava/lang/String;")] 22

def k20m0 : Method := { name := "<init>", desc := "()V", sig := { parameters := [], returnType := none }, accessFlags := 2, code := none }
def k20c1 : Code := { maxStack := 3, maxLocals := 3, code := prog_2_method_4_code, exceptionTable := #[], attributes := #[] }
def k20m1 : Method := { name := "operand", desc := "(Ljava/util/List;ILjava/lang/String;)Ljava/lang/String;", sig := { parameters := [(.object "java/util/List"), .int, (.object "java/lang/String")], returnType := some (.object "java/lang/String") }, accessFlags := 8, code := some k20c1 }
/-- com/example/callyard/callyard/cli/CommandLine -/
def k20 : Class := { plain "com/example/callyard/callyard/cli/CommandLine" (some 0) with
  accessFlags := 48
  interfaces := #[]
  cf := some (fileOf pool20 1 #[] #[{ accessFlags := 2, nameIndex := 7, descriptorIndex := 8, attributes := #[] }, { accessFlags := 8, nameIndex := 77, descriptorIndex := 78, attributes := #[] }] 48 4 #[] #[{ accessFlags := 24, nameIndex := 55, descriptorIndex := 56, attributes := #[] }, { accessFlags := 24, nameIndex := 60, descriptorIndex := 56, attributes := #[] }, { accessFlags := 24, nameIndex := 63, descriptorIndex := 56, attributes := #[] }, { accessFlags := 24, nameIndex := 66, descriptorIndex := 56, attributes := #[] }])
  fields := #[{ name := "CLASSPATH", type := (.object "java/lang/String"), accessFlags := 24, slot := 0, constantValue := 0 }, { name := "ADDRESS", type := (.object "java/lang/String"), accessFlags := 24, slot := 1, constantValue := 0 }, { name := "CLASSPATH_NEEDS", type := (.object "java/lang/String"), accessFlags := 24, slot := 2, constantValue := 0 }, { name := "ADDRESS_NEEDS", type := (.object "java/lang/String"), accessFlags := 24, slot := 3, constantValue := 0 }]
  methods := #[k20m0, k20m1]
  instanceTypes := #[]
  staticTypes := #[(.object "java/lang/String"), (.object "java/lang/String"), (.object "java/lang/String"), (.object "java/lang/String")]
  resolved := Array.replicate 101 none
  statics := none }

def pool21 : Array CpInfo := pool [(2, .class_ 4), (1, u "java/lang/Object"), (0, u "<init>"), (0, u "()V"), (35, .class_ 44), (1, u "java/util/Objects"), (60, .methodref 106 107), (0, .class_ 108), (0, .nameAndType 109 110), (0, u "jdk/internal/util/Preconditions"), (0, u "checkIndex"), (0, u "(IILjava/util/function/BiFunction;)I"), (60, u "(II)I")] 12

def k21m0 : Method := { name := "<init>", desc := "()V", sig := { parameters := [], returnType := none }, accessFlags := 2, code := none }
def k21c1 : Code := { maxStack := 3, maxLocals := 2, code := jdk_31_method_17_code, exceptionTable := #[], attributes := #[] }
def k21m1 : Method := { name := "checkIndex", desc := "(II)I", sig := { parameters := [.int, .int], returnType := some .int }, accessFlags := 9, code := some k21c1 }
/-- java/util/Objects -/
def k21 : Class := { plain "java/util/Objects" (some 0) with
  accessFlags := 49
  interfaces := #[]
  cf := some (fileOf pool21 42 #[] #[{ accessFlags := 2, nameIndex := 5, descriptorIndex := 6, attributes := #[] }, { accessFlags := 9, nameIndex := 109, descriptorIndex := 171, attributes := #[] }] 49 2 #[] #[])
  fields := #[]
  methods := #[k21m0, k21m1]
  instanceTypes := #[]
  staticTypes := #[]
  resolved := Array.replicate 184 none
  statics := none }

def pool22 : Array CpInfo := pool [(2, .class_ 4), (1, u "java/lang/Object"), (0, u "<init>"), (0, u "()V"), (17, .class_ 26), (1, u "jdk/internal/util/Preconditions"), (6, u "checkIndex"), (21, .class_ 56), (0, u "jdk/internal/util/Preconditions$4"), (57, .class_ 115), (0, u "jdk/internal/util/Preconditions$1"), (7, u "SIOOBE_FORMATTER"), (0, u "Ljava/util/function/BiFunction;"), (0, .class_ 126), (0, u "jdk/internal/util/Preconditions$2"), (3, u "AIOOBE_FORMATTER"), (0, .class_ 132), (0, u "jdk/internal/util/Preconditions$3"), (3, u "IOOBE_FORMATTER"), (41, u "(IILjava/util/function/BiFunction;)I")] 15

def k22m0 : Method := { name := "<init>", desc := "()V", sig := { parameters := [], returnType := none }, accessFlags := 1, code := none }
def k22c1 : Code := { maxStack := 3, maxLocals := 3, code := jdk_41_method_11_code, exceptionTable := #[], attributes := #[] }
def k22m1 : Method := { name := "checkIndex", desc := "(IILjava/util/function/BiFunction;)I", sig := { parameters := [.int, .int, (.object "java/util/function/BiFunction")], returnType := some .int }, accessFlags := 9, code := some k22c1 }
/-- jdk/internal/util/Preconditions -/
def k22 : Class := { plain "jdk/internal/util/Preconditions" (some 0) with
  accessFlags := 33
  interfaces := #[]
  cf := some (fileOf pool22 24 #[.nestMembers #[55, 131, 125, 114]] #[{ accessFlags := 1, nameIndex := 5, descriptorIndex := 6, attributes := #[] }, { accessFlags := 9, nameIndex := 33, descriptorIndex := 178, attributes := #[] }] 33 2 #[] #[{ accessFlags := 25, nameIndex := 123, descriptorIndex := 124, attributes := #[] }, { accessFlags := 25, nameIndex := 130, descriptorIndex := 124, attributes := #[] }, { accessFlags := 25, nameIndex := 136, descriptorIndex := 124, attributes := #[] }])
  fields := #[{ name := "SIOOBE_FORMATTER", type := (.object "java/util/function/BiFunction"), accessFlags := 25, slot := 0, constantValue := 0 }, { name := "AIOOBE_FORMATTER", type := (.object "java/util/function/BiFunction"), accessFlags := 25, slot := 1, constantValue := 0 }, { name := "IOOBE_FORMATTER", type := (.object "java/util/function/BiFunction"), accessFlags := 25, slot := 2, constantValue := 0 }]
  methods := #[k22m0, k22m1]
  instanceTypes := #[]
  staticTypes := #[(.object "java/util/function/BiFunction"), (.object "java/util/function/BiFunction"), (.object "java/util/function/BiFunction")]
  resolved := Array.replicate 194 none
  statics := some 2 }

def pool23 : Array CpInfo := pool [(9, u "<init>"), (6, .class_ 18), (1, u "java/lang/Object"), (0, u "()V"), (1, .class_ 23), (1, u "jdk/internal/util/ArraysSupport"), (0, u "LOG2_ARRAY_LONG_INDEX_SCALE"), (0, u "I"), (2, u "U"), (0, u "Ljdk/internal/misc/Unsafe;"), (8, u "BIG_ENDIAN"), (0, u "Z"), (8, u "LOG2_BYTE_BIT_SIZE"), (4, u "LOG2_ARRAY_INT_INDEX_SCALE"), (54, u "JLA"), (0, u "Ljdk/internal/access/JavaLangAccess;"), (11, u "LOG2_ARRAY_BOOLEAN_INDEX_SCALE"), (9, u "LOG2_ARRAY_BYTE_INDEX_SCALE"), (5, u "LOG2_ARRAY_CHAR_INDEX_SCALE"), (5, u "LOG2_ARRAY_SHORT_INDEX_SCALE"), (18, u "LOG2_ARRAY_FLOAT_INDEX_SCALE"), (24, u "LOG2_ARRAY_DOUBLE_INDEX_SCALE"), (89, u "T_BOOLEAN"), (2, u "T_CHAR"), (1, u "T_FLOAT"), (1, u "T_DOUBLE"), (1, u "T_BYTE"), (1, u "T_SHORT"), (1, u "T_INT"), (1, u "T_LONG"), (1, u "SOFT_MAX_ARRAY_LENGTH")] 83

def k23m0 : Method := { name := "<init>", desc := "()V", sig := { parameters := [], returnType := none }, accessFlags := 2, code := none }
/-- jdk/internal/util/ArraysSupport -/
def k23 : Class := { plain "jdk/internal/util/ArraysSupport" (some 0) with
  accessFlags := 33
  interfaces := #[]
  cf := some (fileOf pool23 21 #[] #[{ accessFlags := 2, nameIndex := 9, descriptorIndex := 19, attributes := #[] }] 33 16 #[] #[{ accessFlags := 24, nameIndex := 28, descriptorIndex := 29, attributes := #[] }, { accessFlags := 26, nameIndex := 38, descriptorIndex := 39, attributes := #[] }, { accessFlags := 25, nameIndex := 121, descriptorIndex := 25, attributes := #[] }, { accessFlags := 25, nameIndex := 131, descriptorIndex := 25, attributes := #[] }, { accessFlags := 25, nameIndex := 137, descriptorIndex := 25, attributes := #[] }, { accessFlags := 25, nameIndex := 143, descriptorIndex := 25, attributes := #[] }, { accessFlags := 25, nameIndex := 53, descriptorIndex := 25, attributes := #[] }, { accessFlags := 25, nameIndex := 24, descriptorIndex := 25, attributes := #[] }, { accessFlags := 25, nameIndex := 162, descriptorIndex := 25, attributes := #[] }, { accessFlags := 25, nameIndex := 187, descriptorIndex := 25, attributes := #[] }, { accessFlags := 26, nameIndex := 48, descriptorIndex := 25, attributes := #[] }, { accessFlags := 25, nameIndex := 277, descriptorIndex := 25, attributes := #[] }, { accessFlags := 25, nameIndex := 280, descriptorIndex := 25, attributes := #[] }, { accessFlags := 25, nameIndex := 282, descriptorIndex := 25, attributes := #[] }, { accessFlags := 25, nameIndex := 284, descriptorIndex := 25, attributes := #[] }, { accessFlags := 25, nameIndex := 286, descriptorIndex := 25, attributes := #[] }, { accessFlags := 25, nameIndex := 288, descriptorIndex := 25, attributes := #[] }, { accessFlags := 25, nameIndex := 290, descriptorIndex := 25, attributes := #[] }, { accessFlags := 25, nameIndex := 292, descriptorIndex := 25, attributes := #[] }, { accessFlags := 26, nameIndex := 108, descriptorIndex := 109, attributes := #[] }, { accessFlags := 25, nameIndex := 294, descriptorIndex := 25, attributes := #[] }])
  fields := #[{ name := "U", type := (.object "jdk/internal/misc/Unsafe"), accessFlags := 24, slot := 0, constantValue := 0 }, { name := "BIG_ENDIAN", type := .boolean, accessFlags := 26, slot := 1, constantValue := 0 }, { name := "LOG2_ARRAY_BOOLEAN_INDEX_SCALE", type := .int, accessFlags := 25, slot := 2, constantValue := 0 }, { name := "LOG2_ARRAY_BYTE_INDEX_SCALE", type := .int, accessFlags := 25, slot := 3, constantValue := 0 }, { name := "LOG2_ARRAY_CHAR_INDEX_SCALE", type := .int, accessFlags := 25, slot := 4, constantValue := 0 }, { name := "LOG2_ARRAY_SHORT_INDEX_SCALE", type := .int, accessFlags := 25, slot := 5, constantValue := 0 }, { name := "LOG2_ARRAY_INT_INDEX_SCALE", type := .int, accessFlags := 25, slot := 6, constantValue := 0 }, { name := "LOG2_ARRAY_LONG_INDEX_SCALE", type := .int, accessFlags := 25, slot := 7, constantValue := 0 }, { name := "LOG2_ARRAY_FLOAT_INDEX_SCALE", type := .int, accessFlags := 25, slot := 8, constantValue := 0 }, { name := "LOG2_ARRAY_DOUBLE_INDEX_SCALE", type := .int, accessFlags := 25, slot := 9, constantValue := 0 }, { name := "LOG2_BYTE_BIT_SIZE", type := .int, accessFlags := 26, slot := 10, constantValue := 0 }, { name := "T_BOOLEAN", type := .int, accessFlags := 25, slot := 11, constantValue := 0 }, { name := "T_CHAR", type := .int, accessFlags := 25, slot := 12, constantValue := 0 }, { name := "T_FLOAT", type := .int, accessFlags := 25, slot := 13, constantValue := 0 }, { name := "T_DOUBLE", type := .int, accessFlags := 25, slot := 14, constantValue := 0 }, { name := "T_BYTE", type := .int, accessFlags := 25, slot := 15, constantValue := 0 }, { name := "T_SHORT", type := .int, accessFlags := 25, slot := 16, constantValue := 0 }, { name := "T_INT", type := .int, accessFlags := 25, slot := 17, constantValue := 0 }, { name := "T_LONG", type := .int, accessFlags := 25, slot := 18, constantValue := 0 }, { name := "JLA", type := (.object "jdk/internal/access/JavaLangAccess"), accessFlags := 26, slot := 19, constantValue := 0 }, { name := "SOFT_MAX_ARRAY_LENGTH", type := .int, accessFlags := 25, slot := 20, constantValue := 0 }]
  methods := #[k23m0]
  instanceTypes := #[]
  staticTypes := #[(.object "jdk/internal/misc/Unsafe"), .boolean, .int, .int, .int, .int, .int, .int, .int, .int, .int, .int, .int, .int, .int, .int, .int, .int, .int, (.object "jdk/internal/access/JavaLangAccess"), .int]
  resolved := Array.replicate 378 none
  statics := none }

/-- the primitive byte -/
def k24 : Class := { plain "byte" none with kind := .primitive 'B', accessFlags := 0x411 }
/-- [B -/
def k25 : Class := { plain "[B" (some 0) with kind := .array 24 .byte, interfaces := #[16, 2], accessFlags := 1041 }

/-- the primitive char -/
def k26 : Class := { plain "char" none with kind := .primitive 'C', accessFlags := 0x411 }
/-- [C -/
def k27 : Class := { plain "[C" (some 0) with kind := .array 26 .char, interfaces := #[16, 2], accessFlags := 1041 }

/-- the primitive int -/
def k28 : Class := { plain "int" none with kind := .primitive 'I', accessFlags := 0x411 }
/-- [I -/
def k29 : Class := { plain "[I" (some 0) with kind := .array 28 .int, interfaces := #[16, 2], accessFlags := 1041 }

/-- [Ljava/lang/Object; -/
def k30 : Class := { plain "[Ljava/lang/Object;" (some 0) with kind := .array 0 (.object "java/lang/Object"), interfaces := #[16, 2], accessFlags := 1041 }

def heap : Heap := #[{ cls := 7, slots := #[.long 0, .int 1, .null, .int 0, .null, .int 0, .int 0], vm := .statics 7 },
  { cls := 17, slots := #[.long 0, .int 0, .ref 3, .ref 4], vm := .statics 17 },
  { cls := 22, slots := #[.null, .null, .null], vm := .statics 22 },
  { cls := 30, slots := #[], vm := .none },
  { cls := 30, slots := #[], vm := .none }]
def classes : Array Class := #[k0, k1, k2, k3, k4, k5, k6, k7, k8, k9, k10, k11, k12, k13, k14, k15, k16, k17, k18, k19, k20, k21, k22, k23, k24, k25, k26, k27, k28, k29, k30]
def interned : List (Array UInt16 × Addr) := []
def slotsUsed : Nat := 14
def theMethod : MethodId := ⟨1, 1⟩
def args0 : Array Value := #[.int 5, .int 3, .int 3, .int 0]
def aboutOver (below : List Frame) : State where
  vm := { classes := classes, interned := interned.toArray }
  heap := heap
  slotsUsed := slotsUsed
  threads := #[{ frames := .invoking theMethod args0 :: below }]
def below0 : List Frame := [.native { method := ⟨0, 0⟩, args := #[] }]
def about1 : State := aboutOver below0
def p0 : Program := .bare "" "" ""
def e0 : Env := launch0.env 0 0 0
theorem w_frames : about1.frames = Frame.invoking theMethod args0 :: below0 := rfl
set_option maxRecDepth 65536 in
theorem w_args : argsFit about1.vm theMethod args0 = true := by decide +kernel
set_option maxRecDepth 65536 in
theorem w_heap : heapFits about1 = true := by decide +kernel
set_option maxRecDepth 65536 in
theorem w_runnable : about1.curStatus? = some .runnable := by decide +kernel
set_option maxRecDepth 65536 in
theorem w_alone : about1.alone = true := by decide +kernel
set_option maxRecDepth 65536 in
theorem w_named : about1.methodNamed? x = some theMethod := by decide +kernel
set_option maxRecDepth 65536 in
theorem w_hears : about1.hears theMethod below0 = true := by decide +kernel
set_option maxRecDepth 65536 in
theorem w_ripe : about1.ripe theMethod args0 below0 = true := by decide +kernel
theorem w_running : about1.status = .running := rfl
set_option maxRecDepth 65536 in
theorem w_room : about1.hasRoom e0.platform room_1 = true :=
  launch0.hasRoom_least _ room_1 (by decide +kernel) (by decide +kernel) (by decide +kernel) (by decide +kernel) (by decide +kernel) (by decide +kernel)
theorem allAtoms_all (ts : List Jvm.Cond) (a : Array Jvm.Value) (st : Jvm.State) : (allAtoms ts).before a st = ts.all (fun c => c.before a st) := by
  induction ts with
  | nil => rfl
  | cons c t ih =>
    show (Jvm.Cond.and c (allAtoms t)).before a st = _
    rw [Jvm.Cond.before_and, ih, List.all_cons]
def words1 : List Jvm.Cond := Jvm.Cond.code x code maxLocals ret :: tables_1
/-- a 'code' word, met by the world's own term for the bytes: nothing is compared byte by byte -/
theorem code_word {y : MethodName} {bytes : ByteArray} {mx : Nat} {rt : Option FieldType} {a : Array Value} {s : State} {m : MethodId} {meth : Method} {c : Code} (h1 : s.methodNamed? y = some m) (h2 : s.vm.method? m = some meth) (h3 : meth.code = some c) (h4 : c.code = bytes)
    (h5 : (c.maxLocals == mx && c.exceptionTable.isEmpty && decide (c.maxStack ≤ mostOperands) && decide (meth.sig.returnType = rt) && !meth.locks && decide (parseMethodDescriptor y.desc = some meth.sig)) = true) : (Jvm.Cond.code y bytes mx rt).before a s = true := by
  simp only [Bool.and_eq_true, beq_iff_eq, Bool.not_eq_true', decide_eq_true_eq] at h5
  obtain ⟨⟨⟨⟨⟨g1, g2⟩, g3⟩, g4⟩, g5⟩, g6⟩ := h5
  simp [Cond.before, Cond.holds, Cond.value, h1, h2, h3, h4, g1, g2, g3, g4, g5, g6]
def isCode : Jvm.Cond → Bool
  | .code _ _ _ _ => true
  | _ => false
theorem all_split {L : List Jvm.Cond} {P : Jvm.Cond → Bool} (h1 : L.all (fun c => isCode c || P c) = true) (h2 : ∀ c ∈ L.filter isCode, P c = true) : L.all P = true := by
  refine List.all_eq_true.mpr fun c hc => ?_
  have h := List.all_eq_true.mp h1 c hc
  rcases Bool.eq_false_or_eq_true (isCode c) with hi | hi
  · exact h2 c (List.mem_filter.mpr ⟨hc, hi⟩)
  · simpa [hi] using h
set_option maxRecDepth 65536 in
theorem w_c0 : (Jvm.Cond.code x code maxLocals ret).before args0 about1 = true := code_word (m := ⟨1, 1⟩) (meth := k1m1) (c := k1c1) (by decide +kernel) rfl rfl rfl (by decide +kernel)
set_option maxRecDepth 65536 in
theorem w_c1 : (Jvm.Cond.code ({ cls := "com/example/callyard/callyard/cli/CommandLineOperandPinLaw", name := "two", desc := "(CI)Ljava/lang/String;" } : Jvm.MethodName) method_3_code (3 : Nat) (Option.some (Jvm.ClassFile.FieldType.object "java/lang/String"))).before args0 about1 = true := code_word (m := ⟨1, 2⟩) (meth := k1m2) (c := k1c2) (by decide +kernel) rfl rfl rfl (by decide +kernel)
set_option maxRecDepth 65536 in
theorem w_c2 : (Jvm.Cond.code ({ cls := "java/lang/String", name := "<init>", desc := "([C)V" } : Jvm.MethodName) jdk_42_method_3_code (2 : Nat) (Option.none : Option Jvm.ClassFile.FieldType)).before args0 about1 = true := code_word (m := ⟨7, 1⟩) (meth := k7m1) (c := k7c1) (by decide +kernel) rfl rfl rfl (by decide +kernel)
set_option maxRecDepth 65536 in
theorem w_c3 : (Jvm.Cond.code ({ cls := "java/lang/String", name := "<init>", desc := "([CIILjava/lang/Void;)V" } : Jvm.MethodName) jdk_42_method_149_code (6 : Nat) (Option.none : Option Jvm.ClassFile.FieldType)).before args0 about1 = true := code_word (m := ⟨7, 4⟩) (meth := k7m4) (c := k7c4) (by decide +kernel) rfl rfl rfl (by decide +kernel)
set_option maxRecDepth 65536 in
theorem w_c4 : (Jvm.Cond.code ({ cls := "java/lang/Object", name := "<init>", desc := "()V" } : Jvm.MethodName) object_method_1_code (1 : Nat) (Option.none : Option Jvm.ClassFile.FieldType)).before args0 about1 = true := code_word (m := ⟨0, 0⟩) (meth := k0m0) (c := k0c0) (by decide +kernel) rfl rfl rfl (by decide +kernel)
set_option maxRecDepth 65536 in
theorem w_c5 : (Jvm.Cond.code ({ cls := "java/lang/StringUTF16", name := "compress", desc := "([CII)[B" } : Jvm.MethodName) jdk_52_method_16_code (6 : Nat) (Option.some (Jvm.ClassFile.FieldType.array Jvm.ClassFile.FieldType.byte))).before args0 about1 = true := code_word (m := ⟨8, 2⟩) (meth := k8m2) (c := k8c2) (by decide +kernel) rfl rfl rfl (by decide +kernel)
set_option maxRecDepth 65536 in
theorem w_c6 : (Jvm.Cond.code ({ cls := "java/lang/StringUTF16", name := "compress", desc := "([CI[BII)I" } : Jvm.MethodName) jdk_52_method_21_code (7 : Nat) (Option.some Jvm.ClassFile.FieldType.int)).before args0 about1 = true := code_word (m := ⟨8, 3⟩) (meth := k8m3) (c := k8c3) (by decide +kernel) rfl rfl rfl (by decide +kernel)
set_option maxRecDepth 65536 in
theorem w_c7 : (Jvm.Cond.code ({ cls := "java/lang/StringUTF16", name := "coderFromArrayLen", desc := "([BI)B" } : Jvm.MethodName) jdk_52_method_15_code (2 : Nat) (Option.some Jvm.ClassFile.FieldType.byte)).before args0 about1 = true := code_word (m := ⟨8, 1⟩) (meth := k8m1) (c := k8c1) (by decide +kernel) rfl rfl rfl (by decide +kernel)
set_option maxRecDepth 65536 in
theorem w_c8 : (Jvm.Cond.code ({ cls := "java/util/ArrayList", name := "<init>", desc := "()V" } : Jvm.MethodName) jdk_38_method_2_code (1 : Nat) (Option.none : Option Jvm.ClassFile.FieldType)).before args0 about1 = true := code_word (m := ⟨17, 0⟩) (meth := k17m0) (c := k17c0) (by decide +kernel) rfl rfl rfl (by decide +kernel)
set_option maxRecDepth 65536 in
theorem w_c9 : (Jvm.Cond.code ({ cls := "java/util/AbstractList", name := "<init>", desc := "()V" } : Jvm.MethodName) jdk_39_method_1_code (1 : Nat) (Option.none : Option Jvm.ClassFile.FieldType)).before args0 about1 = true := code_word (m := ⟨14, 0⟩) (meth := k14m0) (c := k14c0) (by decide +kernel) rfl rfl rfl (by decide +kernel)
set_option maxRecDepth 65536 in
theorem w_c10 : (Jvm.Cond.code ({ cls := "java/util/AbstractCollection", name := "<init>", desc := "()V" } : Jvm.MethodName) jdk_22_method_1_code (1 : Nat) (Option.none : Option Jvm.ClassFile.FieldType)).before args0 about1 = true := code_word (m := ⟨11, 0⟩) (meth := k11m0) (c := k11c0) (by decide +kernel) rfl rfl rfl (by decide +kernel)
set_option maxRecDepth 65536 in
theorem w_c11 : (Jvm.Cond.code ({ cls := "java/util/ArrayList", name := "add", desc := "(Ljava/lang/Object;)Z" } : Jvm.MethodName) jdk_38_method_25_code (2 : Nat) (Option.some Jvm.ClassFile.FieldType.boolean)).before args0 about1 = true := code_word (m := ⟨17, 7⟩) (meth := k17m7) (c := k17c7) (by decide +kernel) rfl rfl rfl (by decide +kernel)
set_option maxRecDepth 65536 in
theorem w_c12 : (Jvm.Cond.code ({ cls := "java/util/ArrayList", name := "add", desc := "(Ljava/lang/Object;[Ljava/lang/Object;I)V" } : Jvm.MethodName) jdk_38_method_24_code (4 : Nat) (Option.none : Option Jvm.ClassFile.FieldType)).before args0 about1 = true := code_word (m := ⟨17, 6⟩) (meth := k17m6) (c := k17c6) (by decide +kernel) rfl rfl rfl (by decide +kernel)
set_option maxRecDepth 65536 in
theorem w_c13 : (Jvm.Cond.code ({ cls := "java/util/ArrayList", name := "grow", desc := "()[Ljava/lang/Object;" } : Jvm.MethodName) jdk_38_method_7_code (1 : Nat) (Option.some (Jvm.ClassFile.FieldType.array (Jvm.ClassFile.FieldType.object "java/lang/Object")))).before args0 about1 = true := code_word (m := ⟨17, 2⟩) (meth := k17m2) (c := k17c2) (by decide +kernel) rfl rfl rfl (by decide +kernel)
set_option maxRecDepth 65536 in
theorem w_c14 : (Jvm.Cond.code ({ cls := "java/util/ArrayList", name := "grow", desc := "(I)[Ljava/lang/Object;" } : Jvm.MethodName) jdk_38_method_6_code (4 : Nat) (Option.some (Jvm.ClassFile.FieldType.array (Jvm.ClassFile.FieldType.object "java/lang/Object")))).before args0 about1 = true := code_word (m := ⟨17, 1⟩) (meth := k17m1) (c := k17c1) (by decide +kernel) rfl rfl rfl (by decide +kernel)
set_option maxRecDepth 65536 in
theorem w_c15 : (Jvm.Cond.code ({ cls := "java/lang/Math", name := "max", desc := "(II)I" } : Jvm.MethodName) jdk_29_method_65_code (2 : Nat) (Option.some Jvm.ClassFile.FieldType.int)).before args0 about1 = true := code_word (m := ⟨18, 1⟩) (meth := k18m1) (c := k18c1) (by decide +kernel) rfl rfl rfl (by decide +kernel)
set_option maxRecDepth 65536 in
theorem w_c16 : (Jvm.Cond.code ({ cls := "java/lang/String", name := "valueOf", desc := "(C)Ljava/lang/String;" } : Jvm.MethodName) jdk_42_method_139_code (1 : Nat) (Option.some (Jvm.ClassFile.FieldType.object "java/lang/String"))).before args0 about1 = true := code_word (m := ⟨7, 3⟩) (meth := k7m3) (c := k7c3) (by decide +kernel) rfl rfl rfl (by decide +kernel)
set_option maxRecDepth 65536 in
theorem w_c17 : (Jvm.Cond.code ({ cls := "java/lang/StringLatin1", name := "canEncode", desc := "(C)Z" } : Jvm.MethodName) jdk_43_method_3_code (1 : Nat) (Option.some Jvm.ClassFile.FieldType.boolean)).before args0 about1 = true := code_word (m := ⟨19, 1⟩) (meth := k19m1) (c := k19c1) (by decide +kernel) rfl rfl rfl (by decide +kernel)
set_option maxRecDepth 65536 in
theorem w_c18 : (Jvm.Cond.code ({ cls := "java/lang/StringLatin1", name := "toBytes", desc := "(C)[B" } : Jvm.MethodName) jdk_43_method_46_code (1 : Nat) (Option.some (Jvm.ClassFile.FieldType.array Jvm.ClassFile.FieldType.byte))).before args0 about1 = true := code_word (m := ⟨19, 2⟩) (meth := k19m2) (c := k19c2) (by decide +kernel) rfl rfl rfl (by decide +kernel)
set_option maxRecDepth 65536 in
theorem w_c19 : (Jvm.Cond.code ({ cls := "java/lang/String", name := "<init>", desc := "([BB)V" } : Jvm.MethodName) jdk_42_method_151_code (3 : Nat) (Option.none : Option Jvm.ClassFile.FieldType)).before args0 about1 = true := code_word (m := ⟨7, 5⟩) (meth := k7m5) (c := k7c5) (by decide +kernel) rfl rfl rfl (by decide +kernel)
set_option maxRecDepth 65536 in
theorem w_c20 : (Jvm.Cond.code ({ cls := "com/example/callyard/callyard/cli/CommandLine", name := "operand", desc := "(Ljava/util/List;ILjava/lang/String;)Ljava/lang/String;" } : Jvm.MethodName) prog_2_method_4_code (3 : Nat) (Option.some (Jvm.ClassFile.FieldType.object "java/lang/String"))).before args0 about1 = true := code_word (m := ⟨20, 1⟩) (meth := k20m1) (c := k20c1) (by decide +kernel) rfl rfl rfl (by decide +kernel)
set_option maxRecDepth 65536 in
theorem w_c21 : (Jvm.Cond.code ({ cls := "java/util/ArrayList", name := "size", desc := "()I" } : Jvm.MethodName) jdk_38_method_8_code (1 : Nat) (Option.some Jvm.ClassFile.FieldType.int)).before args0 about1 = true := code_word (m := ⟨17, 3⟩) (meth := k17m3) (c := k17c3) (by decide +kernel) rfl rfl rfl (by decide +kernel)
set_option maxRecDepth 65536 in
theorem w_c22 : (Jvm.Cond.code ({ cls := "java/util/ArrayList", name := "get", desc := "(I)Ljava/lang/Object;" } : Jvm.MethodName) jdk_38_method_20_code (2 : Nat) (Option.some (Jvm.ClassFile.FieldType.object "java/lang/Object"))).before args0 about1 = true := code_word (m := ⟨17, 5⟩) (meth := k17m5) (c := k17c5) (by decide +kernel) rfl rfl rfl (by decide +kernel)
set_option maxRecDepth 65536 in
theorem w_c23 : (Jvm.Cond.code ({ cls := "java/util/Objects", name := "checkIndex", desc := "(II)I" } : Jvm.MethodName) jdk_31_method_17_code (2 : Nat) (Option.some Jvm.ClassFile.FieldType.int)).before args0 about1 = true := code_word (m := ⟨21, 1⟩) (meth := k21m1) (c := k21c1) (by decide +kernel) rfl rfl rfl (by decide +kernel)
set_option maxRecDepth 65536 in
theorem w_c24 : (Jvm.Cond.code ({ cls := "jdk/internal/util/Preconditions", name := "checkIndex", desc := "(IILjava/util/function/BiFunction;)I" } : Jvm.MethodName) jdk_41_method_11_code (3 : Nat) (Option.some Jvm.ClassFile.FieldType.int)).before args0 about1 = true := code_word (m := ⟨22, 1⟩) (meth := k22m1) (c := k22c1) (by decide +kernel) rfl rfl rfl (by decide +kernel)
set_option maxRecDepth 65536 in
theorem w_c25 : (Jvm.Cond.code ({ cls := "java/util/ArrayList", name := "elementData", desc := "(I)Ljava/lang/Object;" } : Jvm.MethodName) jdk_38_method_18_code (2 : Nat) (Option.some (Jvm.ClassFile.FieldType.object "java/lang/Object"))).before args0 about1 = true := code_word (m := ⟨17, 4⟩) (meth := k17m4) (c := k17c4) (by decide +kernel) rfl rfl rfl (by decide +kernel)
set_option maxRecDepth 65536 in
theorem w_c26 : (Jvm.Cond.code ({ cls := "java/lang/String", name := "equals", desc := "(Ljava/lang/Object;)Z" } : Jvm.MethodName) jdk_42_method_66_code (3 : Nat) (Option.some Jvm.ClassFile.FieldType.boolean)).before args0 about1 = true := code_word (m := ⟨7, 2⟩) (meth := k7m2) (c := k7c2) (by decide +kernel) rfl rfl rfl (by decide +kernel)
def codes1 : List Jvm.Cond := [Jvm.Cond.code x code maxLocals ret, Jvm.Cond.code ({ cls := "com/example/callyard/callyard/cli/CommandLineOperandPinLaw", name := "two", desc := "(CI)Ljava/lang/String;" } : Jvm.MethodName) method_3_code (3 : Nat) (Option.some (Jvm.ClassFile.FieldType.object "java/lang/String")), Jvm.Cond.code ({ cls := "java/lang/String", name := "<init>", desc := "([C)V" } : Jvm.MethodName) jdk_42_method_3_code (2 : Nat) (Option.none : Option Jvm.ClassFile.FieldType), Jvm.Cond.code ({ cls := "java/lang/String", name := "<init>", desc := "([CIILjava/lang/Void;)V" } : Jvm.MethodName) jdk_42_method_149_code (6 : Nat) (Option.none : Option Jvm.ClassFile.FieldType), Jvm.Cond.code ({ cls := "java/lang/Object", name := "<init>", desc := "()V" } : Jvm.MethodName) object_method_1_code (1 : Nat) (Option.none : Option Jvm.ClassFile.FieldType), Jvm.Cond.code ({ cls := "java/lang/StringUTF16", name := "compress", desc := "([CII)[B" } : Jvm.MethodName) jdk_52_method_16_code (6 : Nat) (Option.some (Jvm.ClassFile.FieldType.array Jvm.ClassFile.FieldType.byte)), Jvm.Cond.code ({ cls := "java/lang/StringUTF16", name := "compress", desc := "([CI[BII)I" } : Jvm.MethodName) jdk_52_method_21_code (7 : Nat) (Option.some Jvm.ClassFile.FieldType.int), Jvm.Cond.code ({ cls := "java/lang/StringUTF16", name := "coderFromArrayLen", desc := "([BI)B" } : Jvm.MethodName) jdk_52_method_15_code (2 : Nat) (Option.some Jvm.ClassFile.FieldType.byte), Jvm.Cond.code ({ cls := "java/util/ArrayList", name := "<init>", desc := "()V" } : Jvm.MethodName) jdk_38_method_2_code (1 : Nat) (Option.none : Option Jvm.ClassFile.FieldType), Jvm.Cond.code ({ cls := "java/util/AbstractList", name := "<init>", desc := "()V" } : Jvm.MethodName) jdk_39_method_1_code (1 : Nat) (Option.none : Option Jvm.ClassFile.FieldType), Jvm.Cond.code ({ cls := "java/util/AbstractCollection", name := "<init>", desc := "()V" } : Jvm.MethodName) jdk_22_method_1_code (1 : Nat) (Option.none : Option Jvm.ClassFile.FieldType), Jvm.Cond.code ({ cls := "java/util/ArrayList", name := "add", desc := "(Ljava/lang/Object;)Z" } : Jvm.MethodName) jdk_38_method_25_code (2 : Nat) (Option.some Jvm.ClassFile.FieldType.boolean), Jvm.Cond.code ({ cls := "java/util/ArrayList", name := "add", desc := "(Ljava/lang/Object;[Ljava/lang/Object;I)V" } : Jvm.MethodName) jdk_38_method_24_code (4 : Nat) (Option.none : Option Jvm.ClassFile.FieldType), Jvm.Cond.code ({ cls := "java/util/ArrayList", name := "grow", desc := "()[Ljava/lang/Object;" } : Jvm.MethodName) jdk_38_method_7_code (1 : Nat) (Option.some (Jvm.ClassFile.FieldType.array (Jvm.ClassFile.FieldType.object "java/lang/Object"))), Jvm.Cond.code ({ cls := "java/util/ArrayList", name := "grow", desc := "(I)[Ljava/lang/Object;" } : Jvm.MethodName) jdk_38_method_6_code (4 : Nat) (Option.some (Jvm.ClassFile.FieldType.array (Jvm.ClassFile.FieldType.object "java/lang/Object"))), Jvm.Cond.code ({ cls := "java/lang/Math", name := "max", desc := "(II)I" } : Jvm.MethodName) jdk_29_method_65_code (2 : Nat) (Option.some Jvm.ClassFile.FieldType.int), Jvm.Cond.code ({ cls := "java/lang/String", name := "valueOf", desc := "(C)Ljava/lang/String;" } : Jvm.MethodName) jdk_42_method_139_code (1 : Nat) (Option.some (Jvm.ClassFile.FieldType.object "java/lang/String")), Jvm.Cond.code ({ cls := "java/lang/StringLatin1", name := "canEncode", desc := "(C)Z" } : Jvm.MethodName) jdk_43_method_3_code (1 : Nat) (Option.some Jvm.ClassFile.FieldType.boolean), Jvm.Cond.code ({ cls := "java/lang/StringLatin1", name := "toBytes", desc := "(C)[B" } : Jvm.MethodName) jdk_43_method_46_code (1 : Nat) (Option.some (Jvm.ClassFile.FieldType.array Jvm.ClassFile.FieldType.byte)), Jvm.Cond.code ({ cls := "java/lang/String", name := "<init>", desc := "([BB)V" } : Jvm.MethodName) jdk_42_method_151_code (3 : Nat) (Option.none : Option Jvm.ClassFile.FieldType), Jvm.Cond.code ({ cls := "com/example/callyard/callyard/cli/CommandLine", name := "operand", desc := "(Ljava/util/List;ILjava/lang/String;)Ljava/lang/String;" } : Jvm.MethodName) prog_2_method_4_code (3 : Nat) (Option.some (Jvm.ClassFile.FieldType.object "java/lang/String")), Jvm.Cond.code ({ cls := "java/util/ArrayList", name := "size", desc := "()I" } : Jvm.MethodName) jdk_38_method_8_code (1 : Nat) (Option.some Jvm.ClassFile.FieldType.int), Jvm.Cond.code ({ cls := "java/util/ArrayList", name := "get", desc := "(I)Ljava/lang/Object;" } : Jvm.MethodName) jdk_38_method_20_code (2 : Nat) (Option.some (Jvm.ClassFile.FieldType.object "java/lang/Object")), Jvm.Cond.code ({ cls := "java/util/Objects", name := "checkIndex", desc := "(II)I" } : Jvm.MethodName) jdk_31_method_17_code (2 : Nat) (Option.some Jvm.ClassFile.FieldType.int), Jvm.Cond.code ({ cls := "jdk/internal/util/Preconditions", name := "checkIndex", desc := "(IILjava/util/function/BiFunction;)I" } : Jvm.MethodName) jdk_41_method_11_code (3 : Nat) (Option.some Jvm.ClassFile.FieldType.int), Jvm.Cond.code ({ cls := "java/util/ArrayList", name := "elementData", desc := "(I)Ljava/lang/Object;" } : Jvm.MethodName) jdk_38_method_18_code (2 : Nat) (Option.some (Jvm.ClassFile.FieldType.object "java/lang/Object")), Jvm.Cond.code ({ cls := "java/lang/String", name := "equals", desc := "(Ljava/lang/Object;)Z" } : Jvm.MethodName) jdk_42_method_66_code (3 : Nat) (Option.some Jvm.ClassFile.FieldType.boolean)]
set_option maxRecDepth 65536 in
theorem codes_eq : words1.filter isCode = codes1 := rfl
theorem w_codes : ∀ c ∈ words1.filter isCode, c.before args0 about1 = true := by
  rw [codes_eq]
  intro c hc
  simp only [codes1, List.mem_cons, List.not_mem_nil, or_false] at hc
  rcases hc with rfl | rfl | rfl | rfl | rfl | rfl | rfl | rfl | rfl | rfl | rfl | rfl | rfl | rfl | rfl | rfl | rfl | rfl | rfl | rfl | rfl | rfl | rfl | rfl | rfl | rfl | rfl
  · exact w_c0
  · exact w_c1
  · exact w_c2
  · exact w_c3
  · exact w_c4
  · exact w_c5
  · exact w_c6
  · exact w_c7
  · exact w_c8
  · exact w_c9
  · exact w_c10
  · exact w_c11
  · exact w_c12
  · exact w_c13
  · exact w_c14
  · exact w_c15
  · exact w_c16
  · exact w_c17
  · exact w_c18
  · exact w_c19
  · exact w_c20
  · exact w_c21
  · exact w_c22
  · exact w_c23
  · exact w_c24
  · exact w_c25
  · exact w_c26
set_option maxRecDepth 65536 in
theorem w_t1 : (words1.take 24).all (fun c => isCode c || c.before args0 about1) = true := by decide +kernel
set_option maxRecDepth 65536 in
theorem w_t2 : ((words1.drop 24).take 24).all (fun c => isCode c || c.before args0 about1) = true := by decide +kernel
set_option maxRecDepth 65536 in
theorem w_t3 : (((words1.drop 24).drop 24).take 24).all (fun c => isCode c || c.before args0 about1) = true := by decide +kernel
set_option maxRecDepth 65536 in
theorem w_t4 : ((((words1.drop 24).drop 24).drop 24).take 24).all (fun c => isCode c || c.before args0 about1) = true := by decide +kernel
set_option maxRecDepth 65536 in
theorem w_t5 : (((((words1.drop 24).drop 24).drop 24).drop 24).take 24).all (fun c => isCode c || c.before args0 about1) = true := by decide +kernel
set_option maxRecDepth 65536 in
theorem w_t6 : ((((((words1.drop 24).drop 24).drop 24).drop 24).drop 24).take 24).all (fun c => isCode c || c.before args0 about1) = true := by decide +kernel
set_option maxRecDepth 65536 in
theorem w_t7 : ((((((words1.drop 24).drop 24).drop 24).drop 24).drop 24).drop 24).all (fun c => isCode c || c.before args0 about1) = true := by decide +kernel
theorem w_tables : (allAtoms (Jvm.Cond.code x code maxLocals ret :: tables_1)).before args0 about1 = true := by
  rw [allAtoms_all]
  show words1.all (fun c => c.before args0 about1) = true
  refine all_split ?_ w_codes
  rw [← List.take_append_drop 24 words1, List.all_append, w_t1, ← List.take_append_drop 24 (words1.drop 24), List.all_append, w_t2, ← List.take_append_drop 24 ((words1.drop 24).drop 24), List.all_append, w_t3, ← List.take_append_drop 24 (((words1.drop 24).drop 24).drop 24), List.all_append, w_t4, ← List.take_append_drop 24 ((((words1.drop 24).drop 24).drop 24).drop 24), List.all_append, w_t5, ← List.take_append_drop 24 (((((words1.drop 24).drop 24).drop 24).drop 24).drop 24), List.all_append, w_t6, w_t7]
  rfl
set_option maxRecDepth 65536 in
theorem w_rest : rest_1_c.before args0 about1 = true := by decide +kernel
set_option maxRecDepth 65536 in
theorem w_case : (Jvm.Cond.and given_1 narrow_1).before args0 about1 = true := by decide +kernel
theorem w_applies : (headSpec (Jvm.Cond.code x code maxLocals ret :: tables_1) room_1).applies x e0.platform about1 = true :=
  (Spec.applies_iff w_frames).mpr ⟨w_running, w_runnable, w_alone, w_named, w_hears, w_ripe, w_room, w_tables⟩
theorem atStart : AtStart classFile x code maxLocals ret World_1 tables_1 room_1 Calls_1 rest_1 Pre_1 launch0 p0 e0 about1 theMethod args0 below0 :=
  ⟨lists_1, trivial, launch0.admits_env _ _ _, launch0.least_env, fairChoices_fair.cas, fairChoices_fair.clock, w_frames, w_args, w_heap, w_applies, trivial, w_rest, w_case⟩
end start1
theorem witness_1 : WitnessClaimed_1 := ⟨start1.p0, start1.e0, start1.about1, start1.theMethod, start1.args0, start1.below0, start1.atStart⟩
end Jvm.Pilot.@@N@@
