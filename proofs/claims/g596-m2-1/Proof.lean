import JvmDerived
import JvmDerived.Pilot.@@N@@Statement
import JvmDerived.Pilot.@@N@@Code
set_option linter.unusedVariables false
set_option linter.unusedSimpArgs false
/- laws to paste: Road.backV (cut by pick.py; bodies as the Statement names them) -/
namespace Jvm.Pilot.@@N@@
namespace StrChars
open Jvm Sem ClassFile Op Lib Jvm.Stand Jvm.Free.XT Jvm.Free.ALB Jvm.Free.JM Jvm.Free
open Jvm.Lib.Cold (StaticIs)
/-- a char array whose places are chars -/
def Ch (a : Addr) (A : Cell) (U : State) : Prop := Arr .char a A U ∧ Typed .char A
theorem Ch.mv {a : Addr} {A : Cell} {U U' : State} (h : Ch a A U) (hal : U.vm.Alike U'.vm) (hh : U'.heap = U.heap) : Ch a A U' := ⟨h.1.mv hal hh, h.2⟩
theorem Ch.keep {a : Addr} {A : Cell} {U U' : State} (h : Ch a A U) (hal : U.vm.Alike U'.vm) (hk : U'.heap[a]? = some A) : Ch a A U' := ⟨h.1.keep hal hk, h.2⟩
/-- what place i of a char[]'s cell holds -/
def cv (A : Cell) (i : Nat) : Int32 := match A.slots[i]? with | some (.int x) => x | _ => 0
theorem Ch.get {a : Addr} {A : Cell} {U : State} (h : Ch a A U) {i : Nat} (hi : i < A.slots.size) : A.slots[i]? = some (.int (cv A i)) := by
  have e := Array.getElem?_eq_getElem hi
  have f := h.2 i _ e
  unfold cv; rw [e]
  generalize A.slots[i] = v at f
  cases v <;> simp [fits] at f ⊢
/-- the byte that i2b leaves of a char -/
def lo8 (x : Int32) : Int32 := x.toInt8.toInt32
theorem fits_lo8 (y : Int32) : fits .byte (.int (lo8 y)) = true := by
  have h1 := y.toInt8.le_toInt
  have h2 := y.toInt8.toInt_lt
  simp only [lo8, fits, Bool.and_eq_true, decide_eq_true_eq, Int32.le_iff_toInt_le, Int8.toInt_toInt32, show (-128 : Int32).toInt = -128 from by decide, show (127 : Int32).toInt = 127 from by decide]
  omega
/-- A' is A but that each place j of lo .. hi - 1 holds f j -/
def Laid (A A' : Cell) (lo hi : Nat) (f : Nat → Value) : Prop := A'.cls = A.cls ∧ A'.vm = A.vm ∧ A'.slots.size = A.slots.size ∧ ∀ i, A'.slots[i]? = if lo ≤ i ∧ i < hi then some (f i) else A.slots[i]?
theorem Laid.zero (A : Cell) (lo : Nat) (f : Nat → Value) : Laid A A lo (lo + 0) f := ⟨rfl, rfl, rfl, fun i => by rw [if_neg (by omega)]⟩
theorem Laid.step {A Ak : Cell} {lo k : Nat} {f : Nat → Value} {v : Value} (h : Laid A Ak lo k f) (hlo : lo ≤ k) (hk : k < Ak.slots.size) (hv : v = f k) : Laid A (Ak.setSlot k v) lo (k + 1) f := by
  refine ⟨h.1, h.2.1, by simpa [Cell.setSlot] using h.2.2.1, fun i => ?_⟩
  by_cases e : k = i
  · subst e; rw [Cell.slots_setSlot_self v hk, if_pos (by omega), hv]
  · rw [Cell.slots_setSlot_ne v e, h.2.2.2 i]
    by_cases q : lo ≤ i ∧ i < k
    · rw [if_pos q, if_pos (by omega)]
    · rw [if_neg q, if_neg (by omega)]
def U16 : String := "java/lang/StringUTF16"
namespace Cmp5
def yN : MethodName := ⟨"java/lang/StringUTF16", "compress", "([CI[BII)I"⟩
abbrev yB : ByteArray := jdk_52_method_21_code
theorem d0 : decode yB 0 = .ok (.iconst 0, 1) := by decide +kernel
theorem d1 : decode yB 1 = .ok (.istore 5, 2) := by decide +kernel
theorem d3 : decode yB 3 = .ok (.iload 5, 2) := by decide +kernel
theorem d5 : decode yB 5 = .ok (.iload 4, 2) := by decide +kernel
theorem d7 : decode yB 7 = .ok (.if_icmp (.ge) 37, 3) := by decide +kernel
theorem d10 : decode yB 10 = .ok (.aload_n 0, 1) := by decide +kernel
theorem d11 : decode yB 11 = .ok (.iload_n 1, 1) := by decide +kernel
theorem d12 : decode yB 12 = .ok (.caload, 1) := by decide +kernel
theorem d13 : decode yB 13 = .ok (.istore 6, 2) := by decide +kernel
theorem d15 : decode yB 15 = .ok (.iload 6, 2) := by decide +kernel
theorem d17 : decode yB 17 = .ok (.sipush 255, 3) := by decide +kernel
theorem d20 : decode yB 20 = .ok (.if_icmp (.le) 6, 3) := by decide +kernel
theorem d26 : decode yB 26 = .ok (.aload_n 2, 1) := by decide +kernel
theorem d27 : decode yB 27 = .ok (.iload_n 3, 1) := by decide +kernel
theorem d28 : decode yB 28 = .ok (.iload 6, 2) := by decide +kernel
theorem d30 : decode yB 30 = .ok (.i2b, 1) := by decide +kernel
theorem d31 : decode yB 31 = .ok (.bastore, 1) := by decide +kernel
theorem d32 : decode yB 32 = .ok (.iinc 1 1, 3) := by decide +kernel
theorem d35 : decode yB 35 = .ok (.iinc 3 1, 3) := by decide +kernel
theorem d38 : decode yB 38 = .ok (.iinc 5 1, 3) := by decide +kernel
theorem d41 : decode yB 41 = .ok (.goto (-38), 3) := by decide +kernel
theorem d44 : decode yB 44 = .ok (.iload 4, 2) := by decide +kernel
theorem d46 : decode yB 46 = .ok (.ireturn, 1) := by decide +kernel
def site : List Cond := []
def tab : Cond := tabOf yN yB 7 (some .int) site
def P (b : Addr) (A : Cell) (d : Addr) (B : Cell) (o q len : Nat) (args : Array Value) (s : State) : Prop := args = #[.ref b, .int (Int32.ofNat o), .ref d, .int (Int32.ofNat q), .int (Int32.ofNat len)] ∧ Ch b A s ∧ Arr .byte d B s ∧ b ≠ d ∧ o + len ≤ A.slots.size ∧ q + len ≤ B.slots.size ∧ ∀ i, i < len → ¬ 255 < cv A (o + i)
def E (b : Addr) (A : Cell) (d : Addr) (B : Cell) (o q len : Nat) (r : Option Value) (s u : State) : Prop := r = some (.int (Int32.ofNat len)) ∧ ∃ B', Put d B' s u ∧ Laid B B' q (q + len) (fun j => Value.int (lo8 (cv A (o + (j - q)))))
/-- no char of the range above 255: len; the places written hold each char's low byte -/
theorem law (l : Launch) (b : Addr) (A : Cell) (d : Addr) (B : Cell) (o q len : Nat) : Law l yN 5 5 0 0 yB 7 (some .int) site (P b A d B o q len) (E b A d B o q len) (copyLocs d q len) 0 0 := by
  refine Law.of_walk (plainFor_of_name (by decide +kernel)) (by decide +kernel) (by decide +kernel) (by decide) (fun _ _ h => by rw [h.1]; rfl) (fun _ U U' hal hh h => ⟨h.1, h.2.1.mv hal hh, h.2.2.1.mv hal hh, h.2.2.2⟩) (fun r U U' V V' h1 hal h2 h => ⟨h.1, h.2.elim fun B' q => ⟨B', q.1.mv h1 h2, q.2⟩⟩) ?_
  intro p e s m args below meth c s₁ X0 hexec hbytes hml hret hlk hnm hown hh0 W hP
  obtain ⟨rfl, hA, hB, hne, l1, l2, hp⟩ := hP
  have c1 : Steps p.tables e below (s₁.setTop (entryFrame m #[.ref b, .int (Int32.ofNat o), .ref d, .int (Int32.ofNat q), .int (Int32.ofNat len)] 7)) (s₁.setTop (mkF m 0 #[.val (.ref b), .val (.int (Int32.ofNat o)), .val (.ref d), .val (.int (Int32.ofNat q)), .val (.int (Int32.ofNat len)), .unset, .unset] [])) := entry rfl
  have hA0 := hA.1.mv X0.warmed.alike hh0
  have hB0 := hB.mv X0.warmed.alike hh0
  have a31 := hA.1.2.2.2
  have c2 : Steps p.tables e below (s₁.setTop (entryFrame m #[.ref b, .int (Int32.ofNat o), .ref d, .int (Int32.ofNat q), .int (Int32.ofNat len)] 7)) (s₁.setTop (mkF m 3 #[.val (.ref b), .val (.int (Int32.ofNat o)), .val (.ref d), .val (.int (Int32.ofNat q)), .val (.int (Int32.ofNat len)), .val (.int 0), .unset] [])) := c1.trans (by
    refine iconstV X0.here hexec rfl 0 (hb hbytes d0) (by decide) ?_
    refine XS.istore X0.here hexec rfl (hb hbytes d1) rfl rfl ?_
    exact Steps.refl _)
  have loop : ∀ (r i : Nat), i + r = len → ∀ (z : Slot), (z = .unset ∨ ∃ w, z = .val w ∧ w.category = 1) → ∀ (Tl : State) (Bk : Cell), Stand p l e { frames := 0, locals := 0, cells := 0, slots := 0 } s m #[.ref b, .int (Int32.ofNat o), .ref d, .int (Int32.ofNat q), .int (Int32.ofNat len)] below meth c Tl ([] ++ copyLocs d q i) 0 0 → Put d Bk s₁ Tl → Laid B Bk q (q + i) (fun j => Value.int (lo8 (cv A (o + (j - q))))) →
      Steps p.tables e below (s₁.setTop (entryFrame m #[.ref b, .int (Int32.ofNat o), .ref d, .int (Int32.ofNat q), .int (Int32.ofNat len)] 7)) (Tl.setTop (mkF m 3 #[.val (.ref b), .val (.int (Int32.ofNat (o + i))), .val (.ref d), .val (.int (Int32.ofNat (q + i))), .val (.int (Int32.ofNat len)), .val (.int (Int32.ofNat i)), z] [])) → ∃ (T' : State) (B' : Cell) (z' : Slot), Stand p l e { frames := 0, locals := 0, cells := 0, slots := 0 } s m #[.ref b, .int (Int32.ofNat o), .ref d, .int (Int32.ofNat q), .int (Int32.ofNat len)] below meth c T' ([] ++ copyLocs d q len) 0 0 ∧ Put d B' s₁ T' ∧ Laid B B' q (q + len) (fun j => Value.int (lo8 (cv A (o + (j - q))))) ∧
      Steps p.tables e below (s₁.setTop (entryFrame m #[.ref b, .int (Int32.ofNat o), .ref d, .int (Int32.ofNat q), .int (Int32.ofNat len)] 7)) (T'.setTop (mkF m 3 #[.val (.ref b), .val (.int (Int32.ofNat (o + len))), .val (.ref d), .val (.int (Int32.ofNat (q + len))), .val (.int (Int32.ofNat len)), .val (.int (Int32.ofNat len)), z'] [])) := by
    intro r
    induction r with
    | zero =>
      intro i hi z hz Tl Bk Xl pl fl cl
      have hil : i = len := by omega
      rw [hil] at Xl fl cl
      exact ⟨Tl, Bk, z, Xl, pl, fl, cl⟩
    | succ r ih =>
      intro i hi z hz Tl Bk Xl pl fl cl
      have all := X0.warmed.alike.symm.trans Xl.warmed.alike
      have hAl := hA0.keep all (pl.other hne hA0.1)
      have hBk := hB0.like all pl.1 fl.1 fl.2.1 fl.2.2.1
      have hlt : q + i < Bk.slots.size := by rw [fl.2.2.1]; omega
      have c3 : Steps p.tables e below (s₁.setTop (entryFrame m #[.ref b, .int (Int32.ofNat o), .ref d, .int (Int32.ofNat q), .int (Int32.ofNat len)] 7)) (Tl.setTop (mkF m 12 #[.val (.ref b), .val (.int (Int32.ofNat (o + i))), .val (.ref d), .val (.int (Int32.ofNat (q + i))), .val (.int (Int32.ofNat len)), .val (.int (Int32.ofNat i)), z] [.int (Int32.ofNat (o + i)), .ref b])) := cl.trans (by
        refine XS.iload Xl.here hexec rfl (hb hbytes d3) rfl ?_
        refine XS.iload Xl.here hexec rfl (hb hbytes d5) rfl ?_
        refine XS.icmpNo Xl.here hexec rfl (hb hbytes d7) rfl (ii_ge_f (lt32 (by omega) (by omega))) ?_
        refine XS.aloadN Xl.here hexec rfl (hb hbytes d10) rfl rfl ?_
        refine XS.iloadN Xl.here hexec rfl (hb hbytes d11) rfl ?_
        exact Steps.refl _)
      have c4 : Steps p.tables e below (s₁.setTop (entryFrame m #[.ref b, .int (Int32.ofNat o), .ref d, .int (Int32.ofNat q), .int (Int32.ofNat len)] 7)) (Tl.setTop (mkF m 13 #[.val (.ref b), .val (.int (Int32.ofNat (o + i))), .val (.ref d), .val (.int (Int32.ofNat (q + i))), .val (.int (Int32.ofNat len)), .val (.int (Int32.ofNat i)), z] [.int (cv A (o + i))])) := c3.trans (by
        refine Xl.aget hexec hAl rfl (hA.get (i := o + i) (by omega)) rfl rfl (hb hbytes d12) ?_
        exact Steps.refl _)
      have c5 : Steps p.tables e below (s₁.setTop (entryFrame m #[.ref b, .int (Int32.ofNat o), .ref d, .int (Int32.ofNat q), .int (Int32.ofNat len)] 7)) (Tl.setTop (mkF m 15 #[.val (.ref b), .val (.int (Int32.ofNat (o + i))), .val (.ref d), .val (.int (Int32.ofNat (q + i))), .val (.int (Int32.ofNat len)), .val (.int (Int32.ofNat i)), .val (.int (cv A (o + i)))] [])) := c4.trans (by
        refine XS.istoreS Xl.here hexec rfl (hb hbytes d13) rfl rfl hz ?_
        exact Steps.refl _)
      have c6 : Steps p.tables e below (s₁.setTop (entryFrame m #[.ref b, .int (Int32.ofNat o), .ref d, .int (Int32.ofNat q), .int (Int32.ofNat len)] 7)) (Tl.setTop (mkF m 31 #[.val (.ref b), .val (.int (Int32.ofNat (o + i))), .val (.ref d), .val (.int (Int32.ofNat (q + i))), .val (.int (Int32.ofNat len)), .val (.int (Int32.ofNat i)), .val (.int (cv A (o + i)))] [.int (lo8 (cv A (o + i))), .int (Int32.ofNat (q + i)), .ref d])) := c5.trans (by
        refine XS.iload Xl.here hexec rfl (hb hbytes d15) rfl ?_
        refine sipushV Xl.here hexec rfl 255 (hb hbytes d17) (by decide) ?_
        refine XS.icmpYes Xl.here hexec rfl (pc0 := 20) rfl (hb hbytes d20) rfl (ii_le_t (hp i (by omega))) (by decide) rfl ?_
        refine XS.aloadN Xl.here hexec rfl (hb hbytes d26) rfl rfl ?_
        refine XS.iloadN Xl.here hexec rfl (hb hbytes d27) rfl ?_
        refine XS.iload Xl.here hexec rfl (hb hbytes d28) rfl ?_
        refine i2b Xl.here hexec rfl (hb hbytes d30) rfl ?_
        exact Steps.refl _)
      obtain ⟨T7, X7, p7, st7⟩ := Xl.aput hexec hBk rfl hlt rfl (fits_lo8 (cv A (o + i))) (g := (mkF m 31 #[.val (.ref b), .val (.int (Int32.ofNat (o + i))), .val (.ref d), .val (.int (Int32.ofNat (q + i))), .val (.int (Int32.ofNat len)), .val (.int (Int32.ofNat i)), .val (.int (cv A (o + i)))] [.int (lo8 (cv A (o + i))), .int (Int32.ofNat (q + i)), .ref d])) rfl (rest := []) rfl (hb hbytes d31)
      have c8 : Steps p.tables e below (s₁.setTop (entryFrame m #[.ref b, .int (Int32.ofNat o), .ref d, .int (Int32.ofNat q), .int (Int32.ofNat len)] 7)) (T7.setTop (mkF m 32 #[.val (.ref b), .val (.int (Int32.ofNat (o + i))), .val (.ref d), .val (.int (Int32.ofNat (q + i))), .val (.int (Int32.ofNat len)), .val (.int (Int32.ofNat i)), .val (.int (cv A (o + i)))] [])) := c6.trans (st7 _ (Steps.refl _))
      have c9 : Steps p.tables e below (s₁.setTop (entryFrame m #[.ref b, .int (Int32.ofNat o), .ref d, .int (Int32.ofNat q), .int (Int32.ofNat len)] 7)) (T7.setTop (mkF m 3 #[.val (.ref b), .val (.int (Int32.ofNat (o + i) + 1)), .val (.ref d), .val (.int (Int32.ofNat (q + i) + 1)), .val (.int (Int32.ofNat len)), .val (.int (Int32.ofNat i + 1)), .val (.int (cv A (o + i)))] [])) := c8.trans (by
        refine iincV X7.here hexec rfl 1 (hb hbytes d32) (by decide) rfl rfl ?_
        refine iincV X7.here hexec rfl 1 (hb hbytes d35) (by decide) rfl rfl ?_
        refine iincV X7.here hexec rfl 1 (hb hbytes d38) (by decide) rfl rfl ?_
        refine XS.goto X7.here hexec rfl (pc0 := 41) rfl (hb hbytes d41) (by decide) rfl ?_
        exact Steps.refl _)
      have c10 : Steps p.tables e below (s₁.setTop (entryFrame m #[.ref b, .int (Int32.ofNat o), .ref d, .int (Int32.ofNat q), .int (Int32.ofNat len)] 7)) (T7.setTop (mkF m 3 #[.val (.ref b), .val (.int (Int32.ofNat (o + (i + 1)))), .val (.ref d), .val (.int (Int32.ofNat (q + (i + 1)))), .val (.int (Int32.ofNat len)), .val (.int (Int32.ofNat (i + 1))), .val (.int (cv A (o + i)))] [])) := by
        have := c9
        rw [succ32, succ32, succ32] at this
        exact this
      exact ih (i + 1) (by omega) _ (Or.inr ⟨_, rfl, rfl⟩) T7 _ (by rw [copyLocs_step, ← List.append_assoc]; exact X7) (pl.trans p7) (fl.step (by omega) hlt (by simp)) c10
  obtain ⟨T9, B9, z9, X9, p9, f9, g9⟩ := loop len 0 (by omega) .unset (Or.inl rfl) s₁ B (by simpa [copyLocs] using X0) ⟨hB0.1, fun _ _ => rfl, rfl⟩ (Laid.zero _ _ _) c2
  have c11 : Steps p.tables e below (s₁.setTop (entryFrame m #[.ref b, .int (Int32.ofNat o), .ref d, .int (Int32.ofNat q), .int (Int32.ofNat len)] 7)) (T9.setTop (mkF m 46 #[.val (.ref b), .val (.int (Int32.ofNat (o + len))), .val (.ref d), .val (.int (Int32.ofNat (q + len))), .val (.int (Int32.ofNat len)), .val (.int (Int32.ofNat len)), z9] [.int (Int32.ofNat len)])) := g9.trans (by
    refine XS.iload X9.here hexec rfl (hb hbytes d3) rfl ?_
    refine XS.iload X9.here hexec rfl (hb hbytes d5) rfl ?_
    refine XS.icmpYes X9.here hexec rfl (pc0 := 7) rfl (hb hbytes d7) rfl (ii_ge_t (nlt32 (by omega) (Nat.le_refl _))) (by decide) rfl ?_
    refine XS.iload X9.here hexec rfl (hb hbytes d44) rfl ?_
    exact Steps.refl _)
  exact ⟨T9, some (.int (Int32.ofNat len)), _, _, _, X9, by simp, rfl, rfl, (fun h => by cases h), ⟨rfl, B9, p9.from hh0, f9⟩, fun fs hl => c11.trans (X9.ireturnOut hexec hret rfl (Or.inl rfl) (hb hbytes d46) hl)⟩
end Cmp5
namespace Cmp3
def yN : MethodName := ⟨"java/lang/StringUTF16", "compress", "([CII)[B"⟩
abbrev yB : ByteArray := jdk_52_method_16_code
theorem d0 : decode yB 0 = .ok (.iload_n 2, 1) := by decide +kernel
theorem d1 : decode yB 1 = .ok (.newarray .byte, 2) := by decide +kernel
theorem d3 : decode yB 3 = .ok (.astore_n 3, 1) := by decide +kernel
theorem d4 : decode yB 4 = .ok (.aload_n 0, 1) := by decide +kernel
theorem d5 : decode yB 5 = .ok (.iload_n 1, 1) := by decide +kernel
theorem d6 : decode yB 6 = .ok (.aload_n 3, 1) := by decide +kernel
theorem d7 : decode yB 7 = .ok (.iconst 0, 1) := by decide +kernel
theorem d8 : decode yB 8 = .ok (.iload_n 2, 1) := by decide +kernel
theorem d9 : decode yB 9 = .ok (.invokestatic 115, 3) := by decide +kernel
theorem d12 : decode yB 12 = .ok (.istore 4, 2) := by decide +kernel
theorem d14 : decode yB 14 = .ok (.iload 4, 2) := by decide +kernel
theorem d16 : decode yB 16 = .ok (.iload_n 2, 1) := by decide +kernel
theorem d17 : decode yB 17 = .ok (.if_icmp (.eq) 40, 3) := by decide +kernel
theorem d57 : decode yB 57 = .ok (.aload_n 3, 1) := by decide +kernel
theorem d58 : decode yB 58 = .ok (.areturn, 1) := by decide +kernel
def site : List Cond := [.arrayClass .byte, Cmp5.tab] ++ staticW U16 115 Cmp5.yN
def tab : Cond := tabOf yN yB 6 (some (.array .byte)) site
def P (b : Addr) (A : Cell) (o len : Nat) (args : Array Value) (s : State) : Prop := args = #[.ref b, .int (Int32.ofNat o), .int (Int32.ofNat len)] ∧ Ch b A s ∧ o + len ≤ A.slots.size ∧ len ≤ 536870912 ∧ ∀ i, i < len → ¬ 255 < cv A (o + i)
def E (b : Addr) (A : Cell) (o len : Nat) (r : Option Value) (s u : State) : Prop := NewArr .byte "[B" len (fun j => .int (lo8 (cv A (o + j)))) r s u ∧ u.heap.size = s.heap.size + 1
/-- no char of the range above 255: a new byte[] of their low bytes -/
theorem law (l : Launch) (b : Addr) (A : Cell) (o len : Nat) : Law l yN 3 3 1 18 yB 6 (some (.array .byte)) site (P b A o len) (E b A o len) [] 1 len := by
  refine Law.of_walk (plainFor_of_name (by decide +kernel)) (by decide +kernel) (by decide +kernel) (by decide) (fun _ _ h => by rw [h.1]; rfl) (fun _ U U' hal hh h => ⟨h.1, h.2.1.mv hal hh, h.2.2⟩) (fun r U U' V V' h1 hal h2 h => ⟨NewArr.mv r U U' V V' h1 hal h2 h.1, by rw [h1, h2]; exact h.2⟩) ?_
  intro p e s m args below meth c s₁ X0 hexec hbytes hml hret hlk hnm hown hh0 W hP
  obtain ⟨rfl, hA, l1, l2, hp⟩ := hP
  have a31 := hA.1.2.2.2
  have c1 : Steps p.tables e below (s₁.setTop (entryFrame m #[.ref b, .int (Int32.ofNat o), .int (Int32.ofNat len)] 6)) (s₁.setTop (mkF m 0 #[.val (.ref b), .val (.int (Int32.ofNat o)), .val (.int (Int32.ofNat len)), .unset, .unset, .unset] [])) := entry rfl
  have c2 : Steps p.tables e below (s₁.setTop (entryFrame m #[.ref b, .int (Int32.ofNat o), .int (Int32.ofNat len)] 6)) (s₁.setTop (mkF m 1 #[.val (.ref b), .val (.int (Int32.ofNat o)), .val (.int (Int32.ofNat len)), .unset, .unset, .unset] [.int (Int32.ofNat len)])) := c1.trans (by
    refine XS.iloadN X0.here hexec rfl (hb hbytes d0) rfl ?_
    exact Steps.refl _)
  obtain ⟨T3, B3, X3, ba3, bs3, bv3, bh3, bf3, st3⟩ := X0.anew hexec (atype := .byte) (wk W (.arrayClass .byte)) rfl (by show len * 1 ≤ _; omega) (by omega) (g := (mkF m 1 #[.val (.ref b), .val (.int (Int32.ofNat o)), .val (.int (Int32.ofNat len)), .unset, .unset, .unset] [.int (Int32.ofNat len)])) rfl (hb hbytes d1) (rest := []) rfl (Nat.le_refl _) (by show 0 + len ≤ len; omega)
  rw [hh0] at ba3 st3
  have kp3 : XT.Kept s T3 := (XT.Kept.of_eq hh0).push bh3
  have hA3 := hA.keep X3.warmed.alike (kp3 _ _ hA.1.1)
  have hne : b ≠ s.heap.size := hA.1.ne
  have c4 : Steps p.tables e below (s₁.setTop (entryFrame m #[.ref b, .int (Int32.ofNat o), .int (Int32.ofNat len)] 6)) (T3.setTop (mkF m 3 #[.val (.ref b), .val (.int (Int32.ofNat o)), .val (.int (Int32.ofNat len)), .unset, .unset, .unset] [.ref s.heap.size])) := c2.trans (st3 _ (Steps.refl _))
  have c5 : Steps p.tables e below (s₁.setTop (entryFrame m #[.ref b, .int (Int32.ofNat o), .int (Int32.ofNat len)] 6)) (T3.setTop (mkF m 9 #[.val (.ref b), .val (.int (Int32.ofNat o)), .val (.int (Int32.ofNat len)), .val (.ref s.heap.size), .unset, .unset] [.int (Int32.ofNat len), .int 0, .ref s.heap.size, .int (Int32.ofNat o), .ref b])) := c4.trans (by
    refine XS.astoreN X3.here hexec rfl (hb hbytes d3) rfl rfl rfl ?_
    refine XS.aloadN X3.here hexec rfl (hb hbytes d4) rfl rfl ?_
    refine XS.iloadN X3.here hexec rfl (hb hbytes d5) rfl ?_
    refine XS.aloadN X3.here hexec rfl (hb hbytes d6) rfl rfl ?_
    refine iconstV X3.here hexec rfl 0 (hb hbytes d7) (by decide) ?_
    refine XS.iloadN X3.here hexec rfl (hb hbytes d8) rfl ?_
    exact Steps.refl _)
  obtain ⟨v6, T6, X6, E6, g6⟩ := X3.callS hexec (Cmp5.law l b A s.heap.size B3 o 0 len) hown (wks W (staticW U16 115 Cmp5.yN)) (wk W Cmp5.tab) (W := 0) (Nat.le_of_ble_eq_true rfl) (Nat.le_of_ble_eq_true rfl) (Nat.le_refl _) (by show 0 + len + 0 ≤ len; omega) (g := (mkF m 9 #[.val (.ref b), .val (.int (Int32.ofNat o)), .val (.int (Int32.ofNat len)), .val (.ref s.heap.size), .unset, .unset] [.int (Int32.ofNat len), .int (Int32.ofNat 0), .ref s.heap.size, .int (Int32.ofNat o), .ref b])) rfl (by rw [hml]; rfl) c5 (argsL := [.ref b, .int (Int32.ofNat o), .ref s.heap.size, .int (Int32.ofNat 0), .int (Int32.ofNat len)]) (rest := []) rfl rfl (by show 2 * 0 + 0 ≤ _; decide) (hb hbytes d9) (⟨rfl, hA3, ba3, hne, l1, by rw [bs3]; simp, hp⟩)
  obtain ⟨rfl, B6, p6, f6⟩ := E6
  have c7 : Steps p.tables e below (s₁.setTop (entryFrame m #[.ref b, .int (Int32.ofNat o), .int (Int32.ofNat len)] 6)) (T6.setTop (mkF m 12 #[.val (.ref b), .val (.int (Int32.ofNat o)), .val (.int (Int32.ofNat len)), .val (.ref s.heap.size), .unset, .unset] [.int (Int32.ofNat len)])) := g6
  have c8 : Steps p.tables e below (s₁.setTop (entryFrame m #[.ref b, .int (Int32.ofNat o), .int (Int32.ofNat len)] 6)) (T6.setTop (mkF m 58 #[.val (.ref b), .val (.int (Int32.ofNat o)), .val (.int (Int32.ofNat len)), .val (.ref s.heap.size), .val (.int (Int32.ofNat len)), .unset] [.ref s.heap.size])) := c7.trans (by
    refine XS.istore X6.here hexec rfl (hb hbytes d12) rfl rfl ?_
    refine XS.iload X6.here hexec rfl (hb hbytes d14) rfl ?_
    refine XS.iloadN X6.here hexec rfl (hb hbytes d16) rfl ?_
    refine XS.icmpYes X6.here hexec rfl (pc0 := 17) rfl (hb hbytes d17) rfl (ii_eq_t rfl) (by decide) rfl ?_
    refine XS.aloadN X6.here hexec rfl (hb hbytes d57) rfl rfl ?_
    exact Steps.refl _)
  have X8 := X6.wide (L' := []) (cells' := 1) (slots' := len) (fun x hx hlt => by
    simp only [List.nil_append, copyLocs, List.mem_map, List.mem_range] at hx
    obtain ⟨i, -, rfl⟩ := hx
    exact absurd hlt (Nat.lt_irrefl _)) (Nat.le_refl _) (by omega)
  exact ⟨T6, some (.ref s.heap.size), _, _, _, X8, rfl, rfl, rfl, (fun h => by cases h), ⟨⟨rfl, B6, ba3.like (X3.warmed.alike.symm.trans X6.warmed.alike) p6.1 f6.1 f6.2.1 f6.2.2.1, f6.2.1.trans bv3, by rw [X6.warmed.alike.findClass, f6.1]; exact bf3, by rw [f6.2.2.1, bs3]; simp, fun j hj => by rw [f6.2.2.2 j, if_pos (by omega)]; rfl, kp3.put p6 (Nat.le_refl _)⟩, by rw [p6.2.2, bh3, hh0]; simp⟩, fun fs hl => c8.trans (X8.areturnOut hexec rfl hret rfl (hb hbytes d58) hl)⟩
end Cmp3
namespace CodL
def yN : MethodName := ⟨"java/lang/StringUTF16", "coderFromArrayLen", "([BI)B"⟩
abbrev yB : ByteArray := jdk_52_method_15_code
theorem d0 : decode yB 0 = .ok (.iload_n 1, 1) := by decide +kernel
theorem d1 : decode yB 1 = .ok (.aload_n 0, 1) := by decide +kernel
theorem d2 : decode yB 2 = .ok (.arraylength, 1) := by decide +kernel
theorem d3 : decode yB 3 = .ok (.isub, 1) := by decide +kernel
theorem d4 : decode yB 4 = .ok (.bipush 31, 2) := by decide +kernel
theorem d6 : decode yB 6 = .ok (.iushr, 1) := by decide +kernel
theorem d7 : decode yB 7 = .ok (.i2b, 1) := by decide +kernel
theorem d8 : decode yB 8 = .ok (.ireturn, 1) := by decide +kernel
def site : List Cond := []
def tab : Cond := tabOf yN yB 2 (some .byte) site
def P (d : Addr) (B : Cell) (args : Array Value) (s : State) : Prop := args = #[.ref d, .int (Int32.ofNat B.slots.size)] ∧ Arr .byte d B s
def E (r : Option Value) (s u : State) : Prop := XT.PureE (some (.int 0)) r s u
/-- an array as long as the number of chars: LATIN1 -/
theorem law (l : Launch) (d : Addr) (B : Cell) : Law l yN 2 2 0 0 yB 2 (some .byte) site (P d B) E [] 0 0 := by
  refine Law.of_walk (plainFor_of_name (by decide +kernel)) (by decide +kernel) (by decide +kernel) (by decide) (fun _ _ h => by rw [h.1]; rfl) (fun _ U U' hal hh h => ⟨h.1, h.2.mv hal hh⟩) (fun r U U' V V' h1 hal h2 h => XT.PureE.mv r U U' V V' h1 hal h2 h) ?_
  intro p e s m args below meth c s₁ X0 hexec hbytes hml hret hlk hnm hown hh0 W hP
  obtain ⟨rfl, hB⟩ := hP
  have hB0 := hB.mv X0.warmed.alike hh0
  have c1 : Steps p.tables e below (s₁.setTop (entryFrame m #[.ref d, .int (Int32.ofNat B.slots.size)] 2)) (s₁.setTop (mkF m 0 #[.val (.ref d), .val (.int (Int32.ofNat B.slots.size))] [])) := entry rfl
  have c2 : Steps p.tables e below (s₁.setTop (entryFrame m #[.ref d, .int (Int32.ofNat B.slots.size)] 2)) (s₁.setTop (mkF m 2 #[.val (.ref d), .val (.int (Int32.ofNat B.slots.size))] [.ref d, .int (Int32.ofNat B.slots.size)])) := c1.trans (by
    refine XS.iloadN X0.here hexec rfl (hb hbytes d0) rfl ?_
    refine XS.aloadN X0.here hexec rfl (hb hbytes d1) rfl rfl ?_
    exact Steps.refl _)
  have c3 : Steps p.tables e below (s₁.setTop (entryFrame m #[.ref d, .int (Int32.ofNat B.slots.size)] 2)) (s₁.setTop (mkF m 8 #[.val (.ref d), .val (.int (Int32.ofNat B.slots.size))] [.int (lo8 (ushr (Int32.ofNat B.slots.size - Int32.ofNat B.slots.size) 31))])) := c2.trans (by
    refine X0.alen hexec hB0 rfl rfl (hb hbytes d2) ?_
    refine XS.isub X0.here hexec rfl (hb hbytes d3) rfl ?_
    refine bipushV X0.here hexec rfl 31 (hb hbytes d4) (by decide) ?_
    refine iushr X0.here hexec rfl (hb hbytes d6) rfl ?_
    refine i2b X0.here hexec rfl (hb hbytes d7) rfl ?_
    exact Steps.refl _)
  have e0 : lo8 (ushr (Int32.ofNat B.slots.size - Int32.ofNat B.slots.size) 31) = 0 := by rw [Int32.sub_self]; decide
  rw [e0] at c3
  exact ⟨s₁, some (.int 0), _, _, _, X0, rfl, rfl, rfl, (fun h => by cases h), ⟨rfl, hh0⟩, fun fs hl => c3.trans (X0.ireturnOut hexec hret rfl (Or.inr (Or.inr (Or.inl rfl))) (hb hbytes d8) hl)⟩
end CodL
/-- the String at a is Latin-1 over a new byte[] (the heap's one new cell): the low bytes of the len chars of A from o on; every cell but a is kept -/
def Got (a : Addr) (D : Cell) (fV fC : Field) (A : Cell) (o len : Nat) (r : Option Value) (s u : State) : Prop := r = none ∧ ∃ D' V : Cell, Blank "java/lang/String" a D' u ∧ Same D D' [fV.slot, fC.slot] ∧ D'.slots[fV.slot]? = some (.ref s.heap.size) ∧ D'.slots[fC.slot]? = some (.int 0) ∧ Arr .byte s.heap.size V u ∧ V.vm = .none ∧ u.vm.findClass "[B" = some V.cls ∧ V.slots.size = len ∧ (∀ j, j < len → V.slots[j]? = some (.int (lo8 (cv A (o + j))))) ∧ (∀ (y : Addr) (c : Cell), y ≠ a → s.heap[y]? = some c → u.heap[y]? = some c) ∧ u.heap.size = s.heap.size + 1
theorem Got.mv {a : Addr} {D A : Cell} {fV fC : Field} {o len : Nat} : ∀ r (U U' V V' : State), U'.heap = U.heap → V.vm.Alike V'.vm → V'.heap = V.heap → Got a D fV fC A o len r U V → Got a D fV fC A o len r U' V' :=
  fun r U U' V V' h1 hal h2 ⟨e0, D', X, a1, a2, a3, a4, a5, a6, a7, a8, a9, a10, a11⟩ => ⟨e0, D', X, a1.mv hal h2, a2, by rw [h1]; exact a3, a4, by rw [h1]; exact a5.mv hal h2, a6, by rw [hal.findClass]; exact a7, a8, a9, by rw [h1, h2]; exact a10, by rw [h1, h2]; exact a11⟩
namespace New4
def yN : MethodName := ⟨"java/lang/String", "<init>", "([CIILjava/lang/Void;)V"⟩
abbrev yB : ByteArray := jdk_42_method_149_code
theorem d0 : decode yB 0 = .ok (.aload_n 0, 1) := by decide +kernel
theorem d1 : decode yB 1 = .ok (.invokespecial 1, 3) := by decide +kernel
theorem d4 : decode yB 4 = .ok (.iload_n 3, 1) := by decide +kernel
theorem d5 : decode yB 5 = .ok (.ifCond (.ne) 22, 3) := by decide +kernel
theorem d27 : decode yB 27 = .ok (.getstatic 38, 3) := by decide +kernel
theorem d30 : decode yB 30 = .ok (.ifCond (.eq) 28, 3) := by decide +kernel
theorem d33 : decode yB 33 = .ok (.aload_n 1, 1) := by decide +kernel
theorem d34 : decode yB 34 = .ok (.iload_n 2, 1) := by decide +kernel
theorem d35 : decode yB 35 = .ok (.iload_n 3, 1) := by decide +kernel
theorem d36 : decode yB 36 = .ok (.invokestatic 177, 3) := by decide +kernel
theorem d39 : decode yB 39 = .ok (.astore 5, 2) := by decide +kernel
theorem d41 : decode yB 41 = .ok (.aload_n 0, 1) := by decide +kernel
theorem d42 : decode yB 42 = .ok (.aload 5, 2) := by decide +kernel
theorem d44 : decode yB 44 = .ok (.iload_n 3, 1) := by decide +kernel
theorem d45 : decode yB 45 = .ok (.invokestatic 47, 3) := by decide +kernel
theorem d48 : decode yB 48 = .ok (.putfield 15, 3) := by decide +kernel
theorem d51 : decode yB 51 = .ok (.aload_n 0, 1) := by decide +kernel
theorem d52 : decode yB 52 = .ok (.aload 5, 2) := by decide +kernel
theorem d54 : decode yB 54 = .ok (.putfield 9, 3) := by decide +kernel
theorem d57 : decode yB 57 = .ok (.return_, 1) := by decide +kernel
def site : List Cond := [.fieldLink "java/lang/String" 38 "java/lang/String" "COMPACT_STRINGS" "Z", Cmp3.tab, CodL.tab, .laysFinal "java/lang/String" "java/lang/String" "value" "[B", .fieldLink "java/lang/String" 9 "java/lang/String" "value" "[B", .laysFinal "java/lang/String" "java/lang/String" "coder" "B", .fieldLink "java/lang/String" 15 "java/lang/String" "coder" "B"] ++ objW "java/lang/String" 1 ++ staticW "java/lang/String" 177 Cmp3.yN ++ staticW "java/lang/String" 47 CodL.yN
def tab : Cond := tabOf yN yB 6 none site
def P (a : Addr) (D : Cell) (fV fC : Field) (b : Addr) (A : Cell) (z : Int32) (o len : Nat) (args : Array Value) (s : State) : Prop := args = #[.ref a, .ref b, .int (Int32.ofNat o), .int (Int32.ofNat len), .null] ∧ Blank "java/lang/String" a D s ∧ Found "java/lang/String" "value" "[B" fV s ∧ Found "java/lang/String" "coder" "B" fC s ∧ Ch b A s ∧ StaticIs s "java/lang/String" "COMPACT_STRINGS" "Z" (.int z) ∧ ¬ z = 0 ∧ 0 < len ∧ o + len ≤ A.slots.size ∧ len ≤ 536870912 ∧ ∀ i, i < len → ¬ 255 < cv A (o + i)
def E (a : Addr) (D : Cell) (fV fC : Field) (A : Cell) (o len : Nat) (r : Option Value) (s u : State) : Prop := Got a D fV fC A o len r s u
/-- len > 0, no char of the range above 255: a Latin-1 String of their low bytes -/
theorem law (l : Launch) (a : Addr) (D : Cell) (fV fC : Field) (b : Addr) (A : Cell) (z : Int32) (o len : Nat) : Law l yN 5 4 2 35 yB 6 none site (P a D fV fC b A z o len) (E a D fV fC A o len) [⟨a, fC.slot⟩, ⟨a, fV.slot⟩] 1 len := by
  refine Law.of_walk (plainFor_of_name (by decide +kernel)) (by decide +kernel) (by decide +kernel) (by decide) (fun _ _ h => by rw [h.1]; rfl) (fun _ U U' hal hh h => ⟨h.1, h.2.1.mv hal hh, h.2.2.1.al hal, h.2.2.2.1.al hal, h.2.2.2.2.1.mv hal hh, h.2.2.2.2.2.1.there hal hh, h.2.2.2.2.2.2⟩) (fun r U U' V V' h1 hal h2 h => Got.mv r U U' V V' h1 hal h2 h) ?_
  intro p e s m args below meth c s₁ X0 hexec hbytes hml hret hlk hnm hown hh0 W hP
  obtain ⟨rfl, hB, f1, f2, hA, s1, hz, l0, l1, l2, hp⟩ := hP
  have a31 := hA.1.2.2.2
  have c1 : Steps p.tables e below (s₁.setTop (entryFrame m #[.ref a, .ref b, .int (Int32.ofNat o), .int (Int32.ofNat len), .null] 6)) (s₁.setTop (mkF m 0 #[.val (.ref a), .val (.ref b), .val (.int (Int32.ofNat o)), .val (.int (Int32.ofNat len)), .val .null, .unset] [])) := entry rfl
  have c2 : Steps p.tables e below (s₁.setTop (entryFrame m #[.ref a, .ref b, .int (Int32.ofNat o), .int (Int32.ofNat len), .null] 6)) (s₁.setTop (mkF m 1 #[.val (.ref a), .val (.ref b), .val (.int (Int32.ofNat o)), .val (.int (Int32.ofNat len)), .val .null, .unset] [.ref a])) := c1.trans (by
    refine XS.aloadN X0.here hexec rfl (hb hbytes d0) rfl rfl ?_
    exact Steps.refl _)
  obtain ⟨T3, X3, q3, st3⟩ := X0.oinit hexec hown (wks W (objW "java/lang/String" 1)) (g := (mkF m 1 #[.val (.ref a), .val (.ref b), .val (.int (Int32.ofNat o)), .val (.int (Int32.ofNat len)), .val .null, .unset] [.ref a])) rfl (by rw [hml]; rfl) (rest := []) rfl (hb hbytes d1) (W := 0) (by show 2 * 0 + 0 ≤ _; decide) (Nat.le_of_ble_eq_true rfl) (Nat.le_of_ble_eq_true rfl)
  have hh3 := q3.trans hh0
  have c4 : Steps p.tables e below (s₁.setTop (entryFrame m #[.ref a, .ref b, .int (Int32.ofNat o), .int (Int32.ofNat len), .null] 6)) (T3.setTop (mkF m 27 #[.val (.ref a), .val (.ref b), .val (.int (Int32.ofNat o)), .val (.int (Int32.ofNat len)), .val .null, .unset] [])) := (c2.trans (st3 _ (Steps.refl _))).trans (by
    refine XS.iloadN X3.here hexec rfl (hb hbytes d4) rfl ?_
    refine XS.ifYes X3.here hexec rfl (pc0 := 5) rfl (hb hbytes d5) rfl (i0_ne_t (nz32 (by omega) l0)) (by decide) rfl ?_
    exact Steps.refl _)
  obtain ⟨T5, X5, q5, st5⟩ := X3.sget hexec hown (wk W (.fieldLink "java/lang/String" 38 "java/lang/String" "COMPACT_STRINGS" "Z")) s1 (fun _ _ h => by rw [hh3]; exact h) (g := (mkF m 27 #[.val (.ref a), .val (.ref b), .val (.int (Int32.ofNat o)), .val (.int (Int32.ofNat len)), .val .null, .unset] [])) rfl (hb hbytes d27)
  have hh5 := q5.trans hh3
  have c6 : Steps p.tables e below (s₁.setTop (entryFrame m #[.ref a, .ref b, .int (Int32.ofNat o), .int (Int32.ofNat len), .null] 6)) (T5.setTop (mkF m 30 #[.val (.ref a), .val (.ref b), .val (.int (Int32.ofNat o)), .val (.int (Int32.ofNat len)), .val .null, .unset] [.int z])) := c4.trans (st5 _ (Steps.refl _))
  have c7 : Steps p.tables e below (s₁.setTop (entryFrame m #[.ref a, .ref b, .int (Int32.ofNat o), .int (Int32.ofNat len), .null] 6)) (T5.setTop (mkF m 36 #[.val (.ref a), .val (.ref b), .val (.int (Int32.ofNat o)), .val (.int (Int32.ofNat len)), .val .null, .unset] [.int (Int32.ofNat len), .int (Int32.ofNat o), .ref b])) := c6.trans (by
    refine XS.ifNo X5.here hexec rfl (hb hbytes d30) rfl (i0_eq_f hz) ?_
    refine XS.aloadN X5.here hexec rfl (hb hbytes d33) rfl rfl ?_
    refine XS.iloadN X5.here hexec rfl (hb hbytes d34) rfl ?_
    refine XS.iloadN X5.here hexec rfl (hb hbytes d35) rfl ?_
    exact Steps.refl _)
  obtain ⟨v8, T8, X8, E8, g8⟩ := X5.callS hexec (Cmp3.law l b A o len) hown (wks W (staticW "java/lang/String" 177 Cmp3.yN)) (wk W Cmp3.tab) (W := 0) (Nat.le_of_ble_eq_true rfl) (Nat.le_of_ble_eq_true rfl) (Nat.le_refl _) (by show 0 + len ≤ len; omega) (g := (mkF m 36 #[.val (.ref a), .val (.ref b), .val (.int (Int32.ofNat o)), .val (.int (Int32.ofNat len)), .val .null, .unset] [.int (Int32.ofNat len), .int (Int32.ofNat o), .ref b])) rfl (by rw [hml]; rfl) c7 (argsL := [.ref b, .int (Int32.ofNat o), .int (Int32.ofNat len)]) (rest := []) rfl rfl (by show 2 * 0 + 0 ≤ _; decide) (hb hbytes d36) (⟨rfl, hA.mv X5.warmed.alike hh5, l1, l2, hp⟩)
  obtain ⟨e8, z8⟩ := E8
  obtain ⟨rfl, N, n1, n2, n3, n4, n5, n6⟩ := NewArr.mv _ T5 s _ _ hh5.symm (Vm.Alike.refl _) rfl e8
  rw [hh5] at z8
  have hB1 := hB.keep X8.warmed.alike (n6 _ _ hB.1)
  have hne : s.heap.size ≠ a := (Nat.ne_of_lt (Array.getElem?_eq_some_iff.mp hB.1).1).symm
  have c9 : Steps p.tables e below (s₁.setTop (entryFrame m #[.ref a, .ref b, .int (Int32.ofNat o), .int (Int32.ofNat len), .null] 6)) (T8.setTop (mkF m 39 #[.val (.ref a), .val (.ref b), .val (.int (Int32.ofNat o)), .val (.int (Int32.ofNat len)), .val .null, .unset] [.ref s.heap.size])) := g8
  have c10 : Steps p.tables e below (s₁.setTop (entryFrame m #[.ref a, .ref b, .int (Int32.ofNat o), .int (Int32.ofNat len), .null] 6)) (T8.setTop (mkF m 45 #[.val (.ref a), .val (.ref b), .val (.int (Int32.ofNat o)), .val (.int (Int32.ofNat len)), .val .null, .val (.ref s.heap.size)] [.int (Int32.ofNat N.slots.size), .ref s.heap.size, .ref a])) := by
    have hc : Steps p.tables e below (s₁.setTop (entryFrame m #[.ref a, .ref b, .int (Int32.ofNat o), .int (Int32.ofNat len), .null] 6)) (T8.setTop (mkF m 45 #[.val (.ref a), .val (.ref b), .val (.int (Int32.ofNat o)), .val (.int (Int32.ofNat len)), .val .null, .val (.ref s.heap.size)] [.int (Int32.ofNat len), .ref s.heap.size, .ref a])) := c9.trans (by
      refine XS.astore X8.here hexec rfl (hb hbytes d39) rfl rfl rfl ?_
      refine XS.aloadN X8.here hexec rfl (hb hbytes d41) rfl rfl ?_
      refine XS.aload X8.here hexec rfl (hb hbytes d42) rfl rfl ?_
      refine XS.iloadN X8.here hexec rfl (hb hbytes d44) rfl ?_
      exact Steps.refl _)
    rw [n4]; exact hc
  obtain ⟨v11, T11, X11, E11, g11⟩ := X8.callS hexec (CodL.law l s.heap.size N) hown (wks W (staticW "java/lang/String" 47 CodL.yN)) (wk W CodL.tab) (W := 1) (Nat.le_of_ble_eq_true rfl) (Nat.le_of_ble_eq_true rfl) (Nat.le_refl _) (by show 0 + len + 0 ≤ len; omega) (g := (mkF m 45 #[.val (.ref a), .val (.ref b), .val (.int (Int32.ofNat o)), .val (.int (Int32.ofNat len)), .val .null, .val (.ref s.heap.size)] [.int (Int32.ofNat N.slots.size), .ref s.heap.size, .ref a])) rfl (by rw [hml]; rfl) c10 (argsL := [.ref s.heap.size, .int (Int32.ofNat N.slots.size)]) (rest := [.ref a]) rfl rfl (by show 2 * 0 + (1 + 0) ≤ _; decide) (hb hbytes d45) (⟨rfl, n1⟩)
  obtain ⟨rfl, q11⟩ := E11
  have hB11 := hB1.mv (X8.warmed.alike.symm.trans X11.warmed.alike) q11
  have c12 : Steps p.tables e below (s₁.setTop (entryFrame m #[.ref a, .ref b, .int (Int32.ofNat o), .int (Int32.ofNat len), .null] 6)) (T11.setTop (mkF m 48 #[.val (.ref a), .val (.ref b), .val (.int (Int32.ofNat o)), .val (.int (Int32.ofNat len)), .val .null, .val (.ref s.heap.size)] [.int 0, .ref a])) := g11
  obtain ⟨T13, X13, p13, bl13, sl13, st13⟩ := X11.finit hexec hown (wk W (.fieldLink "java/lang/String" 15 "java/lang/String" "coder" "B")) (Or.inr ⟨_, (wk W (.laysFinal "java/lang/String" "java/lang/String" "coder" "B"))⟩) (Or.inl ⟨rfl, hnm⟩) f2 (Or.inl rfl) hB11 (t := .byte) (by decide +kernel) rfl (g := (mkF m 48 #[.val (.ref a), .val (.ref b), .val (.int (Int32.ofNat o)), .val (.int (Int32.ofNat len)), .val .null, .val (.ref s.heap.size)] [.int 0, .ref a])) rfl (rest := []) rfl (hb hbytes d48)
  have c14 : Steps p.tables e below (s₁.setTop (entryFrame m #[.ref a, .ref b, .int (Int32.ofNat o), .int (Int32.ofNat len), .null] 6)) (T13.setTop (mkF m 54 #[.val (.ref a), .val (.ref b), .val (.int (Int32.ofNat o)), .val (.int (Int32.ofNat len)), .val .null, .val (.ref s.heap.size)] [.ref s.heap.size, .ref a])) := (c12.trans (st13 _ (Steps.refl _))).trans (by
    refine XS.aloadN X13.here hexec rfl (hb hbytes d51) rfl rfl ?_
    refine XS.aload X13.here hexec rfl (hb hbytes d52) rfl rfl ?_
    exact Steps.refl _)
  obtain ⟨T15, X15, p15, bl15, sl15, st15⟩ := X13.finit hexec hown (wk W (.fieldLink "java/lang/String" 9 "java/lang/String" "value" "[B")) (Or.inr ⟨_, (wk W (.laysFinal "java/lang/String" "java/lang/String" "value" "[B"))⟩) (Or.inl ⟨rfl, hnm⟩) f1 (Or.inl rfl) bl13 (t := (.array .byte)) (by decide +kernel) rfl (g := (mkF m 54 #[.val (.ref a), .val (.ref b), .val (.int (Int32.ofNat o)), .val (.int (Int32.ofNat len)), .val .null, .val (.ref s.heap.size)] [.ref s.heap.size, .ref a])) rfl (rest := []) rfl (hb hbytes d54)
  have c16 : Steps p.tables e below (s₁.setTop (entryFrame m #[.ref a, .ref b, .int (Int32.ofNat o), .int (Int32.ofNat len), .null] 6)) (T15.setTop (mkF m 57 #[.val (.ref a), .val (.ref b), .val (.int (Int32.ofNat o)), .val (.int (Int32.ofNat len)), .val .null, .val (.ref s.heap.size)] [])) := c14.trans (st15 _ (Steps.refl _))
  have ap := apart (Or.inr ⟨_, (wk W (.laysFinal "java/lang/String" "java/lang/String" "value" "[B"))⟩) (Or.inr ⟨_, (wk W (.laysFinal "java/lang/String" "java/lang/String" "coder" "B"))⟩) f1 f2 (t₁ := .array .byte) (t₂ := .byte) (by decide +kernel) (by decide +kernel) (by decide)
  have al := X8.warmed.alike.symm.trans X15.warmed.alike
  have n7 : T11.heap[s.heap.size]? = some N := by rw [q11]; exact n1.1
  exact ⟨T15, none, _, _, _, X15, by simp, rfl, by omega, (fun _ => rfl), ⟨rfl, _, N, bl15, ((Same.refl D _).set _ (by simp)).set _ (by simp), sl15, (Cell.slots_setSlot_ne _ ap).trans sl13, n1.keep al (p15.other hne (p13.other hne n7)), n2, by rw [al.findClass]; exact n3, n4, n5, fun y c h1 h2 => p15.other h1 (p13.other h1 (by rw [q11]; exact n6 y c h2)), by rw [p15.2.2, p13.2.2, q11]; exact z8⟩, fun fs hl => c16.trans (X15.returnOut hexec hret (hb hbytes d57) hl)⟩
end New4
namespace New1
def yN : MethodName := ⟨"java/lang/String", "<init>", "([C)V"⟩
abbrev yB : ByteArray := jdk_42_method_3_code
theorem d0 : decode yB 0 = .ok (.aload_n 0, 1) := by decide +kernel
theorem d1 : decode yB 1 = .ok (.aload_n 1, 1) := by decide +kernel
theorem d2 : decode yB 2 = .ok (.iconst 0, 1) := by decide +kernel
theorem d3 : decode yB 3 = .ok (.aload_n 1, 1) := by decide +kernel
theorem d4 : decode yB 4 = .ok (.arraylength, 1) := by decide +kernel
theorem d5 : decode yB 5 = .ok (.aconst_null, 1) := by decide +kernel
theorem d6 : decode yB 6 = .ok (.invokespecial 27, 3) := by decide +kernel
theorem d9 : decode yB 9 = .ok (.return_, 1) := by decide +kernel
def site : List Cond := [New4.tab] ++ initW "java/lang/String" 27 New4.yN
def tab : Cond := tabOf yN yB 2 none site
def P (a : Addr) (D : Cell) (fV fC : Field) (b : Addr) (A : Cell) (z : Int32) (args : Array Value) (s : State) : Prop := args = #[.ref a, .ref b] ∧ Blank "java/lang/String" a D s ∧ Found "java/lang/String" "value" "[B" fV s ∧ Found "java/lang/String" "coder" "B" fC s ∧ Ch b A s ∧ StaticIs s "java/lang/String" "COMPACT_STRINGS" "Z" (.int z) ∧ ¬ z = 0 ∧ 0 < A.slots.size ∧ A.slots.size ≤ 536870912 ∧ ∀ i, i < A.slots.size → ¬ 255 < cv A i
def E (a : Addr) (D : Cell) (fV fC : Field) (A : Cell) (r : Option Value) (s u : State) : Prop := Got a D fV fC A 0 A.slots.size r s u
/-- new String(chars), not empty, no char above 255: a Latin-1 String of their low bytes -/
theorem law (l : Launch) (a : Addr) (D : Cell) (fV fC : Field) (b : Addr) (A : Cell) (z : Int32) : Law l yN 2 1 3 52 yB 2 none site (P a D fV fC b A z) (E a D fV fC A) [⟨a, fC.slot⟩, ⟨a, fV.slot⟩] 1 A.slots.size := by
  refine Law.of_walk (plainFor_of_name (by decide +kernel)) (by decide +kernel) (by decide +kernel) (by decide) (fun _ _ h => by rw [h.1]; rfl) (fun _ U U' hal hh h => ⟨h.1, h.2.1.mv hal hh, h.2.2.1.al hal, h.2.2.2.1.al hal, h.2.2.2.2.1.mv hal hh, h.2.2.2.2.2.1.there hal hh, h.2.2.2.2.2.2⟩) (fun r U U' V V' h1 hal h2 h => Got.mv r U U' V V' h1 hal h2 h) ?_
  intro p e s m args below meth c s₁ X0 hexec hbytes hml hret hlk hnm hown hh0 W hP
  obtain ⟨rfl, hB, f1, f2, hA, s1, hz, l0, l2, hp⟩ := hP
  have c1 : Steps p.tables e below (s₁.setTop (entryFrame m #[.ref a, .ref b] 2)) (s₁.setTop (mkF m 0 #[.val (.ref a), .val (.ref b)] [])) := entry rfl
  have c2 : Steps p.tables e below (s₁.setTop (entryFrame m #[.ref a, .ref b] 2)) (s₁.setTop (mkF m 6 #[.val (.ref a), .val (.ref b)] [.null, .int (Int32.ofNat A.slots.size), .int 0, .ref b, .ref a])) := c1.trans (by
    refine XS.aloadN X0.here hexec rfl (hb hbytes d0) rfl rfl ?_
    refine XS.aloadN X0.here hexec rfl (hb hbytes d1) rfl rfl ?_
    refine iconstV X0.here hexec rfl 0 (hb hbytes d2) (by decide) ?_
    refine XS.aloadN X0.here hexec rfl (hb hbytes d3) rfl rfl ?_
    refine X0.alen hexec (hA.1.mv X0.warmed.alike hh0) rfl rfl (hb hbytes d4) ?_
    refine XS.aconstNull X0.here hexec rfl (hb hbytes d5) ?_
    exact Steps.refl _)
  obtain ⟨v3, T3, X3, E3, g3⟩ := X0.callN hexec (New4.law l a D fV fC b A z 0 A.slots.size) rfl hown (wks W (initW "java/lang/String" 27 New4.yN)) (W New4.tab (by simp only [site, List.mem_cons, List.mem_append, true_or, or_true])) (W := 0) (Nat.le_of_ble_eq_true rfl) (Nat.le_of_ble_eq_true rfl) (Nat.le_refl _) (by show 0 + A.slots.size ≤ A.slots.size; omega) (g := (mkF m 6 #[.val (.ref a), .val (.ref b)] [.null, .int (Int32.ofNat A.slots.size), .int (Int32.ofNat 0), .ref b, .ref a])) rfl (by rw [hml]; rfl) c2 (argsL := [.ref b, .int (Int32.ofNat 0), .int (Int32.ofNat A.slots.size), .null]) (rest := []) rfl rfl (by show 2 * 0 + 0 ≤ _; decide) (hb hbytes d6) (⟨rfl, hB.mv X0.warmed.alike hh0, f1.al X0.warmed.alike, f2.al X0.warmed.alike, hA.mv X0.warmed.alike hh0, s1.there X0.warmed.alike hh0, hz, l0, by omega, l2, fun i hi => by rw [Nat.zero_add]; exact hp i hi⟩)
  have e0 := Got.mv _ s₁ s _ _ hh0.symm (Vm.Alike.refl _) rfl E3
  obtain rfl := e0.1
  have c4 : Steps p.tables e below (s₁.setTop (entryFrame m #[.ref a, .ref b] 2)) (T3.setTop (mkF m 9 #[.val (.ref a), .val (.ref b)] [])) := g3
  exact ⟨T3, none, _, _, _, X3, by simp, rfl, by omega, (fun _ => rfl), e0, fun fs hl => c4.trans (X3.returnOut hexec hret (hb hbytes d9) hl)⟩
theorem pays {l : Launch} {R : Room} {p : Program} {e : Env} {below : List Frame} {s : State} {sargs : Array Value} {len W : Nat} (a : Addr) (D : Cell) (fV fC : Field) (b : Addr) (A : Cell) (z : Int32) (htab : tab.before sargs s = true) (hfr : 4 ≤ R.frames) (hlo : W + 65 ≤ R.locals) :
    Back l R p e below s sargs yN len W (fun A₁ a₁ => A₁.cells + 1 ≤ R.cells ∧ A₁.slots + A.slots.size ≤ R.slots ∧ P a D fV fC b A z a₁ A₁.U) (fun A₁ _ v₁ B₁ => E a D fV fC A v₁ A₁.U B₁.U ∧ B₁.locs = A₁.locs ++ [⟨a, fC.slot⟩, ⟨a, fV.slot⟩] ∧ B₁.cells = A₁.cells + 1 ∧ B₁.slots = A₁.slots + A.slots.size) :=
  (law l a D fV fC b A z).pays htab hfr (by omega)
end New1
end StrChars
namespace StrChars.Road
open Jvm Sem ClassFile Op Lib Jvm.Stand Jvm.Free Jvm.Free.XT
open Jvm.Lib.Cold (StaticIs)
abbrev ST : String := "java/lang/String"
/-- every table word that New1's law asks, flat -/
abbrev words : List Jvm.Cond := [.code New1.yN New1.yB 2 none, .initialized ST, .methodLink ST 27 New4.yN, .instanceMethod New4.yN,
  .code New4.yN New4.yB 6 none, .fieldLink ST 38 ST "COMPACT_STRINGS" "Z", .laysFinal ST ST "value" "[B", .fieldLink ST 9 ST "value" "[B", .laysFinal ST ST "coder" "B", .fieldLink ST 15 ST "coder" "B",
  .methodLink ST 1 Lib.objectInit, .instanceMethod Lib.objectInit, .code Lib.objectInit ⟨#[0xb1]⟩ 1 none, .methodLink ST 177 Cmp3.yN, .static Cmp3.yN, .methodLink ST 47 CodL.yN, .static CodL.yN,
  .code Cmp3.yN Cmp3.yB 6 (some (.array .byte)), .initialized U16, .arrayClass .byte, .methodLink U16 115 Cmp5.yN, .static Cmp5.yN, .code Cmp5.yN Cmp5.yB 7 (some .int), .code CodL.yN CodL.yB 2 (some .byte)]
theorem tab_of {a : Array Value} {s : State} (h : ∀ w ∈ words, w.before a s = true) : New1.tab.before a s = true := by
  have h5 : Cmp5.tab.before a s = true := unparts (wk h (.code Cmp5.yN Cmp5.yB 7 (some .int))) (wks h (.initialized Cmp5.yN.cls :: Cmp5.site))
  have hc : CodL.tab.before a s = true := unparts (wk h (.code CodL.yN CodL.yB 2 (some .byte))) (wks h (.initialized CodL.yN.cls :: CodL.site))
  have q5 : ∀ w ∈ Cmp5.tab :: words, w.before a s = true := fun w hw => (List.mem_cons.mp hw).elim (fun e => e ▸ h5) (h w)
  have h3 : Cmp3.tab.before a s = true := unparts (wk q5 (.code Cmp3.yN Cmp3.yB 6 (some (.array .byte)))) (wks q5 (.initialized Cmp3.yN.cls :: Cmp3.site))
  have q3 : ∀ w ∈ Cmp3.tab :: CodL.tab :: words, w.before a s = true := fun w hw => (List.mem_cons.mp hw).elim (fun e => e ▸ h3) fun hw => (List.mem_cons.mp hw).elim (fun e => e ▸ hc) (h w)
  have h4 : New4.tab.before a s = true := unparts (wk q3 (.code New4.yN New4.yB 6 none)) (wks q3 (.initialized New4.yN.cls :: New4.site))
  have q4 : ∀ w ∈ New4.tab :: words, w.before a s = true := fun w hw => (List.mem_cons.mp hw).elim (fun e => e ▸ h4) (h w)
  exact unparts (wk q4 (.code New1.yN New1.yB 2 none)) (wks q4 (.initialized New1.yN.cls :: New1.site))
/-- the words ride from the start Z to the walk's own state -/
theorem moved {Z s : State} {a0 args : Array Value} (hZ : Z.Warmed39 s.vm) (hw : ∀ d ∈ words, d.before a0 Z = true) : ∀ d ∈ words, d.before args s = true := fun d hd => by
  have q := hw d hd
  have t : ∀ d ∈ words, d = .arrayClass .byte ∨ (d.onTables && d.keepsFace) = true := by decide +kernel
  rcases t d hd with rfl | t
  · exact RoadKit.mvA hZ q
  · exact RoadKit.mv hZ q t
/-- WHAT COMES BACK, over the tables of the start Z: h the heap at the call, h' behind it -/
def Q (Z : State) (x : Addr) (A : Cell) (h : Heap) (v : Option Value) (h' : Heap) (L : List Loc) : Prop := v = none ∧ (∀ y ∈ L, y.base = x) ∧ RoadKit.Keep h h' [x] ∧ h'.size = h.size + 1 ∧ RoadKit.Exa Z h' x ST ∧ RoadKit.Fld Z h' x ST "value" "[B" (.ref h.size) ∧ RoadKit.Fld Z h' x ST "coder" "B" (.int 0) ∧
  (∃ V : Cell, RoadKit.Arr Z h' h.size V .byte ∧ V.vm = .none ∧ Z.vm.findClass "[B" = some V.cls ∧ V.slots.size = A.slots.size ∧ ∀ j, j < A.slots.size → V.slots[j]? = some (.int (lo8 (cv A j)))) ∧
  ∀ (O n d : String) (w : Value), RoadKit.Fld Z h x O n d w → RoadKit.slotOf Z O n d ≠ RoadKit.slotOf Z ST "value" "[B" → RoadKit.slotOf Z O n d ≠ RoadKit.slotOf Z ST "coder" "B" → RoadKit.Fld Z h' x O n d w
/-- **new String(chars) AT A CALL, IN THE ROAD'S FORM**: for specialBack behind newO: x the fresh String, b the char[] with the cell A -/
theorem back {p : Program} {l : Launch} {e : Env} {R : Room} {s : State} {args : Array Value} {below : List Frame} {len W : Nat} {Z : State} {a0 : Array Value} {h : Heap} (hZ : Z.Warmed39 s.vm) (hw : ∀ d ∈ words, d.before a0 Z = true) {kI : Nat} (wi : (Jvm.Cond.instantiable ST kI).before a0 Z = true)
    {x b : Addr} {A : Cell} {z : Int32} {v0 c0 : Value} (E : RoadKit.Exa Z h x ST) (V : RoadKit.Fld Z h x ST "value" "[B" v0) (C : RoadKit.Fld Z h x ST "coder" "B" c0) (K : RoadKit.Arr Z h b A .char) (hty : Typed .char A) (S : RoadKit.Sta Z h ST "COMPACT_STRINGS" "Z" (.int z)) (hz : ¬ z = 0)
    (l0 : 0 < A.slots.size) (l2 : A.slots.size ≤ 536870912) (hp : ∀ i, i < A.slots.size → ¬ 255 < cv A i) (hfr : 4 ≤ R.frames) (hlo : W + 65 ≤ R.locals) :
    Back l R p e below s args New1.yN len W (fun P a => a = #[.ref x, .ref b] ∧ P.U.heap = h ∧ P.cells + 1 ≤ R.cells ∧ P.slots + A.slots.size ≤ R.slots)
      (fun P _ v B => ∃ L, Q Z x A h v B.U.heap L ∧ B.locs = P.locs ++ L ∧ B.cells = P.cells + 1 ∧ B.slots = P.slots + A.slots.size) := by
  intro m meth c P g ig mk a X hg hsize hdg hW hn hp'
  obtain ⟨rfl, rfl, r1, r2⟩ := hp'
  have al : Z.vm.Alike P.U.vm := hZ.alike.trans X.warmed.alike
  obtain ⟨D, cfV, kV, iV, fV, hD, gV, stV, knV, obV, asV, slV⟩ := id V
  obtain ⟨D', cfC, kC, iC, fC, hD', gC, stC, -, -, asC, slC⟩ := id C
  cases hD.symm.trans hD'
  obtain ⟨D2, kD, e1, e2, e3, e4, e5⟩ := id E
  cases hD.symm.trans e1
  obtain ⟨c2, k2, i1, i2, i3, -⟩ := Cond.instantiable_spec wi
  cases e2.symm.trans i1
  cases e3.symm.trans i2
  obtain ⟨kU, u1, u2⟩ := al.2.2 _ _ e3
  have hB : Blank ST x D P.U := ⟨hD, ⟨knV, fun q hq => by rw [hq] at obV; cases obV⟩, by rw [al.findClass]; exact e2, kU, u1, by rw [u2]; exact i3, by rw [u2]; exact e5 i3⟩
  have F1 : Found ST "value" "[B" fV P.U := ⟨SBG.found_only al ⟨cfV, kV, iV, gV⟩, stV⟩
  have F2 : Found ST "coder" "B" fC P.U := ⟨SBG.found_only al ⟨cfC, kC, iC, gC⟩, stC⟩
  have hA : Ch b A P.U := ⟨⟨K.1, State.isArrayOf_alike al K.2.1, K.2.2, by omega⟩, hty⟩
  have hS : StaticIs P.U ST "COMPACT_STRINGS" "Z" (.int z) := by
    obtain ⟨cfS, iS, kS, fS, st, cS, t1, t2, t3, t4, t5, t6, t7⟩ := S
    exact StaticIs.there (s := { Z with heap := P.U.heap }) ⟨cfS, iS, kS, fS, st, cS, t1, t2, t3, t4, t5, (fun q => by rw [q] at t6; cases t6), t7⟩ al rfl
  obtain ⟨v, B, X', ⟨⟨hv, E', V', q1, q2, q3, q4, q5, q6, q7, q8, q9, q10, q11⟩, hl, hc, hs⟩, st⟩ := New1.pays x D fV fC b A z (tab_of (moved hZ hw)) hfr hlo m meth c P g ig mk _ X hg hsize hdg hW hn ⟨r1, r2, rfl, hB, F1, F2, hA, hS, hz, l0, l2, hp⟩
  have al' : Z.vm.Alike B.U.vm := hZ.alike.trans X'.warmed.alike
  have hsz : E'.slots.size = D.slots.size := by
    obtain ⟨-, -, -, kB, w1, w2, w3⟩ := q1
    obtain ⟨kB', y1, y2⟩ := al'.2.2 _ _ e3
    rw [q2.2.1] at w1
    cases w1.symm.trans y1
    rw [w3, e5 i3, y2]
  refine ⟨v, B, X', ⟨_, ⟨hv, ?_, ⟨by omega, fun y cy hy hn' => q10 y cy (by simpa using hn') hy, fun y cy hy => ?_⟩, q11, ⟨E', _, q1.1, by rw [q2.2.1]; exact e2, by rw [q2.2.1]; exact e3, by rw [q2.1]; exact obV, fun _ => by rw [hsz]; exact e5 i3⟩,
    ⟨E', cfV, kV, iV, fV, q1.1, gV, stV, by rw [q2.1]; exact knV, by rw [q2.1]; exact obV, by rw [q2.2.1]; exact asV, q3⟩, ⟨E', cfC, kC, iC, fC, q1.1, gC, stC, by rw [q2.1]; exact knV, by rw [q2.1]; exact obV, by rw [q2.2.1]; exact asC, q4⟩,
    ⟨V', ⟨q5.1, State.isArrayOf_alike al'.symm q5.2.1, q5.2.2.1⟩, q6, by rw [← al'.findClass]; exact q7, q8, fun j hj => by have := q9 j hj; rwa [Nat.zero_add] at this⟩, fun O n d w F n1 n2 => ?_⟩, hl, hc, hs⟩, st⟩
  · intro y hy
    simp only [List.mem_cons, List.not_mem_nil, or_false] at hy
    rcases hy with rfl | rfl <;> rfl
  · by_cases q : y = x
    · subst q
      cases hD.symm.trans hy
      exact ⟨E', q1.1, q2.2.1, q2.1, hsz⟩
    · exact ⟨cy, q10 y cy q hy, rfl, rfl, rfl⟩
  · obtain ⟨D3, cf, k, i, f, g1, g2, g3, g4, g5, g6, g7⟩ := F
    cases hD.symm.trans g1
    simp only [RoadKit.slotOf, g2, gV, gC, Option.map_some, Option.getD_some] at n1 n2
    exact ⟨E', cf, k, i, f, q1.1, g2, g3, by rw [q2.1]; exact g4, by rw [q2.1]; exact g5, by rw [q2.2.1]; exact g6, by rw [q2.2.2 f.slot (by simp [n1, n2])]; exact g7⟩
end StrChars.Road
namespace StrChars.Road
open Jvm Sem ClassFile Op Lib Jvm.Stand Jvm.Free Jvm.Free.XT
/-- WHAT COMES BACK, the byte[] as a list of values -/
def QA (Z : State) (x : Addr) (zn : Int32) (cs : List Int32) (h : Heap) (v : Option Value) (h' : Heap) (L : List Loc) : Prop := v = none ∧ (∀ y ∈ L, y.base = x) ∧ RoadKit.Keep h h' [x] ∧ h'.size = h.size + 1 ∧ RoadKit.Exa Z h' x ST ∧ RoadKit.Fld Z h' x ST "value" "[B" (.ref h.size) ∧ RoadKit.Fld Z h' x ST "coder" "B" (.int 0) ∧
  (∃ kb, Z.vm.findClass "[B" = some kb ∧ RoadKit.Arv Z h' h.size kb .byte zn (cs.map fun c => .int (lo8 c)) (.int 0)) ∧
  ∀ (O n d : String) (w : Value), RoadKit.Fld Z h x O n d w → RoadKit.slotOf Z O n d ≠ RoadKit.slotOf Z ST "value" "[B" → RoadKit.slotOf Z O n d ≠ RoadKit.slotOf Z ST "coder" "B" → RoadKit.Fld Z h' x O n d w
/-- **new String(chars) AT A CALL, THE ARRAYS AS LISTS**: the char[] at b holds cs, not empty, no char above 255 -/
theorem backArv {p : Program} {l : Launch} {e : Env} {R : Room} {s : State} {args : Array Value} {below : List Frame} {len W : Nat} {Z : State} {a0 : Array Value} {h : Heap} (hZ : Z.Warmed39 s.vm) (hw : ∀ d ∈ words, d.before a0 Z = true) {kI : Nat} (wi : (Jvm.Cond.instantiable ST kI).before a0 Z = true)
    {x b : Addr} {k : ClassId} {zn z : Int32} {cs : List Int32} {dv v0 c0 : Value} (E : RoadKit.Exa Z h x ST) (V : RoadKit.Fld Z h x ST "value" "[B" v0) (C : RoadKit.Fld Z h x ST "coder" "B" c0) (K : RoadKit.Arv Z h b k .char zn (cs.map Value.int) dv) (S : RoadKit.Sta Z h ST "COMPACT_STRINGS" "Z" (.int z)) (hz : ¬ z = 0)
    (hlen : zn.toNatClampNeg = cs.length) (h0 : 0 < cs.length) (hbig : cs.length ≤ 536870912) (hall : ∀ c ∈ cs, ¬ 255 < c) (hfr : 4 ≤ R.frames) (hlo : W + 65 ≤ R.locals) :
    Back l R p e below s args New1.yN len W (fun P a => a = #[.ref x, .ref b] ∧ P.U.heap = h ∧ P.cells + 1 ≤ R.cells ∧ P.slots + cs.length ≤ R.slots)
      (fun P _ v B => ∃ L, QA Z x zn cs h v B.U.heap L ∧ B.locs = P.locs ++ L ∧ B.cells = P.cells + 1 ∧ B.slots = P.slots + cs.length) := by
  obtain ⟨A, K1, K2, K3, K4, K5, K6⟩ := K
  have e : A.slots.size = cs.length := K3.trans hlen
  have hat : ∀ (i : Nat) (hi : i < cs.length), A.slots[i]? = some (.int cs[i]) := fun i hi => by rw [K5 i (by omega)]; simp [List.getD_eq_getElem?_getD, hi]
  have hcv : ∀ (i : Nat) (hi : i < cs.length), cv A i = cs[i] := fun i hi => by unfold cv; rw [hat i hi]
  have hty : Typed .char A := fun i v hv => by
    have hi : i < A.slots.size := (Array.getElem?_eq_some_iff.mp hv).1
    have q := K5 i hi
    rw [hv] at q
    rw [Option.some.inj q]
    exact K6 i hi
  refine Back.mono (back hZ hw wi E V C K1 hty S hz (by omega) (by omega) (fun i hi => by rw [hcv i (by omega)]; exact hall _ (List.getElem_mem _)) hfr hlo) (fun P a hp => ⟨hp.1, hp.2.1, hp.2.2.1, by rw [e]; exact hp.2.2.2⟩) (fun P a v B hp hq => ?_)
  obtain ⟨L, ⟨q1, q2, q3, q4, q5, q6, q7, ⟨V', v1, v2, v3, v4, v5⟩, q9⟩, hl, hc, hs⟩ := hq
  refine ⟨L, ⟨q1, q2, q3, q4, q5, q6, q7, ⟨V'.cls, v3, V', v1, rfl, by rw [v4, e, hlen], K4, fun i hi => ?_, fun i hi => ?_⟩, q9⟩, hl, hc, by rw [hs, e]⟩
  · have hi' : i < cs.length := by omega
    rw [v5 i (by omega), hcv i hi']; simp [List.getD_eq_getElem?_getD, hi']
  · have hi' : i < cs.length := by omega
    simp only [List.getD_eq_getElem?_getD, List.getElem?_map, List.getElem?_eq_getElem hi', Option.map_some, Option.getD_some]
    exact fits_lo8 _
end StrChars.Road
namespace StrChars.Road
open Jvm Sem ClassFile Op Lib Jvm.Stand Jvm.Free Jvm.Free.XT
/-- WHAT COMES BACK, in the writer's own shape -/
def QV (Z : State) (x : Addr) (N : Int32) (bs : List Int32) (h : Heap) (n0 : Nat) (v : Option Value) (h' : Heap) (L : List Loc) : Prop := v = none ∧ RoadKit.Fr n0 L ∧ RoadKit.Keep h h' [x] ∧ RoadKit.Exa Z h' x ST ∧ RoadKit.Fld Z h' x ST "coder" "B" (.int 0) ∧
  ∃ (t : Addr) (kb : ClassId), n0 ≤ t ∧ h.size ≤ t ∧ ¬ t = x ∧ RoadKit.Fld Z h' x ST "value" "[B" (.ref t) ∧ RoadKit.Arv Z h' t kb .byte N (bs.map Value.int) (.int 0)
/-- **new String(chars) AT A CALL, FOR THE WRITER**: a char[] of n known ints, each 0 to 255 -/
theorem backV {p : Program} {l : Launch} {e : Env} {R : Room} {s : State} {args : Array Value} {below : List Frame} {len W : Nat} {Z : State} {a0 : Array Value} {h : Heap} (hZ : Z.Warmed39 s.vm) (hw : ∀ d ∈ words, d.before a0 Z = true) {kI : Nat} (wi : (Jvm.Cond.instantiable ST kI).before a0 Z = true)
    {x b : Addr} {kC : ClassId} {cs bs : List Int32} {d v0 c0 : Value} {z N : Int32} {n n0 : Nat} (hx0 : n0 ≤ x) (hh0 : n0 ≤ h.size) (E : RoadKit.Exa Z h x ST) (V : RoadKit.Fld Z h x ST "value" "[B" v0) (C : RoadKit.Fld Z h x ST "coder" "B" c0) (K : RoadKit.Arv Z h b kC .char N (cs.map Value.int) d) (S : RoadKit.Sta Z h ST "COMPACT_STRINGS" "Z" (.int z)) (hz : ¬ z = 0)
    (hn : cs.length = n) (hN : N = Int32.ofNat n) (l0 : 0 < n) (l2 : n ≤ 4000) (hp : ∀ c ∈ cs, ¬ c < 0 ∧ ¬ (255 : Int32) < c) (hb : bs = cs.map (fun c => c.toInt8.toInt32)) (hfr : 4 ≤ R.frames) (hlo : W + 65 ≤ R.locals) :
    Back l R p e below s args (⟨"java/lang/String", "<init>", "([C)V"⟩ : MethodName) len W (fun P a => a = #[.ref x, .ref b] ∧ P.U.heap = h ∧ P.cells + 1 ≤ R.cells ∧ P.slots + n ≤ R.slots)
      (fun P _ v B => ∃ L, QV Z x N bs h n0 v B.U.heap L ∧ B.locs = P.locs ++ L ∧ B.cells = P.cells + 1 ∧ B.slots = P.slots + n) := by
  subst hn hN hb
  refine Back.mono (backArv hZ hw wi E V C K S hz (n32 (by omega)) l0 (by omega) (fun c hc => (hp c hc).2) hfr hlo) (fun P a hp => hp) (fun P a v B hp hq => ?_)
  obtain ⟨L, ⟨q1, q2, q3, q4, q5, q6, q7, ⟨kb, v1, v2⟩, q9⟩, hl, hc, hs⟩ := hq
  exact ⟨L, ⟨q1, fun y hy => by rw [q2 y hy]; exact hx0, q3, q5, q7, h.size, kb, hh0, Nat.le_refl _, Nat.ne_of_gt E.lt, q6, by rw [List.map_map]; exact v2⟩, hl, hc, hs⟩
end StrChars.Road
end Jvm.Pilot.@@N@@

namespace Jvm.Pilot.@@N@@
open Jvm Jvm.ClassFile Sem Op Lib Jvm.Free Jvm.Stand Jvm.LawKit Jvm.RoadKit Bundle Jvm.Pilot.@@N@@.Jvm.D
section Own
variable {p : Program} {l : Launch} {e : Env} {R : Room} {s : State} {m : MethodId} {args : Array Value} {below : List Frame} {meth : Method} {c : Code} {T : State} {locs : List Loc} {cells slots : Nat}
/-- from t on the body comes to an end, with at most C cells and S slots made, and Q says of it -/
def own_Comes (p : Program) (e : Env) (below : List Frame) (s : State) (C S : Nat) (Q : Option Value → Heap → List Loc → Prop) (t : State) : Prop :=
  ∃ (U : State) (o : Outcome), Steps p.tables e below t U ∧ U.status = .running ∧ Ended U below o ∧ ∃ v L, o = .returned v ∧ Q v U.heap L ∧ FrameEnd s o U L C S
theorem own_by {C S : Nat} {Q : Option Value → Heap → List Loc → Prop} {t t' : State} (st : ∀ target, Steps p.tables e below t' target → Steps p.tables e below t target) (h : own_Comes p e below s C S Q t') : own_Comes p e below s C S Q t := by
  obtain ⟨U, o, h1, h2⟩ := h
  exact ⟨U, o, st _ h1, h2⟩
theorem own_tr {C S : Nat} {Q : Option Value → Heap → List Loc → Prop} {t t' : State} (st : Steps p.tables e below t t') (h : own_Comes p e below s C S Q t') : own_Comes p e below s C S Q t := by
  obtain ⟨U, o, h1, h2⟩ := h
  exact ⟨U, o, st.trans h1, h2⟩
theorem own_ret (X : Stand p l e R s m args below meth c T locs cells slots) {C S : Nat} {Q : Option Value → Heap → List Loc → Prop} {v : Option Value} {t : State} (hv : meth.sig.returnType = none → v = none) (hlk : meth.locks = false) (hC : cells ≤ C) (hS : slots ≤ S) (hQ : Q v T.heap locs)
    (st : ∀ fs, (∀ (f : JFrame) (acts : List Action), f.method = m → f.locked = none → f.entered = [] → (doReturn e (T.setTop f) acts v).1 = T.setFrames fs) → Steps p.tables e below t (T.setFrames fs)) : own_Comes p e below s C S Q t := by
  obtain ⟨fs, hr, hrun, hended, hW, hsame⟩ := X.leave (v := v) hv hlk
  exact ⟨_, _, st fs hr, hrun, hended, v, locs, rfl, hQ, ⟨_, rfl⟩, hW, hsame.mono hC hS⟩
theorem retI (X : Stand p l e R s m args below meth c T locs cells slots) (hx : p.tables.exec = Jvm.exec) {pc : Nat} {Ls : Array Slot} {z : Int32} {rest : List Value} (hret : meth.sig.returnType = some .int) (hd : decode c.code pc = .ok (.ireturn, 1)) {fs : List Frame}
    (hl : ∀ (f : JFrame) (acts : List Action), f.method = m → f.locked = none → f.entered = [] → (doReturn e (T.setTop f) acts (some (.int z))).1 = T.setFrames fs) : Steps p.tables e below (T.setTop (mkF m pc Ls (.int z :: rest))) (T.setFrames fs) := by
  have hm' : T.vm.method? m = some meth := X.method'
  have hn : narrow .int (.int z) = .int z := rfl
  show Steps p.tables e below (T.setTop { method := m, pc := pc, locals := Ls, stack := _ :: rest, locked := none }) _
  jvm_step X.here [X.here.top, hx, hd, hm', hret, hn]
  first | (intro acts; rw [hl _ acts rfl rfl rfl]) | rw [hl _ _ rfl rfl rfl]
  exact Steps.refl _
theorem own_reta (X : Stand p l e R s m args below meth c T locs cells slots) (hx : p.tables.exec = Jvm.exec) {pc : Nat} {Ls : Array Slot} {w : Value} {t : FieldType} {rest : List Value} (hret : meth.sig.returnType = some t) (ht : t.isReference = true) (hw : w.isRef = true) (hd : decode c.code pc = .ok (.areturn, 1)) {fs : List Frame}
    (hl : ∀ (f : JFrame) (acts : List Action), f.method = m → f.locked = none → f.entered = [] → (doReturn e (T.setTop f) acts (some w)).1 = T.setFrames fs) : Steps p.tables e below (T.setTop (mkF m pc Ls (w :: rest))) (T.setFrames fs) := by
  have hm' : T.vm.method? m = some meth := X.method'
  have hn : narrow t w = w := by cases t <;> first | (cases ht; done) | (cases w <;> rfl)
  rcases ref_cases hw with rfl | ⟨z, rfl⟩
  all_goals
    show Steps p.tables e below (T.setTop { method := m, pc := pc, locals := Ls, stack := _ :: rest, locked := none }) _
    jvm_step X.here [X.here.top, hx, hd, hm', hret, hn, Value.isRef]
    try (refine ⟨ht, ?_⟩)
    first | (intro acts; rw [hl _ acts rfl rfl rfl]) | rw [hl _ _ rfl rfl rfl]
    exact Steps.refl _
/-- what is kept with nothing old written is only added to -/
theorem own_ext {h h' : Heap} (K : Keep h h' []) : Ext h h' := ⟨K.1, fun x c q => K.2.1 x c q nin0⟩
/-- the same, where String constants may have been loaded -/
def own_ComesW (p : Program) (e : Env) (below : List Frame) (s : State) (C S : Nat) (Q : Option Value → Heap → List Loc → Prop) (t : State) : Prop :=
  ∃ (U : State) (o : Outcome), Steps p.tables e below t U ∧ U.status = .running ∧ Ended U below o ∧ ∃ v L, o = .returned v ∧ Q v U.heap L ∧ ReturnedEndW s o U L C S
theorem own_byW {C S : Nat} {Q : Option Value → Heap → List Loc → Prop} {t t' : State} (st : ∀ target, Steps p.tables e below t' target → Steps p.tables e below t target) (h : own_ComesW p e below s C S Q t') : own_ComesW p e below s C S Q t := by
  obtain ⟨U, o, h1, h2⟩ := h
  exact ⟨U, o, st _ h1, h2⟩
theorem own_trW {C S : Nat} {Q : Option Value → Heap → List Loc → Prop} {t t' : State} (st : Steps p.tables e below t t') (h : own_ComesW p e below s C S Q t') : own_ComesW p e below s C S Q t := by
  obtain ⟨U, o, h1, h2⟩ := h
  exact ⟨U, o, st.trans h1, h2⟩
theorem own_retW {vm1 : Vm} (X : Stand p l e R (s.setVm vm1) m args below meth c T locs cells slots) {k : Nat} (hS : s.Since vm1 k) (hk : k ≤ T.heap.size) {C S : Nat} {Q : Option Value → Heap → List Loc → Prop} {v : Option Value} {t : State} (hv : meth.sig.returnType = none → v = none) (hlk : meth.locks = false) (hC : cells ≤ C) (hSl : slots ≤ S) (hQ : Q v T.heap locs)
    (st : ∀ fs, (∀ (f : JFrame) (acts : List Action), f.method = m → f.locked = none → f.entered = [] → (doReturn e (T.setTop f) acts v).1 = T.setFrames fs) → Steps p.tables e below t (T.setFrames fs)) : own_ComesW p e below s C S Q t := by
  obtain ⟨fs, hr, hrun, hended, hE⟩ := X.leaveW hS hk (v := v) hv hlk
  exact ⟨_, _, st fs hr, hrun, hended, v, locs, rfl, hQ, hE.1, hE.2.1, hE.2.2.1, hE.2.2.2.mono hC hSl⟩
end Own
theorem own_nosub {Z : State} {a0 : Array Value} {K : String} {n : Nat} (w1 : (Jvm.Cond.superclass "java/lang/Integer" "java/lang/Number").before a0 Z = true) (w2 : (Jvm.Cond.superclass "java/lang/Number" "java/lang/Object").before a0 Z = true) (w3 : (Jvm.Cond.noSuperclass "java/lang/Object").before a0 Z = true) (wi : (Jvm.Cond.instantiable K n).before a0 Z = true)
    (h1 : "java/lang/Integer" ≠ K) (h2 : "java/lang/Number" ≠ K) (h3 : "java/lang/Object" ≠ K) : ∃ c t, Z.vm.findClass "java/lang/Integer" = some c ∧ Z.vm.findClass K = some t ∧ Z.vm.assignable c t = false := by
  obtain ⟨t, kt, g1, g2, g3, g4, -⟩ := Cond.instantiable_spec wi
  obtain ⟨c, c1⟩ := found_sup w1
  obtain ⟨p, k, kp, a1, a2, a3, a4, a5, -, a7⟩ := Cond.superclass_spec c1 w1
  obtain ⟨q, k', kq, b1, b2, b3, b4, -⟩ := Cond.superclass_spec a1 w2
  obtain ⟨o, ko, o1, o2, o3, -⟩ := Cond.noSuperclass_spec w3
  cases b1.symm.trans o1
  have n1 := ids_ne c1 g1 h1
  have n2 := ids_ne a1 g1 h2
  have n3 := ids_ne o1 g1 h3
  have s3 : ∀ fuel, Z.vm.isSubclassAux fuel q t = false := fun fuel => by
    cases fuel with
    | zero => rfl
    | succ f => simp [Vm.isSubclassAux, n3, o2, o3]
  have s2 : ∀ fuel, Z.vm.isSubclassAux fuel p t = false := fun fuel => by
    cases fuel with
    | zero => rfl
    | succ f => simp [Vm.isSubclassAux, n2, b2, b4, s3]
  have s1 : ∀ fuel, Z.vm.isSubclassAux fuel c t = false := fun fuel => by
    cases fuel with
    | zero => rfl
    | succ f => simp [Vm.isSubclassAux, n1, a2, a4, s2]
  have hi : kt.isInterface = false := (Bool.or_eq_false_iff.mp g4).1
  refine ⟨c, t, c1, g1, ?_⟩
  show Z.vm.assignableAux (255 + 1) c t = false
  simp [Vm.assignableAux, n1, a2, g2, a5, g3, hi, Vm.isSubclass, s1]
theorem own_ic {p : Int32} (h1 : ¬ p < (-128 : Int32)) (h2 : ¬ (127 : Int32) < p) {c : Cell} (S : c.slots.size = (256 : Int32).toNatClampNeg) : ¬ ((p + (128 : Int32)) < 0 ∨ c.slots.size ≤ (p + (128 : Int32)).toNatClampNeg) := by
  refine inb_of S ?_
  rw [Int32.lt_iff_toInt_lt] at h1 h2
  have a1 := c_iadd p (128 : Int32)
  have a2 := rng32 (p + (128 : Int32))
  have e1 : (-128 : Int32).toInt = -128 := by decide
  have e2 : (127 : Int32).toInt = 127 := by decide
  have e3 : (128 : Int32).toInt = 128 := by decide
  have e4 : (256 : Int32).toInt = 256 := by decide
  have e0 : (0 : Int32).toInt = 0 := by decide
  rw [Int32.lt_iff_toInt_lt, Int32.lt_iff_toInt_lt]; omega
theorem own_lc {q : Int64} (h1 : ¬ q < (-128 : Int64)) (h2 : ¬ (127 : Int64) < q) {c : Cell} (S : c.slots.size = (256 : Int32).toNatClampNeg) : ¬ ((q.toInt32 + (128 : Int32)) < 0 ∨ c.slots.size ≤ (q.toInt32 + (128 : Int32)).toNatClampNeg) := by
  refine inb_of S ?_
  rw [Int64.lt_iff_toInt_lt] at h1 h2
  have a0 := c_l2i q
  have a1 := c_iadd q.toInt32 (128 : Int32)
  have a2 := rng32 (q.toInt32 + (128 : Int32))
  have a3 := rng32 q.toInt32
  have e1 : (-128 : Int64).toInt = -128 := by decide
  have e2 : (127 : Int64).toInt = 127 := by decide
  have e3 : (128 : Int32).toInt = 128 := by decide
  have e4 : (256 : Int32).toInt = 256 := by decide
  have e0 : (0 : Int32).toInt = 0 := by decide
  rw [Int32.lt_iff_toInt_lt, Int32.lt_iff_toInt_lt]; omega
theorem own_and255 (x : Int32) : ¬ ((x &&& (255 : Int32)).toUInt32.toUInt16.toUInt32.toInt32) < 0 ∧ ¬ (255 : Int32) < ((x &&& (255 : Int32)).toUInt32.toUInt16.toUInt32.toInt32) := by
  rw [i2c_mask]
  have e : (255 : Int32).toInt = 255 := by decide
  have h := c_and x (255 : Int32) (by rw [e]; decide)
  rw [e] at h
  have e0 : (0 : Int32).toInt = 0 := by decide
  rw [Int32.lt_iff_toInt_lt, Int32.lt_iff_toInt_lt]; omega
theorem own_narchar (x : Int32) : nar .char ((x &&& (255 : Int32)).toUInt32.toUInt16.toUInt32.toInt32) = ((x &&& (255 : Int32)).toUInt32.toUInt16.toUInt32.toInt32) := by
  show (((x &&& (255 : Int32)).toUInt32.toUInt16.toUInt32.toInt32).toUInt32.toUInt16.toUInt32.toInt32) = _
  rw [i2c_mask, i2c_mask]

theorem own_len {t : Term} {args : Array Value} {s : State} {a : Addr} {c : Cell} {ty : FieldType} (et : t.eval args s none [] s = some (.ref a)) (A : Arr s s.heap a c ty) (h : (Term.length t).eval args s none [] s = some (.int (256 : Int32))) : c.slots.size < 2 ^ 31 ∧ c.slots.size.toInt32 = (256 : Int32) := by
  have hA := A.fin (Vm.Alike.refl _)
  by_cases q : c.slots.size < 2 ^ 31
  · exact ⟨q, Value.int.inj (Option.some.inj ((len_f et hA q).symm.trans h))⟩
  · simp [Term.eval, et, hA, q] at h
theorem own_idx {args : Array Value} {s : State} {j : Int32} (hj : ¬ j < 0) : (Term.sub (Term.index 0) (Term.int (128 : Int32))).eval args s none [j.toNatClampNeg] s = some (.int (j - (128 : Int32))) := by
  have := idx_at (args := args) (s := s) (first := s) (o := none) hj
  simp [Term.eval] at this ⊢
  simp [this]
def own_An (Z : State) (h : Heap) (x : Addr) (k : Addr) (r : Value) (m : Addr) : Prop :=
  Exa Z h x "com/example/layered_mocks/layeredmocks/Answer" ∧ Fld Z h x "com/example/layered_mocks/layeredmocks/Answer" "kind" "Lcom/example/layered_mocks/layeredmocks/Answer$Kind;" (.ref k) ∧ Fld Z h x "com/example/layered_mocks/layeredmocks/Answer" "result" "Ljava/lang/Object;" r ∧ Fld Z h x "com/example/layered_mocks/layeredmocks/Answer" "failure" "Ljava/lang/Throwable;" .null ∧ Fld Z h x "com/example/layered_mocks/layeredmocks/Answer" "faultCode" "Ljava/lang/String;" .null ∧ Fld Z h x "com/example/layered_mocks/layeredmocks/Answer" "faultMessage" "Ljava/lang/String;" .null ∧ Fld Z h x "com/example/layered_mocks/layeredmocks/Answer" "sharedKey" "Ljava/lang/String;" .null ∧ Fld Z h x "com/example/layered_mocks/layeredmocks/Answer" "updates" "Ljava/util/Map;" (.ref m) ∧ Fld Z h x "com/example/layered_mocks/layeredmocks/Answer" "delay" "Ljava/time/Duration;" .null
theorem own_An.ext {Z : State} {h h' : Heap} {x k m : Addr} {r : Value} (A : own_An Z h x k r m) (E : Ext h h') : own_An Z h' x k r m := ⟨A.1.ext E, A.2.1.ext E, A.2.2.1.ext E, A.2.2.2.1.ext E, A.2.2.2.2.1.ext E, A.2.2.2.2.2.1.ext E, A.2.2.2.2.2.2.1.ext E, A.2.2.2.2.2.2.2.1.ext E, A.2.2.2.2.2.2.2.2.ext E⟩
def Q15 (Z : State) (h0 : Heap) (n0 : Nat) (v : Option Value) (h : Heap) (L : List Loc) : Prop := v = none ∧ Fr n0 L ∧ h = h0
theorem ef_rm15 (m : MethodId) (x0 : Addr) : entryFrame m #[(.ref x0)] 1 = mkF m 0 #[.val (.ref x0)] [] := by first | (simp [entryFrame, mkF, argsToLocals, Value.category]; done) | rfl
theorem pn_java_lang_Number : plainName "java/lang/Number" = true := by first | (simp [plainName, overriddenIn]; done) | decide +kernel
theorem d15_0 : decode jdk_18_method_1_code 0 = .ok (.aload_n 0, 1) := by decide +kernel
theorem d15_1 : decode jdk_18_method_1_code 1 = .ok (.invokespecial 1, 3) := by decide +kernel
theorem d15_4 : decode jdk_18_method_1_code 4 = .ok (.return_, 1) := by decide +kernel
set_option maxRecDepth 65536 in
set_option maxHeartbeats 40000000 in
theorem rm15 (l : Launch) (Z : State) (a0 : Array Value) (hw : ∀ d ∈ tables_1, d.before a0 Z = true) (ws : List Jvm.Cond) (r0 : Addr) (h0 : Heap) (n0 : Nat) (Z0 : n0 ≤ h0.size) :
    MetFree l (⟨"java/lang/Number", "<init>", "()V"⟩ : MethodName) (head1 (Jvm.Cond.code (⟨"java/lang/Number", "<init>", "()V"⟩ : MethodName) jdk_18_method_1_code 1 none :: ws) ({ frames := 1, cells := 0, slots := 0, locals := 12 } : Room)) (fun aX UX => aX = #[(.ref r0)] ∧ Z.Warmed39 UX.vm ∧ UX.heap = h0) (fun _ _ _ _ _ => True) (fun _ UX oX UX' => ∃ vX LX, oX = .returned vX ∧ Q15 Z  h0 n0 vX UX'.heap LX ∧ FrameEnd UX oX UX' LX ({ frames := 1, cells := 0, slots := 0, locals := 12 } : Room).cells ({ frames := 1, cells := 0, slots := 0, locals := 12 } : Room).slots) := by
  refine MetFree.of_bodySF (plainFor_of_name pn_java_lang_Number) hisR ?_
  intro p e s m args below meth c s₁ Bd hml0 hP hK
  obtain ⟨rfl, hZ, hh⟩ := hP
  have hx := Bd.exec
  have hby := Bd.bytes
  have hml : c.maxLocals = 1 := hml0
  have hown : s.vm.findClass "java/lang/Number" = some m.cls := findClass_of_methodNamed Bd.named
  have hnm := (name_of_methodNamed Bd.named Bd.method).1
  have X0 : Stand p l e ({ frames := 1, cells := 0, slots := 0, locals := 12 } : Room) s m #[(.ref r0)] below meth c s₁ [] 0 0 := Stand.of_body Bd
  have e0 : s₁.heap = h0 := by rw [← hh, Bd.state]; rfl
  have N0 := Fr.nil n0
  show own_Comes p e below s ({ frames := 1, cells := 0, slots := 0, locals := 12 } : Room).cells ({ frames := 1, cells := 0, slots := 0, locals := 12 } : Room).slots (Q15 Z  h0 n0) _
  rw [show entryFrame m #[(.ref r0)] 1 = mkF m 0 #[.val (.ref r0)] [] from ef_rm15 m r0]
  show own_Comes p e below s _ _ _ (s₁.setTop (mkF m 0 #[.val (.ref r0)] []))
  refine own_by (fun _ kS => XS.aloadN X0.here hx rfl (hb hby d15_0) rfl rfl kS) ?_
  show own_Comes p e below s _ _ _ (s₁.setTop (mkF m 1 #[.val (.ref r0)] [(.ref r0)]))
  obtain ⟨T1, X1, e1, st1⟩ := initO X0 hx hZ hown (hw _ (List.mem_of_getElem? (i := 96) rfl)) (hw _ (List.mem_of_getElem? (i := 29) rfl)) (hw _ (List.mem_of_getElem? (i := 30) rfl)) e0 (g := (mkF m 1 #[.val (.ref r0)] [(.ref r0)])) rfl (by rw [hml]; rfl) rfl (hb hby d15_1) (by decide) (W := 0) (by show 2 * 0 + _ ≤ _; exact Nat.le_of_eq rfl) (by decide)
  refine own_by st1 ?_
  show own_Comes p e below s _ _ _ (T1.setTop (mkF m 4 #[.val (.ref r0)] []))
  refine own_ret X1 (v := none) (fun _ => rfl) Bd.notSynchronized (by decide) (by decide) ?_ (fun fs hr => X1.returnOut hx Bd.returns (hb hby d15_4) hr)
  rw [e1]; exact ⟨rfl, N0, rfl⟩
def Q17 (Z : State) (r0 : Addr) (p1 : Int32) (h0 : Heap) (n0 : Nat) (v : Option Value) (h : Heap) (L : List Loc) : Prop := v = none ∧ Fr n0 L ∧ Keep h0 h [r0] ∧ Fld Z h r0 "java/lang/Integer" "value" "I" (.int p1)
theorem ef_rm17 (m : MethodId) (x0 : Addr) (x1 : Int32) : entryFrame m #[(.ref x0), (.int x1)] 2 = mkF m 0 #[.val (.ref x0), .val (.int x1)] [] := by first | (simp [entryFrame, mkF, argsToLocals, Value.category]; done) | rfl
theorem pn_java_lang_Integer : plainName "java/lang/Integer" = true := by first | (simp [plainName, overriddenIn]; done) | decide +kernel
theorem d17_0 : decode jdk_33_method_23_code 0 = .ok (.aload_n 0, 1) := by decide +kernel
theorem pd___V_167 : parseMethodDescriptor "()V" = some ⟨[], none⟩ := by decide +kernel
theorem d17_1 : decode jdk_33_method_23_code 1 = .ok (.invokespecial 202, 3) := by decide +kernel
theorem d17_4 : decode jdk_33_method_23_code 4 = .ok (.aload_n 0, 1) := by decide +kernel
theorem d17_5 : decode jdk_33_method_23_code 5 = .ok (.iload_n 1, 1) := by decide +kernel
theorem d17_6 : decode jdk_33_method_23_code 6 = .ok (.putfield 205, 3) := by decide +kernel
theorem d17_9 : decode jdk_33_method_23_code 9 = .ok (.return_, 1) := by decide +kernel
set_option maxRecDepth 65536 in
set_option maxHeartbeats 40000000 in
theorem rm17 (l : Launch) (Z : State) (a0 : Array Value) (hw : ∀ d ∈ tables_1, d.before a0 Z = true) (ws : List Jvm.Cond) (r0 : Addr) (p1 : Int32) (v1 : Value) (h0 : Heap) (n0 : Nat) (Z0 : n0 ≤ h0.size) (Et : Exa Z h0 r0 "java/lang/Integer") (Fv : Fld Z h0 r0 "java/lang/Integer" "value" "I" v1) (g_r0 : n0 ≤ r0) :
    MetFree l (⟨"java/lang/Integer", "<init>", "(I)V"⟩ : MethodName) (head1 (Jvm.Cond.code (⟨"java/lang/Integer", "<init>", "(I)V"⟩ : MethodName) jdk_33_method_23_code 2 none :: ws) ({ frames := 2, cells := 0, slots := 0, locals := 24 } : Room)) (fun aX UX => aX = #[(.ref r0), (.int p1)] ∧ Z.Warmed39 UX.vm ∧ UX.heap = h0) (fun _ _ _ _ _ => True) (fun _ UX oX UX' => ∃ vX LX, oX = .returned vX ∧ Q17 Z r0 p1 h0 n0 vX UX'.heap LX ∧ FrameEnd UX oX UX' LX ({ frames := 2, cells := 0, slots := 0, locals := 24 } : Room).cells ({ frames := 2, cells := 0, slots := 0, locals := 24 } : Room).slots) := by
  refine MetFree.of_bodySF (plainFor_of_name pn_java_lang_Integer) hisR ?_
  intro p e s m args below meth c s₁ Bd hml0 hP hK
  obtain ⟨rfl, hZ, hh⟩ := hP
  have hx := Bd.exec
  have hby := Bd.bytes
  have hml : c.maxLocals = 2 := hml0
  have hown : s.vm.findClass "java/lang/Integer" = some m.cls := findClass_of_methodNamed Bd.named
  have hnm := (name_of_methodNamed Bd.named Bd.method).1
  have X0 : Stand p l e ({ frames := 2, cells := 0, slots := 0, locals := 24 } : Room) s m #[(.ref r0), (.int p1)] below meth c s₁ [] 0 0 := Stand.of_body Bd
  have e0 : s₁.heap = h0 := by rw [← hh, Bd.state]; rfl
  have N0 := Fr.nil n0
  show own_Comes p e below s ({ frames := 2, cells := 0, slots := 0, locals := 24 } : Room).cells ({ frames := 2, cells := 0, slots := 0, locals := 24 } : Room).slots (Q17 Z r0 p1 h0 n0) _
  rw [show entryFrame m #[(.ref r0), (.int p1)] 2 = mkF m 0 #[.val (.ref r0), .val (.int p1)] [] from ef_rm17 m r0 p1]
  show own_Comes p e below s _ _ _ (s₁.setTop (mkF m 0 #[.val (.ref r0), .val (.int p1)] []))
  refine own_by (fun _ kS => XS.aloadN X0.here hx rfl (hb hby d17_0) rfl rfl kS) ?_
  show own_Comes p e below s _ _ _ (s₁.setTop (mkF m 1 #[.val (.ref r0), .val (.int p1)] [(.ref r0)]))
  obtain ⟨_, _, ⟨T2, L2, k2, n2⟩, -, X2, ⟨Lc2, hQ2, l2, y2, z2⟩, st2⟩ := X0.specialBack hx (y := (⟨"java/lang/Number", "<init>", "()V"⟩ : MethodName)) rfl hown (mvT hZ (hw _ (List.mem_of_getElem? (i := 114) rfl))) (mvT hZ (hw _ (List.mem_of_getElem? (i := 91) rfl))) (mvT hZ (hw _ (List.mem_of_getElem? (i := 95) rfl))) (by decide) (backOf (W := 0) (rm15 l Z a0 hw [] r0 h0 n0 Z0) hZ (hw _ (List.mem_of_getElem? (i := 95) rfl)) (hw _ (List.mem_of_getElem? (i := 94) rfl)) (by decide) (by decide)) (g := (mkF m 1 #[.val (.ref r0), .val (.int p1)] [(.ref r0)])) rfl (by rw [hml]; rfl) (Steps.refl _) (a := r0) (argsL := []) (rest := []) (lenOf pd___V_167 rfl) rfl (by show 2 * 0 + _ ≤ _; exact Nat.le_of_eq rfl) (hb hby d17_1) (fun _ _ => ⟨rfl, e0, (by decide : 0 + 0 ≤ _), (by decide : 0 + 0 ≤ _)⟩)
  dsimp only [Pt.U, Pt.locs, Pt.cells, Pt.slots] at X2 l2 y2 z2 st2 hQ2
  subst l2 y2 z2
  obtain ⟨rfl, N2q, e2q⟩ := hQ2
  have N2 := Fr.app N0 N2q
  refine own_tr st2 ?_
  have e2 : T2.heap = h0 := e2q
  show own_Comes p e below s _ _ _ (T2.setTop (mkF m 4 #[.val (.ref r0), .val (.int p1)] []))
  refine own_by (fun _ kS => XS.aloadN X2.here hx rfl (hb hby d17_4) rfl rfl kS) ?_
  show own_Comes p e below s _ _ _ (T2.setTop (mkF m 5 #[.val (.ref r0), .val (.int p1)] [(.ref r0)]))
  refine own_by (fun _ kS => XS.iloadN X2.here hx rfl (hb hby d17_5) rfl kS) ?_
  show own_Comes p e below s _ _ _ (T2.setTop (mkF m 6 #[.val (.ref r0), .val (.int p1)] [(.int p1), (.ref r0)]))
  obtain ⟨T3, h3, X3, e3, W3, st3⟩ := putF X2 hx hZ hown (host := "") (Or.inl (hw _ (List.mem_of_getElem? (i := 116) rfl))) Via.refl e2 Fv Et (Or.inr ⟨(hw _ (List.mem_of_getElem? (i := 117) rfl)), rfl, hnm⟩) (hw _ (List.mem_of_getElem? (i := 109) rfl)) (ty := .int) (by decide) rfl rfl (g := (mkF m 6 #[.val (.ref r0), .val (.int p1)] [(.int p1), (.ref r0)])) rfl rfl (hb hby d17_6)
  refine own_by st3 ?_
  have Fw3 := Fv.same W3
  have N3 := Fr.snoc X3 N2 g_r0
  show own_Comes p e below s _ _ _ (T3.setTop (mkF m 9 #[.val (.ref r0), .val (.int p1)] []))
  refine own_ret X3 (v := none) (fun _ => rfl) Bd.notSynchronized (by decide) (by decide) ?_ (fun fs hr => X3.returnOut hx Bd.returns (hb hby d17_9) hr)
  rw [e3]; exact ⟨rfl, N3, ((Keep.refl _ _).wr W3 (Or.inl (List.mem_of_getElem? (i := 0) rfl))), Fw3⟩
def Q14 (Z : State) (r0 : Addr) (q1 : Int64) (h0 : Heap) (n0 : Nat) (v : Option Value) (h : Heap) (L : List Loc) : Prop := v = none ∧ Fr n0 L ∧ Keep h0 h [r0] ∧ Fld Z h r0 "java/lang/Long" "value" "J" (.long q1)
theorem ef_rm14 (m : MethodId) (x0 : Addr) (x1 : Int64) : entryFrame m #[(.ref x0), (.long x1)] 3 = mkF m 0 #[.val (.ref x0), .val (.long x1), .second] [] := by first | (simp [entryFrame, mkF, argsToLocals, Value.category]; done) | rfl
theorem pn_java_lang_Long : plainName "java/lang/Long" = true := by first | (simp [plainName, overriddenIn]; done) | decide +kernel
theorem d14_0 : decode jdk_35_method_26_code 0 = .ok (.aload_n 0, 1) := by decide +kernel
theorem d14_1 : decode jdk_35_method_26_code 1 = .ok (.invokespecial 270, 3) := by decide +kernel
theorem d14_4 : decode jdk_35_method_26_code 4 = .ok (.aload_n 0, 1) := by decide +kernel
theorem d14_5 : decode jdk_35_method_26_code 5 = .ok (.lload_n 1, 1) := by decide +kernel
theorem d14_6 : decode jdk_35_method_26_code 6 = .ok (.putfield 273, 3) := by decide +kernel
theorem d14_9 : decode jdk_35_method_26_code 9 = .ok (.return_, 1) := by decide +kernel
set_option maxRecDepth 65536 in
set_option maxHeartbeats 40000000 in
theorem rm14 (l : Launch) (Z : State) (a0 : Array Value) (hw : ∀ d ∈ tables_1, d.before a0 Z = true) (ws : List Jvm.Cond) (r0 : Addr) (q1 : Int64) (v1 : Value) (h0 : Heap) (n0 : Nat) (Z0 : n0 ≤ h0.size) (Et : Exa Z h0 r0 "java/lang/Long") (Fv : Fld Z h0 r0 "java/lang/Long" "value" "J" v1) (g_r0 : n0 ≤ r0) :
    MetFree l (⟨"java/lang/Long", "<init>", "(J)V"⟩ : MethodName) (head1 (Jvm.Cond.code (⟨"java/lang/Long", "<init>", "(J)V"⟩ : MethodName) jdk_35_method_26_code 3 none :: ws) ({ frames := 2, cells := 0, slots := 0, locals := 24 } : Room)) (fun aX UX => aX = #[(.ref r0), (.long q1)] ∧ Z.Warmed39 UX.vm ∧ UX.heap = h0) (fun _ _ _ _ _ => True) (fun _ UX oX UX' => ∃ vX LX, oX = .returned vX ∧ Q14 Z r0 q1 h0 n0 vX UX'.heap LX ∧ FrameEnd UX oX UX' LX ({ frames := 2, cells := 0, slots := 0, locals := 24 } : Room).cells ({ frames := 2, cells := 0, slots := 0, locals := 24 } : Room).slots) := by
  refine MetFree.of_bodySF (plainFor_of_name pn_java_lang_Long) hisR ?_
  intro p e s m args below meth c s₁ Bd hml0 hP hK
  obtain ⟨rfl, hZ, hh⟩ := hP
  have hx := Bd.exec
  have hby := Bd.bytes
  have hml : c.maxLocals = 3 := hml0
  have hown : s.vm.findClass "java/lang/Long" = some m.cls := findClass_of_methodNamed Bd.named
  have hnm := (name_of_methodNamed Bd.named Bd.method).1
  have X0 : Stand p l e ({ frames := 2, cells := 0, slots := 0, locals := 24 } : Room) s m #[(.ref r0), (.long q1)] below meth c s₁ [] 0 0 := Stand.of_body Bd
  have e0 : s₁.heap = h0 := by rw [← hh, Bd.state]; rfl
  have N0 := Fr.nil n0
  show own_Comes p e below s ({ frames := 2, cells := 0, slots := 0, locals := 24 } : Room).cells ({ frames := 2, cells := 0, slots := 0, locals := 24 } : Room).slots (Q14 Z r0 q1 h0 n0) _
  rw [show entryFrame m #[(.ref r0), (.long q1)] 3 = mkF m 0 #[.val (.ref r0), .val (.long q1), .second] [] from ef_rm14 m r0 q1]
  show own_Comes p e below s _ _ _ (s₁.setTop (mkF m 0 #[.val (.ref r0), .val (.long q1), .second] []))
  refine own_by (fun _ kS => XS.aloadN X0.here hx rfl (hb hby d14_0) rfl rfl kS) ?_
  show own_Comes p e below s _ _ _ (s₁.setTop (mkF m 1 #[.val (.ref r0), .val (.long q1), .second] [(.ref r0)]))
  obtain ⟨_, _, ⟨T4, L4, k4, n4⟩, -, X4, ⟨Lc4, hQ4, l4, y4, z4⟩, st4⟩ := X0.specialBack hx (y := (⟨"java/lang/Number", "<init>", "()V"⟩ : MethodName)) rfl hown (mvT hZ (hw _ (List.mem_of_getElem? (i := 90) rfl))) (mvT hZ (hw _ (List.mem_of_getElem? (i := 91) rfl))) (mvT hZ (hw _ (List.mem_of_getElem? (i := 95) rfl))) (by decide) (backOf (W := 0) (rm15 l Z a0 hw [] r0 h0 n0 Z0) hZ (hw _ (List.mem_of_getElem? (i := 95) rfl)) (hw _ (List.mem_of_getElem? (i := 94) rfl)) (by decide) (by decide)) (g := (mkF m 1 #[.val (.ref r0), .val (.long q1), .second] [(.ref r0)])) rfl (by rw [hml]; rfl) (Steps.refl _) (a := r0) (argsL := []) (rest := []) (lenOf pd___V_167 rfl) rfl (by show 2 * 0 + _ ≤ _; exact Nat.le_of_eq rfl) (hb hby d14_1) (fun _ _ => ⟨rfl, e0, (by decide : 0 + 0 ≤ _), (by decide : 0 + 0 ≤ _)⟩)
  dsimp only [Pt.U, Pt.locs, Pt.cells, Pt.slots] at X4 l4 y4 z4 st4 hQ4
  subst l4 y4 z4
  obtain ⟨rfl, N4q, e4q⟩ := hQ4
  have N4 := Fr.app N0 N4q
  refine own_tr st4 ?_
  have e4 : T4.heap = h0 := e4q
  show own_Comes p e below s _ _ _ (T4.setTop (mkF m 4 #[.val (.ref r0), .val (.long q1), .second] []))
  refine own_by (fun _ kS => XS.aloadN X4.here hx rfl (hb hby d14_4) rfl rfl kS) ?_
  show own_Comes p e below s _ _ _ (T4.setTop (mkF m 5 #[.val (.ref r0), .val (.long q1), .second] [(.ref r0)]))
  refine own_by (fun _ kS => XS.lloadN X4.here hx rfl (hb hby d14_5) rfl kS) ?_
  show own_Comes p e below s _ _ _ (T4.setTop (mkF m 6 #[.val (.ref r0), .val (.long q1), .second] [(.long q1), (.ref r0)]))
  obtain ⟨T5, h5, X5, e5, W5, st5⟩ := putF X4 hx hZ hown (host := "") (Or.inl (hw _ (List.mem_of_getElem? (i := 97) rfl))) Via.refl e4 Fv Et (Or.inr ⟨(hw _ (List.mem_of_getElem? (i := 98) rfl)), rfl, hnm⟩) (hw _ (List.mem_of_getElem? (i := 85) rfl)) (ty := .long) (by decide) rfl rfl (g := (mkF m 6 #[.val (.ref r0), .val (.long q1), .second] [(.long q1), (.ref r0)])) rfl rfl (hb hby d14_6)
  refine own_by st5 ?_
  have Fw5 := Fv.same W5
  have N5 := Fr.snoc X5 N4 g_r0
  show own_Comes p e below s _ _ _ (T5.setTop (mkF m 9 #[.val (.ref r0), .val (.long q1), .second] []))
  refine own_ret X5 (v := none) (fun _ => rfl) Bd.notSynchronized (by decide) (by decide) ?_ (fun fs hr => X5.returnOut hx Bd.returns (hb hby d14_9) hr)
  rw [e5]; exact ⟨rfl, N5, ((Keep.refl _ _).wr W5 (Or.inl (List.mem_of_getElem? (i := 0) rfl))), Fw5⟩
def Q1 (Z : State) (p0 : Int32) (h0 : Heap) (n0 : Nat) (v : Option Value) (h : Heap) (L : List Loc) : Prop := ∃ a : Addr, v = some (.ref a) ∧ Fr n0 L ∧ Ext h0 h ∧ Exa Z h a "java/lang/Integer" ∧ Fld Z h a "java/lang/Integer" "value" "I" (.int p0)
theorem ef_rm1 (m : MethodId) (x0 : Int32) : entryFrame m #[(.int x0)] 1 = mkF m 0 #[.val (.int x0)] [] := by first | (simp [entryFrame, mkF, argsToLocals, Value.category]; done) | rfl
theorem d1_0 : decode jdk_33_method_22_code 0 = .ok (.iload_n 0, 1) := by decide +kernel
theorem d1_1 : decode jdk_33_method_22_code 1 = .ok (.bipush (-128), 2) := by decide +kernel
theorem d1_3 : decode jdk_33_method_22_code 3 = .ok (.if_icmp .lt 20, 3) := by decide +kernel
theorem d1_23 : decode jdk_33_method_22_code 23 = .ok (.new 1, 3) := by decide +kernel
theorem d1_26 : decode jdk_33_method_22_code 26 = .ok (.dup, 1) := by decide +kernel
theorem d1_27 : decode jdk_33_method_22_code 27 = .ok (.iload_n 0, 1) := by decide +kernel
theorem pd__I_V_240 : parseMethodDescriptor "(I)V" = some ⟨[.int], none⟩ := by decide +kernel
theorem d1_28 : decode jdk_33_method_22_code 28 = .ok (.invokespecial 199, 3) := by decide +kernel
theorem d1_31 : decode jdk_33_method_22_code 31 = .ok (.areturn, 1) := by decide +kernel
theorem d1_6 : decode jdk_33_method_22_code 6 = .ok (.iload_n 0, 1) := by decide +kernel
theorem d1_7 : decode jdk_33_method_22_code 7 = .ok (.getstatic 191, 3) := by decide +kernel
theorem d1_10 : decode jdk_33_method_22_code 10 = .ok (.if_icmp .gt 13, 3) := by decide +kernel
theorem d1_13 : decode jdk_33_method_22_code 13 = .ok (.getstatic 195, 3) := by decide +kernel
theorem d1_16 : decode jdk_33_method_22_code 16 = .ok (.iload_n 0, 1) := by decide +kernel
theorem d1_17 : decode jdk_33_method_22_code 17 = .ok (.sipush 128, 3) := by decide +kernel
theorem d1_20 : decode jdk_33_method_22_code 20 = .ok (.iadd, 1) := by decide +kernel
theorem d1_21 : decode jdk_33_method_22_code 21 = .ok (.aaload, 1) := by decide +kernel
theorem d1_22 : decode jdk_33_method_22_code 22 = .ok (.areturn, 1) := by decide +kernel
set_option maxRecDepth 65536 in
set_option maxHeartbeats 40000000 in
theorem rm1 (l : Launch) (Z : State) (a0 : Array Value) (hw : ∀ d ∈ tables_1, d.before a0 Z = true) (ws : List Jvm.Cond) (p0 : Int32) (ca : Addr) (cc : Cell) (h0 : Heap) (n0 : Nat) (Z0 : n0 ≤ h0.size) (O0 : Old Z n0 h0) (Sh : Sta Z Z.heap "java/lang/Integer$IntegerCache" "high" "I" (.int (127 : Int32))) (Sc : Sta Z Z.heap "java/lang/Integer$IntegerCache" "cache" "[Ljava/lang/Integer;" (.ref ca)) (Bx : Bxs Z ca cc "java/lang/Integer" "I" (256 : Int32) (fun j => .int (j - (128 : Int32)))) :
    MetFree l (⟨"java/lang/Integer", "valueOf", "(I)Ljava/lang/Integer;"⟩ : MethodName) (head1 (Jvm.Cond.code (⟨"java/lang/Integer", "valueOf", "(I)Ljava/lang/Integer;"⟩ : MethodName) jdk_33_method_22_code 1 (some (.object "java/lang/Integer")) :: ws) ({ frames := 3, cells := 1, slots := 1, locals := 38 } : Room)) (fun aX UX => aX = #[(.int p0)] ∧ Z.Warmed39 UX.vm ∧ UX.heap = h0) (fun _ _ _ _ _ => True) (fun _ UX oX UX' => ∃ vX LX, oX = .returned vX ∧ Q1 Z p0 h0 n0 vX UX'.heap LX ∧ FrameEnd UX oX UX' LX ({ frames := 3, cells := 1, slots := 1, locals := 38 } : Room).cells ({ frames := 3, cells := 1, slots := 1, locals := 38 } : Room).slots) := by
  refine MetFree.of_bodySF (plainFor_of_name pn_java_lang_Integer) hisR ?_
  intro p e s m args below meth c s₁ Bd hml0 hP hK
  obtain ⟨rfl, hZ, hh⟩ := hP
  have hx := Bd.exec
  have hby := Bd.bytes
  have hml : c.maxLocals = 1 := hml0
  have hown : s.vm.findClass "java/lang/Integer" = some m.cls := findClass_of_methodNamed Bd.named
  have hnm := (name_of_methodNamed Bd.named Bd.method).1
  have X0 : Stand p l e ({ frames := 3, cells := 1, slots := 1, locals := 38 } : Room) s m #[(.int p0)] below meth c s₁ [] 0 0 := Stand.of_body Bd
  have e0 : s₁.heap = h0 := by rw [← hh, Bd.state]; rfl
  have N0 := Fr.nil n0
  show own_Comes p e below s ({ frames := 3, cells := 1, slots := 1, locals := 38 } : Room).cells ({ frames := 3, cells := 1, slots := 1, locals := 38 } : Room).slots (Q1 Z p0 h0 n0) _
  rw [show entryFrame m #[(.int p0)] 1 = mkF m 0 #[.val (.int p0)] [] from ef_rm1 m p0]
  show own_Comes p e below s _ _ _ (s₁.setTop (mkF m 0 #[.val (.int p0)] []))
  refine own_by (fun _ kS => XS.iloadN X0.here hx rfl (hb hby d1_0) rfl kS) ?_
  show own_Comes p e below s _ _ _ (s₁.setTop (mkF m 1 #[.val (.int p0)] [(.int p0)]))
  refine own_by (fun _ kS => XS.bipush X0.here hx rfl (hb hby d1_1) kS) ?_
  show own_Comes p e below s _ _ _ (s₁.setTop (mkF m 3 #[.val (.int p0)] [(.int (-128 : Int32)), (.int p0)]))
  by_cases hlo : p0 < (-128 : Int32)
  · refine own_by (fun _ kS => XS.icmpYes X0.here hx rfl (pc0 := 3) (pc' := 23) rfl (hb hby d1_3) rfl (tlt hlo).1 (by decide) (by decide) kS) ?_
    show own_Comes p e below s _ _ _ (s₁.setTop (mkF m 23 #[.val (.int p0)] []))
    obtain ⟨T6, h6, X6, e6, E6, A6, D6, -, st6⟩ := newO X0 hx hZ hown (hw _ (List.mem_of_getElem? (i := 108) rfl)) (hw _ (List.mem_of_getElem? (i := 109) rfl)) (hw _ (List.mem_of_getElem? (i := 2) rfl)) e0 (g := (mkF m 23 #[.val (.int p0)] [])) rfl (hb hby d1_23) (by decide) (by decide)
    obtain ⟨b6, g6⟩ : ∃ z, z = h0.size := ⟨_, rfl⟩
    rw [← g6] at A6 D6 st6
    have g_b6 : n0 ≤ b6 := Nat.le_trans Z0 (Nat.le_of_eq g6.symm)
    refine own_by st6 ?_
    show own_Comes p e below s _ _ _ (T6.setTop (mkF m 26 #[.val (.int p0)] [(.ref b6)]))
    refine own_by (fun _ kS => XS.dup X6.here hx rfl (hb hby d1_26) rfl rfl kS) ?_
    show own_Comes p e below s _ _ _ (T6.setTop (mkF m 27 #[.val (.int p0)] [(.ref b6), (.ref b6)]))
    refine own_by (fun _ kS => XS.iloadN X6.here hx rfl (hb hby d1_27) rfl kS) ?_
    show own_Comes p e below s _ _ _ (T6.setTop (mkF m 28 #[.val (.int p0)] [(.int p0), (.ref b6), (.ref b6)]))
    have sz_b6 : h0.size ≤ b6 := Nat.le_of_eq g6.symm
    obtain ⟨_, _, ⟨T7, L7, k7, n7⟩, -, X7, ⟨Lc7, hQ7, l7, y7, z7⟩, st7⟩ := X6.specialBack hx (y := (⟨"java/lang/Integer", "<init>", "(I)V"⟩ : MethodName)) rfl hown (mvT hZ (hw _ (List.mem_of_getElem? (i := 110) rfl))) (mvT hZ (hw _ (List.mem_of_getElem? (i := 111) rfl))) (mvT hZ (hw _ (List.mem_of_getElem? (i := 113) rfl))) (by decide) (backOf (W := 1) (rm17 l Z a0 hw [] b6 p0 (.int 0) h6 n0 (Nat.le_trans Z0 E6.1) A6 (D6 (Or.inr (hw _ (List.mem_of_getElem? (i := 117) rfl))) (ty := .int) (by decide)) g_b6) hZ (hw _ (List.mem_of_getElem? (i := 113) rfl)) (hw _ (List.mem_of_getElem? (i := 2) rfl)) (by decide) (by decide)) (g := (mkF m 28 #[.val (.int p0)] [(.int p0), (.ref b6), (.ref b6)])) rfl (by rw [hml]; rfl) (Steps.refl _) (a := b6) (argsL := [(.int p0)]) (rest := [(.ref b6)]) (lenOf pd__I_V_240 rfl) rfl (by show 2 * 0 + _ ≤ _; exact Nat.le_of_eq rfl) (hb hby d1_28) (fun _ _ => ⟨rfl, e6, (by decide : 1 + 0 ≤ _), (by decide : 1 + 0 ≤ _)⟩)
    dsimp only [Pt.U, Pt.locs, Pt.cells, Pt.slots] at X7 l7 y7 z7 st7 hQ7
    subst l7 y7 z7
    obtain ⟨rfl, N7q, K7, F7⟩ := hQ7
    have N7 := Fr.app N0 N7q
    refine own_tr st7 ?_
    show own_Comes p e below s _ _ _ (T7.setTop (mkF m 31 #[.val (.int p0)] [(.ref b6)]))
    refine own_ret X7 (v := some (.ref b6)) (fun h => by rw [Bd.returns] at h; cases h) Bd.notSynchronized (by decide) (by decide) ?_ (fun fs hr => own_reta X7 hx Bd.returns rfl rfl (hb hby d1_31) hr)
    exact ⟨_, rfl, N7, own_ext (((Keep.refl _ _).ext E6).trans K7 (allS (Or.inr sz_b6) all0)), (A6.keep K7), F7⟩
  · refine own_by (fun _ kS => XS.icmpNo X0.here hx rfl (hb hby d1_3) rfl (flt hlo).1 kS) ?_
    show own_Comes p e below s _ _ _ (s₁.setTop (mkF m 6 #[.val (.int p0)] []))
    refine own_by (fun _ kS => XS.iloadN X0.here hx rfl (hb hby d1_6) rfl kS) ?_
    show own_Comes p e below s _ _ _ (s₁.setTop (mkF m 7 #[.val (.int p0)] [(.int p0)]))
    obtain ⟨T8, X8, e8, st8⟩ := getS2 X0 hx hZ hown (host := "") (Or.inl (hw _ (List.mem_of_getElem? (i := 4) rfl))) Via.refl e0 (Sh.ext O0.2) (g := (mkF m 7 #[.val (.int p0)] [(.int p0)])) rfl (hb hby d1_7)
    refine own_by st8 ?_
    show own_Comes p e below s _ _ _ (T8.setTop (mkF m 10 #[.val (.int p0)] [(.int (127 : Int32)), (.int p0)]))
    by_cases hhi : (127 : Int32) < p0
    · refine own_by (fun _ kS => XS.icmpYes X8.here hx rfl (pc0 := 10) (pc' := 23) rfl (hb hby d1_10) rfl (tlt hhi).2.2.1 (by decide) (by decide) kS) ?_
      show own_Comes p e below s _ _ _ (T8.setTop (mkF m 23 #[.val (.int p0)] []))
      obtain ⟨T9, h9, X9, e9, E9, A9, D9, -, st9⟩ := newO X8 hx hZ hown (hw _ (List.mem_of_getElem? (i := 108) rfl)) (hw _ (List.mem_of_getElem? (i := 109) rfl)) (hw _ (List.mem_of_getElem? (i := 2) rfl)) e8 (g := (mkF m 23 #[.val (.int p0)] [])) rfl (hb hby d1_23) (by decide) (by decide)
      obtain ⟨b9, g9⟩ : ∃ z, z = h0.size := ⟨_, rfl⟩
      rw [← g9] at A9 D9 st9
      have g_b9 : n0 ≤ b9 := Nat.le_trans Z0 (Nat.le_of_eq g9.symm)
      refine own_by st9 ?_
      show own_Comes p e below s _ _ _ (T9.setTop (mkF m 26 #[.val (.int p0)] [(.ref b9)]))
      refine own_by (fun _ kS => XS.dup X9.here hx rfl (hb hby d1_26) rfl rfl kS) ?_
      show own_Comes p e below s _ _ _ (T9.setTop (mkF m 27 #[.val (.int p0)] [(.ref b9), (.ref b9)]))
      refine own_by (fun _ kS => XS.iloadN X9.here hx rfl (hb hby d1_27) rfl kS) ?_
      show own_Comes p e below s _ _ _ (T9.setTop (mkF m 28 #[.val (.int p0)] [(.int p0), (.ref b9), (.ref b9)]))
      have sz_b9 : h0.size ≤ b9 := Nat.le_of_eq g9.symm
      obtain ⟨_, _, ⟨T10, L10, k10, n10⟩, -, X10, ⟨Lc10, hQ10, l10, y10, z10⟩, st10⟩ := X9.specialBack hx (y := (⟨"java/lang/Integer", "<init>", "(I)V"⟩ : MethodName)) rfl hown (mvT hZ (hw _ (List.mem_of_getElem? (i := 110) rfl))) (mvT hZ (hw _ (List.mem_of_getElem? (i := 111) rfl))) (mvT hZ (hw _ (List.mem_of_getElem? (i := 113) rfl))) (by decide) (backOf (W := 1) (rm17 l Z a0 hw [] b9 p0 (.int 0) h9 n0 (Nat.le_trans Z0 E9.1) A9 (D9 (Or.inr (hw _ (List.mem_of_getElem? (i := 117) rfl))) (ty := .int) (by decide)) g_b9) hZ (hw _ (List.mem_of_getElem? (i := 113) rfl)) (hw _ (List.mem_of_getElem? (i := 2) rfl)) (by decide) (by decide)) (g := (mkF m 28 #[.val (.int p0)] [(.int p0), (.ref b9), (.ref b9)])) rfl (by rw [hml]; rfl) (Steps.refl _) (a := b9) (argsL := [(.int p0)]) (rest := [(.ref b9)]) (lenOf pd__I_V_240 rfl) rfl (by show 2 * 0 + _ ≤ _; exact Nat.le_of_eq rfl) (hb hby d1_28) (fun _ _ => ⟨rfl, e9, (by decide : 1 + 0 ≤ _), (by decide : 1 + 0 ≤ _)⟩)
      dsimp only [Pt.U, Pt.locs, Pt.cells, Pt.slots] at X10 l10 y10 z10 st10 hQ10
      subst l10 y10 z10
      obtain ⟨rfl, N10q, K10, F10⟩ := hQ10
      have N10 := Fr.app N0 N10q
      refine own_tr st10 ?_
      show own_Comes p e below s _ _ _ (T10.setTop (mkF m 31 #[.val (.int p0)] [(.ref b9)]))
      refine own_ret X10 (v := some (.ref b9)) (fun h => by rw [Bd.returns] at h; cases h) Bd.notSynchronized (by decide) (by decide) ?_ (fun fs hr => own_reta X10 hx Bd.returns rfl rfl (hb hby d1_31) hr)
      exact ⟨_, rfl, N10, own_ext (((Keep.refl _ _).ext E9).trans K10 (allS (Or.inr sz_b9) all0)), (A9.keep K10), F10⟩
    · refine own_by (fun _ kS => XS.icmpNo X8.here hx rfl (hb hby d1_10) rfl (flt hhi).2.2.1 kS) ?_
      show own_Comes p e below s _ _ _ (T8.setTop (mkF m 13 #[.val (.int p0)] []))
      obtain ⟨T11, X11, e11, st11⟩ := getS2 X8 hx hZ hown (host := "") (Or.inl (hw _ (List.mem_of_getElem? (i := 6) rfl))) Via.refl e8 (Sc.ext O0.2) (g := (mkF m 13 #[.val (.int p0)] [])) rfl (hb hby d1_13)
      refine own_by st11 ?_
      show own_Comes p e below s _ _ _ (T11.setTop (mkF m 16 #[.val (.int p0)] [(.ref ca)]))
      refine own_by (fun _ kS => XS.iloadN X11.here hx rfl (hb hby d1_16) rfl kS) ?_
      show own_Comes p e below s _ _ _ (T11.setTop (mkF m 17 #[.val (.int p0)] [(.int p0), (.ref ca)]))
      refine own_by (fun _ kS => XS.sipush X11.here hx rfl (hb hby d1_17) kS) ?_
      show own_Comes p e below s _ _ _ (T11.setTop (mkF m 20 #[.val (.int p0)] [(.int (128 : Int32)), (.int p0), (.ref ca)]))
      refine own_by (fun _ kS => XS.iadd X11.here hx rfl (hb hby d1_20) rfl kS) ?_
      show own_Comes p e below s _ _ _ (T11.setTop (mkF m 21 #[.val (.int p0)] [(.int (p0 + (128 : Int32))), (.ref ca)]))
      obtain ⟨Ab, Sb, -, Hb⟩ := Bx
      have hin := own_ic hlo hhi Sb
      obtain ⟨bx, eb, Eb, Fb⟩ := Hb _ hin
      have Ar := Ab.ext O0.2
      refine own_by (fun _ kS => X11.aaload hx (j := (p0 + (128 : Int32))) (v := (.ref bx)) (by rw [e11]; exact Ar.1) (State.isArrayOf_alike hZ.alike Ar.2.1) rfl Ar.2.2 hin eb (g := (mkF m 21 #[.val (.int p0)] [(.int (p0 + (128 : Int32))), (.ref ca)])) rfl rfl (hb hby d1_21) _ kS) ?_
      show own_Comes p e below s _ _ _ (T11.setTop (mkF m 22 #[.val (.int p0)] [(.ref bx)]))
      have hv : (p0 + (128 : Int32)) - (128 : Int32) = p0 := Int32.add_sub_cancel ..
      dsimp only at Fb
      rw [hv] at Fb
      refine own_ret X11 (v := some (.ref bx)) (fun h => by rw [Bd.returns] at h; cases h) Bd.notSynchronized (by decide) (by decide) ?_ (fun fs hr => own_reta X11 hx Bd.returns rfl rfl (hb hby d1_22) hr)
      rw [e11]; exact ⟨_, rfl, N0, own_ext (Keep.refl _ _), Eb.ext O0.2, Fb.ext O0.2⟩
def Q13 (Z : State) (h0 : Heap) (n0 : Nat) (v : Option Value) (h : Heap) (L : List Loc) : Prop := ∃ a : Addr, v = some (.ref a) ∧ Fr n0 L ∧ Ext h0 h ∧ Exa Z h a "java/lang/Long"
theorem ef_rm13 (m : MethodId) (x0 : Int64) : entryFrame m #[(.long x0)] 3 = mkF m 0 #[.val (.long x0), .second, .unset] [] := by first | (simp [entryFrame, mkF, argsToLocals, Value.category]; done) | rfl
theorem d13_0 : decode jdk_35_method_24_code 0 = .ok (.sipush 128, 3) := by decide +kernel
theorem d13_3 : decode jdk_35_method_24_code 3 = .ok (.istore_n 2, 1) := by decide +kernel
theorem d13_4 : decode jdk_35_method_24_code 4 = .ok (.lload_n 0, 1) := by decide +kernel
theorem d13_5 : decode jdk_35_method_24_code 5 = .ok (.ldc2_w 230, 3) := by decide +kernel
theorem d13_8 : decode jdk_35_method_24_code 8 = .ok (.lcmp, 1) := by decide +kernel
theorem d13_9 : decode jdk_35_method_24_code 9 = .ok (.ifCond .lt 22, 3) := by decide +kernel
theorem d13_31 : decode jdk_35_method_24_code 31 = .ok (.new 1, 3) := by decide +kernel
theorem d13_34 : decode jdk_35_method_24_code 34 = .ok (.dup, 1) := by decide +kernel
theorem d13_35 : decode jdk_35_method_24_code 35 = .ok (.lload_n 0, 1) := by decide +kernel
theorem pd__J_V_241 : parseMethodDescriptor "(J)V" = some ⟨[.long], none⟩ := by decide +kernel
theorem d13_36 : decode jdk_35_method_24_code 36 = .ok (.invokespecial 240, 3) := by decide +kernel
theorem d13_39 : decode jdk_35_method_24_code 39 = .ok (.areturn, 1) := by decide +kernel
theorem d13_12 : decode jdk_35_method_24_code 12 = .ok (.lload_n 0, 1) := by decide +kernel
theorem d13_13 : decode jdk_35_method_24_code 13 = .ok (.ldc2_w 232, 3) := by decide +kernel
theorem d13_16 : decode jdk_35_method_24_code 16 = .ok (.lcmp, 1) := by decide +kernel
theorem d13_17 : decode jdk_35_method_24_code 17 = .ok (.ifCond .gt 14, 3) := by decide +kernel
theorem d13_20 : decode jdk_35_method_24_code 20 = .ok (.getstatic 234, 3) := by decide +kernel
theorem d13_23 : decode jdk_35_method_24_code 23 = .ok (.lload_n 0, 1) := by decide +kernel
theorem d13_24 : decode jdk_35_method_24_code 24 = .ok (.l2i, 1) := by decide +kernel
theorem d13_25 : decode jdk_35_method_24_code 25 = .ok (.sipush 128, 3) := by decide +kernel
theorem d13_28 : decode jdk_35_method_24_code 28 = .ok (.iadd, 1) := by decide +kernel
theorem d13_29 : decode jdk_35_method_24_code 29 = .ok (.aaload, 1) := by decide +kernel
theorem d13_30 : decode jdk_35_method_24_code 30 = .ok (.areturn, 1) := by decide +kernel
set_option maxRecDepth 65536 in
set_option maxHeartbeats 40000000 in
theorem rm13 (l : Launch) (Z : State) (a0 : Array Value) (hw : ∀ d ∈ tables_1, d.before a0 Z = true) (ws : List Jvm.Cond) (q0 : Int64) (ca : Addr) (cc : Cell) (h0 : Heap) (n0 : Nat) (Z0 : n0 ≤ h0.size) (O0 : Old Z n0 h0) (Sc : Sta Z Z.heap "java/lang/Long$LongCache" "cache" "[Ljava/lang/Long;" (.ref ca)) (Bx : Bxs Z ca cc "java/lang/Long" "J" (256 : Int32) (fun j => .long (j - (128 : Int32)).toInt64)) :
    MetFree l (⟨"java/lang/Long", "valueOf", "(J)Ljava/lang/Long;"⟩ : MethodName) (head1 (Jvm.Cond.code (⟨"java/lang/Long", "valueOf", "(J)Ljava/lang/Long;"⟩ : MethodName) jdk_35_method_24_code 3 (some (.object "java/lang/Long")) :: ws) ({ frames := 3, cells := 1, slots := 1, locals := 39 } : Room)) (fun aX UX => aX = #[(.long q0)] ∧ Z.Warmed39 UX.vm ∧ UX.heap = h0) (fun _ _ _ _ _ => True) (fun _ UX oX UX' => ∃ vX LX, oX = .returned vX ∧ Q13 Z  h0 n0 vX UX'.heap LX ∧ FrameEnd UX oX UX' LX ({ frames := 3, cells := 1, slots := 1, locals := 39 } : Room).cells ({ frames := 3, cells := 1, slots := 1, locals := 39 } : Room).slots) := by
  refine MetFree.of_bodySF (plainFor_of_name pn_java_lang_Long) hisR ?_
  intro p e s m args below meth c s₁ Bd hml0 hP hK
  obtain ⟨rfl, hZ, hh⟩ := hP
  have hx := Bd.exec
  have hby := Bd.bytes
  have hml : c.maxLocals = 3 := hml0
  have hown : s.vm.findClass "java/lang/Long" = some m.cls := findClass_of_methodNamed Bd.named
  have hnm := (name_of_methodNamed Bd.named Bd.method).1
  have X0 : Stand p l e ({ frames := 3, cells := 1, slots := 1, locals := 39 } : Room) s m #[(.long q0)] below meth c s₁ [] 0 0 := Stand.of_body Bd
  have e0 : s₁.heap = h0 := by rw [← hh, Bd.state]; rfl
  have N0 := Fr.nil n0
  show own_Comes p e below s ({ frames := 3, cells := 1, slots := 1, locals := 39 } : Room).cells ({ frames := 3, cells := 1, slots := 1, locals := 39 } : Room).slots (Q13 Z  h0 n0) _
  rw [show entryFrame m #[(.long q0)] 3 = mkF m 0 #[.val (.long q0), .second, .unset] [] from ef_rm13 m q0]
  show own_Comes p e below s _ _ _ (s₁.setTop (mkF m 0 #[.val (.long q0), .second, .unset] []))
  refine own_by (fun _ kS => XS.sipush X0.here hx rfl (hb hby d13_0) kS) ?_
  show own_Comes p e below s _ _ _ (s₁.setTop (mkF m 3 #[.val (.long q0), .second, .unset] [(.int (128 : Int32))]))
  refine own_by (fun _ kS => XS.istoreN X0.here hx rfl (hb hby d13_3) rfl (l' := #[.val (.long q0), .second, .val (.int (128 : Int32))]) rfl kS) ?_
  show own_Comes p e below s _ _ _ (s₁.setTop (mkF m 4 #[.val (.long q0), .second, .val (.int (128 : Int32))] []))
  refine own_by (fun _ kS => XS.lloadN X0.here hx rfl (hb hby d13_4) rfl kS) ?_
  show own_Comes p e below s _ _ _ (s₁.setTop (mkF m 5 #[.val (.long q0), .second, .val (.int (128 : Int32))] [(.long q0)]))
  refine own_by (fun _ kS => X0.ldc2Long hx hown (mvT hZ (hw _ (List.mem_of_getElem? (i := 82) rfl))) (g := (mkF m 5 #[.val (.long q0), .second, .val (.int (128 : Int32))] [(.long q0)])) rfl (hb hby d13_5) _ kS) ?_
  show own_Comes p e below s _ _ _ (s₁.setTop (mkF m 8 #[.val (.long q0), .second, .val (.int (128 : Int32))] [(.long (-128 : Int64)), (.long q0)]))
  refine own_by (fun _ kS => XS.lcmp X0.here hx rfl (hb hby d13_8) rfl kS) ?_
  show own_Comes p e below s _ _ _ (s₁.setTop (mkF m 9 #[.val (.long q0), .second, .val (.int (128 : Int32))] [(.int (lcmpW q0 (-128 : Int64)))]))
  by_cases hlo : (lcmpW q0 (-128 : Int64)) < (0 : Int32)
  · refine own_by (fun _ kS => XS.ifYes X0.here hx rfl (pc0 := 9) (pc' := 31) rfl (hb hby d13_9) rfl ((if0 _ _).trans (tlt hlo).1) (by decide) (by decide) kS) ?_
    show own_Comes p e below s _ _ _ (s₁.setTop (mkF m 31 #[.val (.long q0), .second, .val (.int (128 : Int32))] []))
    obtain ⟨T12, h12, X12, e12, E12, A12, D12, -, st12⟩ := newO X0 hx hZ hown (hw _ (List.mem_of_getElem? (i := 84) rfl)) (hw _ (List.mem_of_getElem? (i := 85) rfl)) (hw _ (List.mem_of_getElem? (i := 80) rfl)) e0 (g := (mkF m 31 #[.val (.long q0), .second, .val (.int (128 : Int32))] [])) rfl (hb hby d13_31) (by decide) (by decide)
    obtain ⟨b12, g12⟩ : ∃ z, z = h0.size := ⟨_, rfl⟩
    rw [← g12] at A12 D12 st12
    have g_b12 : n0 ≤ b12 := Nat.le_trans Z0 (Nat.le_of_eq g12.symm)
    refine own_by st12 ?_
    show own_Comes p e below s _ _ _ (T12.setTop (mkF m 34 #[.val (.long q0), .second, .val (.int (128 : Int32))] [(.ref b12)]))
    refine own_by (fun _ kS => XS.dup X12.here hx rfl (hb hby d13_34) rfl rfl kS) ?_
    show own_Comes p e below s _ _ _ (T12.setTop (mkF m 35 #[.val (.long q0), .second, .val (.int (128 : Int32))] [(.ref b12), (.ref b12)]))
    refine own_by (fun _ kS => XS.lloadN X12.here hx rfl (hb hby d13_35) rfl kS) ?_
    show own_Comes p e below s _ _ _ (T12.setTop (mkF m 36 #[.val (.long q0), .second, .val (.int (128 : Int32))] [(.long q0), (.ref b12), (.ref b12)]))
    have sz_b12 : h0.size ≤ b12 := Nat.le_of_eq g12.symm
    obtain ⟨_, _, ⟨T13, L13, k13, n13⟩, -, X13, ⟨Lc13, hQ13, l13, y13, z13⟩, st13⟩ := X12.specialBack hx (y := (⟨"java/lang/Long", "<init>", "(J)V"⟩ : MethodName)) rfl hown (mvT hZ (hw _ (List.mem_of_getElem? (i := 86) rfl))) (mvT hZ (hw _ (List.mem_of_getElem? (i := 87) rfl))) (mvT hZ (hw _ (List.mem_of_getElem? (i := 89) rfl))) (by decide) (backOf (W := 1) (rm14 l Z a0 hw [] b12 q0 (.long 0) h12 n0 (Nat.le_trans Z0 E12.1) A12 (D12 (Or.inr (hw _ (List.mem_of_getElem? (i := 98) rfl))) (ty := .long) (by decide)) g_b12) hZ (hw _ (List.mem_of_getElem? (i := 89) rfl)) (hw _ (List.mem_of_getElem? (i := 80) rfl)) (by decide) (by decide)) (g := (mkF m 36 #[.val (.long q0), .second, .val (.int (128 : Int32))] [(.long q0), (.ref b12), (.ref b12)])) rfl (by rw [hml]; rfl) (Steps.refl _) (a := b12) (argsL := [(.long q0)]) (rest := [(.ref b12)]) (lenOf pd__J_V_241 rfl) rfl (by show 2 * 0 + _ ≤ _; exact Nat.le_of_eq rfl) (hb hby d13_36) (fun _ _ => ⟨rfl, e12, (by decide : 1 + 0 ≤ _), (by decide : 1 + 0 ≤ _)⟩)
    dsimp only [Pt.U, Pt.locs, Pt.cells, Pt.slots] at X13 l13 y13 z13 st13 hQ13
    subst l13 y13 z13
    obtain ⟨rfl, N13q, K13, F13⟩ := hQ13
    have N13 := Fr.app N0 N13q
    refine own_tr st13 ?_
    show own_Comes p e below s _ _ _ (T13.setTop (mkF m 39 #[.val (.long q0), .second, .val (.int (128 : Int32))] [(.ref b12)]))
    refine own_ret X13 (v := some (.ref b12)) (fun h => by rw [Bd.returns] at h; cases h) Bd.notSynchronized (by decide) (by decide) ?_ (fun fs hr => own_reta X13 hx Bd.returns rfl rfl (hb hby d13_39) hr)
    exact ⟨_, rfl, N13, own_ext (((Keep.refl _ _).ext E12).trans K13 (allS (Or.inr sz_b12) all0)), (A12.keep K13)⟩
  · refine own_by (fun _ kS => XS.ifNo X0.here hx rfl (hb hby d13_9) rfl ((if0 _ _).trans (flt hlo).1) kS) ?_
    show own_Comes p e below s _ _ _ (s₁.setTop (mkF m 12 #[.val (.long q0), .second, .val (.int (128 : Int32))] []))
    refine own_by (fun _ kS => XS.lloadN X0.here hx rfl (hb hby d13_12) rfl kS) ?_
    show own_Comes p e below s _ _ _ (s₁.setTop (mkF m 13 #[.val (.long q0), .second, .val (.int (128 : Int32))] [(.long q0)]))
    refine own_by (fun _ kS => X0.ldc2Long hx hown (mvT hZ (hw _ (List.mem_of_getElem? (i := 83) rfl))) (g := (mkF m 13 #[.val (.long q0), .second, .val (.int (128 : Int32))] [(.long q0)])) rfl (hb hby d13_13) _ kS) ?_
    show own_Comes p e below s _ _ _ (s₁.setTop (mkF m 16 #[.val (.long q0), .second, .val (.int (128 : Int32))] [(.long (127 : Int64)), (.long q0)]))
    refine own_by (fun _ kS => XS.lcmp X0.here hx rfl (hb hby d13_16) rfl kS) ?_
    show own_Comes p e below s _ _ _ (s₁.setTop (mkF m 17 #[.val (.long q0), .second, .val (.int (128 : Int32))] [(.int (lcmpW q0 (127 : Int64)))]))
    by_cases hhi : (0 : Int32) < (lcmpW q0 (127 : Int64))
    · refine own_by (fun _ kS => XS.ifYes X0.here hx rfl (pc0 := 17) (pc' := 31) rfl (hb hby d13_17) rfl ((if0 _ _).trans (tlt hhi).2.2.1) (by decide) (by decide) kS) ?_
      show own_Comes p e below s _ _ _ (s₁.setTop (mkF m 31 #[.val (.long q0), .second, .val (.int (128 : Int32))] []))
      obtain ⟨T14, h14, X14, e14, E14, A14, D14, -, st14⟩ := newO X0 hx hZ hown (hw _ (List.mem_of_getElem? (i := 84) rfl)) (hw _ (List.mem_of_getElem? (i := 85) rfl)) (hw _ (List.mem_of_getElem? (i := 80) rfl)) e0 (g := (mkF m 31 #[.val (.long q0), .second, .val (.int (128 : Int32))] [])) rfl (hb hby d13_31) (by decide) (by decide)
      obtain ⟨b14, g14⟩ : ∃ z, z = h0.size := ⟨_, rfl⟩
      rw [← g14] at A14 D14 st14
      have g_b14 : n0 ≤ b14 := Nat.le_trans Z0 (Nat.le_of_eq g14.symm)
      refine own_by st14 ?_
      show own_Comes p e below s _ _ _ (T14.setTop (mkF m 34 #[.val (.long q0), .second, .val (.int (128 : Int32))] [(.ref b14)]))
      refine own_by (fun _ kS => XS.dup X14.here hx rfl (hb hby d13_34) rfl rfl kS) ?_
      show own_Comes p e below s _ _ _ (T14.setTop (mkF m 35 #[.val (.long q0), .second, .val (.int (128 : Int32))] [(.ref b14), (.ref b14)]))
      refine own_by (fun _ kS => XS.lloadN X14.here hx rfl (hb hby d13_35) rfl kS) ?_
      show own_Comes p e below s _ _ _ (T14.setTop (mkF m 36 #[.val (.long q0), .second, .val (.int (128 : Int32))] [(.long q0), (.ref b14), (.ref b14)]))
      have sz_b14 : h0.size ≤ b14 := Nat.le_of_eq g14.symm
      obtain ⟨_, _, ⟨T15, L15, k15, n15⟩, -, X15, ⟨Lc15, hQ15, l15, y15, z15⟩, st15⟩ := X14.specialBack hx (y := (⟨"java/lang/Long", "<init>", "(J)V"⟩ : MethodName)) rfl hown (mvT hZ (hw _ (List.mem_of_getElem? (i := 86) rfl))) (mvT hZ (hw _ (List.mem_of_getElem? (i := 87) rfl))) (mvT hZ (hw _ (List.mem_of_getElem? (i := 89) rfl))) (by decide) (backOf (W := 1) (rm14 l Z a0 hw [] b14 q0 (.long 0) h14 n0 (Nat.le_trans Z0 E14.1) A14 (D14 (Or.inr (hw _ (List.mem_of_getElem? (i := 98) rfl))) (ty := .long) (by decide)) g_b14) hZ (hw _ (List.mem_of_getElem? (i := 89) rfl)) (hw _ (List.mem_of_getElem? (i := 80) rfl)) (by decide) (by decide)) (g := (mkF m 36 #[.val (.long q0), .second, .val (.int (128 : Int32))] [(.long q0), (.ref b14), (.ref b14)])) rfl (by rw [hml]; rfl) (Steps.refl _) (a := b14) (argsL := [(.long q0)]) (rest := [(.ref b14)]) (lenOf pd__J_V_241 rfl) rfl (by show 2 * 0 + _ ≤ _; exact Nat.le_of_eq rfl) (hb hby d13_36) (fun _ _ => ⟨rfl, e14, (by decide : 1 + 0 ≤ _), (by decide : 1 + 0 ≤ _)⟩)
      dsimp only [Pt.U, Pt.locs, Pt.cells, Pt.slots] at X15 l15 y15 z15 st15 hQ15
      subst l15 y15 z15
      obtain ⟨rfl, N15q, K15, F15⟩ := hQ15
      have N15 := Fr.app N0 N15q
      refine own_tr st15 ?_
      show own_Comes p e below s _ _ _ (T15.setTop (mkF m 39 #[.val (.long q0), .second, .val (.int (128 : Int32))] [(.ref b14)]))
      refine own_ret X15 (v := some (.ref b14)) (fun h => by rw [Bd.returns] at h; cases h) Bd.notSynchronized (by decide) (by decide) ?_ (fun fs hr => own_reta X15 hx Bd.returns rfl rfl (hb hby d13_39) hr)
      exact ⟨_, rfl, N15, own_ext (((Keep.refl _ _).ext E14).trans K15 (allS (Or.inr sz_b14) all0)), (A14.keep K15)⟩
    · refine own_by (fun _ kS => XS.ifNo X0.here hx rfl (hb hby d13_17) rfl ((if0 _ _).trans (flt hhi).2.2.1) kS) ?_
      show own_Comes p e below s _ _ _ (s₁.setTop (mkF m 20 #[.val (.long q0), .second, .val (.int (128 : Int32))] []))
      obtain ⟨T16, X16, e16, st16⟩ := getS2 X0 hx hZ hown (host := "") (Or.inl (hw _ (List.mem_of_getElem? (i := 158) rfl))) Via.refl e0 (Sc.ext O0.2) (g := (mkF m 20 #[.val (.long q0), .second, .val (.int (128 : Int32))] [])) rfl (hb hby d13_20)
      refine own_by st16 ?_
      show own_Comes p e below s _ _ _ (T16.setTop (mkF m 23 #[.val (.long q0), .second, .val (.int (128 : Int32))] [(.ref ca)]))
      refine own_by (fun _ kS => XS.lloadN X16.here hx rfl (hb hby d13_23) rfl kS) ?_
      show own_Comes p e below s _ _ _ (T16.setTop (mkF m 24 #[.val (.long q0), .second, .val (.int (128 : Int32))] [(.long q0), (.ref ca)]))
      refine own_by (fun _ kS => XS.l2i X16.here hx rfl (hb hby d13_24) rfl kS) ?_
      show own_Comes p e below s _ _ _ (T16.setTop (mkF m 25 #[.val (.long q0), .second, .val (.int (128 : Int32))] [(.int (q0.toInt32)), (.ref ca)]))
      refine own_by (fun _ kS => XS.sipush X16.here hx rfl (hb hby d13_25) kS) ?_
      show own_Comes p e below s _ _ _ (T16.setTop (mkF m 28 #[.val (.long q0), .second, .val (.int (128 : Int32))] [(.int (128 : Int32)), (.int (q0.toInt32)), (.ref ca)]))
      refine own_by (fun _ kS => XS.iadd X16.here hx rfl (hb hby d13_28) rfl kS) ?_
      show own_Comes p e below s _ _ _ (T16.setTop (mkF m 29 #[.val (.long q0), .second, .val (.int (128 : Int32))] [(.int ((q0.toInt32) + (128 : Int32))), (.ref ca)]))
      obtain ⟨Ab, Sb, -, Hb⟩ := Bx
      have hin := own_lc (fun q => hlo ((lw_lt _ _).mpr q)) (fun q => hhi ((lw_gt _ _).mpr q)) Sb
      obtain ⟨bx, eb, Eb, Fb⟩ := Hb _ hin
      have Ar := Ab.ext O0.2
      refine own_by (fun _ kS => X16.aaload hx (j := ((q0.toInt32) + (128 : Int32))) (v := (.ref bx)) (by rw [e16]; exact Ar.1) (State.isArrayOf_alike hZ.alike Ar.2.1) rfl Ar.2.2 hin eb (g := (mkF m 29 #[.val (.long q0), .second, .val (.int (128 : Int32))] [(.int ((q0.toInt32) + (128 : Int32))), (.ref ca)])) rfl rfl (hb hby d13_29) _ kS) ?_
      show own_Comes p e below s _ _ _ (T16.setTop (mkF m 30 #[.val (.long q0), .second, .val (.int (128 : Int32))] [(.ref bx)]))
      refine own_ret X16 (v := some (.ref bx)) (fun h => by rw [Bd.returns] at h; cases h) Bd.notSynchronized (by decide) (by decide) ?_ (fun fs hr => own_reta X16 hx Bd.returns rfl rfl (hb hby d13_30) hr)
      rw [e16]; exact ⟨_, rfl, N0, own_ext (Keep.refl _ _), Eb.ext O0.2⟩
def Q4 (Z : State) (em : Addr) (h0 : Heap) (n0 : Nat) (v : Option Value) (h : Heap) (L : List Loc) : Prop := v = some (.ref em) ∧ Fr n0 L ∧ h = h0
theorem ef_rm4 (m : MethodId)  : entryFrame m #[] 0 = mkF m 0 #[] [] := by first | (simp [entryFrame, mkF, argsToLocals, Value.category]; done) | rfl
theorem pn_java_util_Map : plainName "java/util/Map" = true := by first | (simp [plainName, overriddenIn]; done) | decide +kernel
theorem d4_0 : decode jdk_72_method_26_code 0 = .ok (.getstatic 81, 3) := by decide +kernel
theorem d4_3 : decode jdk_72_method_26_code 3 = .ok (.areturn, 1) := by decide +kernel
set_option maxRecDepth 65536 in
set_option maxHeartbeats 40000000 in
theorem rm4 (l : Launch) (Z : State) (a0 : Array Value) (hw : ∀ d ∈ tables_1, d.before a0 Z = true) (ws : List Jvm.Cond) (em : Addr) (h0 : Heap) (n0 : Nat) (Z0 : n0 ≤ h0.size) (Se : Sta Z h0 "java/util/ImmutableCollections" "EMPTY_MAP" "Ljava/util/ImmutableCollections$MapN;" (.ref em)) :
    MetFree l (⟨"java/util/Map", "of", "()Ljava/util/Map;"⟩ : MethodName) (head1 (Jvm.Cond.code (⟨"java/util/Map", "of", "()Ljava/util/Map;"⟩ : MethodName) jdk_72_method_26_code 0 (some (.object "java/util/Map")) :: ws) ({ frames := 0, cells := 0, slots := 0, locals := 0 } : Room)) (fun aX UX => aX = #[] ∧ Z.Warmed39 UX.vm ∧ UX.heap = h0) (fun _ _ _ _ _ => True) (fun _ UX oX UX' => ∃ vX LX, oX = .returned vX ∧ Q4 Z em h0 n0 vX UX'.heap LX ∧ FrameEnd UX oX UX' LX ({ frames := 0, cells := 0, slots := 0, locals := 0 } : Room).cells ({ frames := 0, cells := 0, slots := 0, locals := 0 } : Room).slots) := by
  refine MetFree.of_bodySF (plainFor_of_name pn_java_util_Map) hisR ?_
  intro p e s m args below meth c s₁ Bd hml0 hP hK
  obtain ⟨rfl, hZ, hh⟩ := hP
  have hx := Bd.exec
  have hby := Bd.bytes
  have hml : c.maxLocals = 0 := hml0
  have hown : s.vm.findClass "java/util/Map" = some m.cls := findClass_of_methodNamed Bd.named
  have hnm := (name_of_methodNamed Bd.named Bd.method).1
  have X0 : Stand p l e ({ frames := 0, cells := 0, slots := 0, locals := 0 } : Room) s m #[] below meth c s₁ [] 0 0 := Stand.of_body Bd
  have e0 : s₁.heap = h0 := by rw [← hh, Bd.state]; rfl
  have N0 := Fr.nil n0
  show own_Comes p e below s ({ frames := 0, cells := 0, slots := 0, locals := 0 } : Room).cells ({ frames := 0, cells := 0, slots := 0, locals := 0 } : Room).slots (Q4 Z em h0 n0) _
  rw [show entryFrame m #[] 0 = mkF m 0 #[] [] from ef_rm4 m ]
  show own_Comes p e below s _ _ _ (s₁.setTop (mkF m 0 #[] []))
  obtain ⟨T17, X17, e17, st17⟩ := getS2 X0 hx hZ hown (host := "") (Or.inl (hw _ (List.mem_of_getElem? (i := 23) rfl))) Via.refl e0 Se (g := (mkF m 0 #[] [])) rfl (hb hby d4_0)
  refine own_by st17 ?_
  show own_Comes p e below s _ _ _ (T17.setTop (mkF m 3 #[] [(.ref em)]))
  refine own_ret X17 (v := some (.ref em)) (fun h => by rw [Bd.returns] at h; cases h) Bd.notSynchronized (by decide) (by decide) ?_ (fun fs hr => own_reta X17 hx Bd.returns rfl rfl (hb hby d4_3) hr)
  rw [e17]; exact ⟨rfl, N0, rfl⟩
def Q5n (Z : State) (r0 r1 r7 : Addr) (h0 : Heap) (n0 : Nat) (v : Option Value) (h : Heap) (L : List Loc) : Prop := v = none ∧ Fr n0 L ∧ Keep h0 h [r0] ∧ own_An Z h r0 r1 .null r7
theorem ef_rm5n (m : MethodId) (x0 : Addr) (x1 : Addr) (x7 : Addr) : entryFrame m #[(.ref x0), (.ref x1), .null, .null, .null, .null, .null, (.ref x7), .null] 9 = mkF m 0 #[.val (.ref x0), .val (.ref x1), .val .null, .val .null, .val .null, .val .null, .val .null, .val (.ref x7), .val .null] [] := by first | (simp [entryFrame, mkF, argsToLocals, Value.category]; done) | rfl
theorem pn_com_example_layered_mocks_layeredmocks_Answer : plainName "com/example/layered_mocks/layeredmocks/Answer" = true := by first | (simp [plainName, overriddenIn]; done) | decide +kernel
theorem d5_0 : decode prog_1_method_2_code 0 = .ok (.aload_n 0, 1) := by decide +kernel
theorem d5_1 : decode prog_1_method_2_code 1 = .ok (.invokespecial 13, 3) := by decide +kernel
theorem d5_4 : decode prog_1_method_2_code 4 = .ok (.aload_n 0, 1) := by decide +kernel
theorem d5_5 : decode prog_1_method_2_code 5 = .ok (.aload_n 1, 1) := by decide +kernel
theorem d5_6 : decode prog_1_method_2_code 6 = .ok (.putfield 18, 3) := by decide +kernel
theorem d5_9 : decode prog_1_method_2_code 9 = .ok (.aload_n 0, 1) := by decide +kernel
theorem d5_10 : decode prog_1_method_2_code 10 = .ok (.aload_n 2, 1) := by decide +kernel
theorem d5_11 : decode prog_1_method_2_code 11 = .ok (.putfield 22, 3) := by decide +kernel
theorem d5_14 : decode prog_1_method_2_code 14 = .ok (.aload_n 0, 1) := by decide +kernel
theorem d5_15 : decode prog_1_method_2_code 15 = .ok (.aload_n 3, 1) := by decide +kernel
theorem d5_16 : decode prog_1_method_2_code 16 = .ok (.putfield 26, 3) := by decide +kernel
theorem d5_19 : decode prog_1_method_2_code 19 = .ok (.aload_n 0, 1) := by decide +kernel
theorem d5_20 : decode prog_1_method_2_code 20 = .ok (.aload 4, 2) := by decide +kernel
theorem d5_22 : decode prog_1_method_2_code 22 = .ok (.putfield 30, 3) := by decide +kernel
theorem d5_25 : decode prog_1_method_2_code 25 = .ok (.aload_n 0, 1) := by decide +kernel
theorem d5_26 : decode prog_1_method_2_code 26 = .ok (.aload 5, 2) := by decide +kernel
theorem d5_28 : decode prog_1_method_2_code 28 = .ok (.putfield 34, 3) := by decide +kernel
theorem d5_31 : decode prog_1_method_2_code 31 = .ok (.aload_n 0, 1) := by decide +kernel
theorem d5_32 : decode prog_1_method_2_code 32 = .ok (.aload 6, 2) := by decide +kernel
theorem d5_34 : decode prog_1_method_2_code 34 = .ok (.putfield 37, 3) := by decide +kernel
theorem d5_37 : decode prog_1_method_2_code 37 = .ok (.aload_n 0, 1) := by decide +kernel
theorem d5_38 : decode prog_1_method_2_code 38 = .ok (.aload 7, 2) := by decide +kernel
theorem d5_40 : decode prog_1_method_2_code 40 = .ok (.putfield 40, 3) := by decide +kernel
theorem d5_43 : decode prog_1_method_2_code 43 = .ok (.aload_n 0, 1) := by decide +kernel
theorem d5_44 : decode prog_1_method_2_code 44 = .ok (.aload 8, 2) := by decide +kernel
theorem d5_46 : decode prog_1_method_2_code 46 = .ok (.putfield 44, 3) := by decide +kernel
theorem d5_49 : decode prog_1_method_2_code 49 = .ok (.return_, 1) := by decide +kernel
set_option maxRecDepth 65536 in
set_option maxHeartbeats 40000000 in
theorem rm5n (l : Launch) (Z : State) (a0 : Array Value) (hw : ∀ d ∈ tables_1, d.before a0 Z = true) (ws : List Jvm.Cond) (r0 r1 r7 : Addr) (h0 : Heap) (n0 : Nat) (Z0 : n0 ≤ h0.size) (Et : Exa Z h0 r0 "com/example/layered_mocks/layeredmocks/Answer") (G_kind : Fld Z h0 r0 "com/example/layered_mocks/layeredmocks/Answer" "kind" "Lcom/example/layered_mocks/layeredmocks/Answer$Kind;" .null) (G_result : Fld Z h0 r0 "com/example/layered_mocks/layeredmocks/Answer" "result" "Ljava/lang/Object;" .null) (G_failure : Fld Z h0 r0 "com/example/layered_mocks/layeredmocks/Answer" "failure" "Ljava/lang/Throwable;" .null) (G_faultCode : Fld Z h0 r0 "com/example/layered_mocks/layeredmocks/Answer" "faultCode" "Ljava/lang/String;" .null) (G_faultMessage : Fld Z h0 r0 "com/example/layered_mocks/layeredmocks/Answer" "faultMessage" "Ljava/lang/String;" .null) (G_sharedKey : Fld Z h0 r0 "com/example/layered_mocks/layeredmocks/Answer" "sharedKey" "Ljava/lang/String;" .null) (G_updates : Fld Z h0 r0 "com/example/layered_mocks/layeredmocks/Answer" "updates" "Ljava/util/Map;" .null) (G_delay : Fld Z h0 r0 "com/example/layered_mocks/layeredmocks/Answer" "delay" "Ljava/time/Duration;" .null) (g_r0 : n0 ≤ r0) :
    MetFree l (⟨"com/example/layered_mocks/layeredmocks/Answer", "<init>", "(Lcom/example/layered_mocks/layeredmocks/Answer$Kind;Ljava/lang/Object;Ljava/lang/Throwable;Ljava/lang/String;Ljava/lang/String;Ljava/lang/String;Ljava/util/Map;Ljava/time/Duration;)V"⟩ : MethodName) (head1 (Jvm.Cond.code (⟨"com/example/layered_mocks/layeredmocks/Answer", "<init>", "(Lcom/example/layered_mocks/layeredmocks/Answer$Kind;Ljava/lang/Object;Ljava/lang/Throwable;Ljava/lang/String;Ljava/lang/String;Ljava/lang/String;Ljava/util/Map;Ljava/time/Duration;)V"⟩ : MethodName) prog_1_method_2_code 9 none :: ws) ({ frames := 1, cells := 0, slots := 0, locals := 12 } : Room)) (fun aX UX => aX = #[(.ref r0), (.ref r1), .null, .null, .null, .null, .null, (.ref r7), .null] ∧ Z.Warmed39 UX.vm ∧ UX.heap = h0) (fun _ _ _ _ _ => True) (fun _ UX oX UX' => ∃ vX LX, oX = .returned vX ∧ Q5n Z r0 r1 r7 h0 n0 vX UX'.heap LX ∧ FrameEnd UX oX UX' LX ({ frames := 1, cells := 0, slots := 0, locals := 12 } : Room).cells ({ frames := 1, cells := 0, slots := 0, locals := 12 } : Room).slots) := by
  refine MetFree.of_bodySF (plainFor_of_name pn_com_example_layered_mocks_layeredmocks_Answer) hisR ?_
  intro p e s m args below meth c s₁ Bd hml0 hP hK
  obtain ⟨rfl, hZ, hh⟩ := hP
  have hx := Bd.exec
  have hby := Bd.bytes
  have hml : c.maxLocals = 9 := hml0
  have hown : s.vm.findClass "com/example/layered_mocks/layeredmocks/Answer" = some m.cls := findClass_of_methodNamed Bd.named
  have hnm := (name_of_methodNamed Bd.named Bd.method).1
  have X0 : Stand p l e ({ frames := 1, cells := 0, slots := 0, locals := 12 } : Room) s m #[(.ref r0), (.ref r1), .null, .null, .null, .null, .null, (.ref r7), .null] below meth c s₁ [] 0 0 := Stand.of_body Bd
  have e0 : s₁.heap = h0 := by rw [← hh, Bd.state]; rfl
  have N0 := Fr.nil n0
  show own_Comes p e below s ({ frames := 1, cells := 0, slots := 0, locals := 12 } : Room).cells ({ frames := 1, cells := 0, slots := 0, locals := 12 } : Room).slots (Q5n Z r0 r1 r7 h0 n0) _
  rw [show entryFrame m #[(.ref r0), (.ref r1), .null, .null, .null, .null, .null, (.ref r7), .null] 9 = mkF m 0 #[.val (.ref r0), .val (.ref r1), .val .null, .val .null, .val .null, .val .null, .val .null, .val (.ref r7), .val .null] [] from ef_rm5n m r0 r1 r7]
  show own_Comes p e below s _ _ _ (s₁.setTop (mkF m 0 #[.val (.ref r0), .val (.ref r1), .val .null, .val .null, .val .null, .val .null, .val .null, .val (.ref r7), .val .null] []))
  refine own_by (fun _ kS => XS.aloadN X0.here hx rfl (hb hby d5_0) rfl rfl kS) ?_
  show own_Comes p e below s _ _ _ (s₁.setTop (mkF m 1 #[.val (.ref r0), .val (.ref r1), .val .null, .val .null, .val .null, .val .null, .val .null, .val (.ref r7), .val .null] [(.ref r0)]))
  obtain ⟨T18, X18, e18, st18⟩ := initO X0 hx hZ hown (hw _ (List.mem_of_getElem? (i := 28) rfl)) (hw _ (List.mem_of_getElem? (i := 29) rfl)) (hw _ (List.mem_of_getElem? (i := 30) rfl)) e0 (g := (mkF m 1 #[.val (.ref r0), .val (.ref r1), .val .null, .val .null, .val .null, .val .null, .val .null, .val (.ref r7), .val .null] [(.ref r0)])) rfl (by rw [hml]; rfl) rfl (hb hby d5_1) (by decide) (W := 0) (by show 2 * 0 + _ ≤ _; exact Nat.le_of_eq rfl) (by decide)
  refine own_by st18 ?_
  show own_Comes p e below s _ _ _ (T18.setTop (mkF m 4 #[.val (.ref r0), .val (.ref r1), .val .null, .val .null, .val .null, .val .null, .val .null, .val (.ref r7), .val .null] []))
  refine own_by (fun _ kS => XS.aloadN X18.here hx rfl (hb hby d5_4) rfl rfl kS) ?_
  show own_Comes p e below s _ _ _ (T18.setTop (mkF m 5 #[.val (.ref r0), .val (.ref r1), .val .null, .val .null, .val .null, .val .null, .val .null, .val (.ref r7), .val .null] [(.ref r0)]))
  refine own_by (fun _ kS => XS.aloadN X18.here hx rfl (hb hby d5_5) rfl rfl kS) ?_
  show own_Comes p e below s _ _ _ (T18.setTop (mkF m 6 #[.val (.ref r0), .val (.ref r1), .val .null, .val .null, .val .null, .val .null, .val .null, .val (.ref r7), .val .null] [(.ref r1), (.ref r0)]))
  obtain ⟨T19, h19, X19, e19, W19, st19⟩ := putF X18 hx hZ hown (host := "") (Or.inl (hw _ (List.mem_of_getElem? (i := 31) rfl))) Via.refl e18 G_kind Et (Or.inr ⟨(hw _ (List.mem_of_getElem? (i := 32) rfl)), rfl, hnm⟩) (hw _ (List.mem_of_getElem? (i := 12) rfl)) (ty := (.object "com/example/layered_mocks/layeredmocks/Answer$Kind")) (by decide) rfl rfl (g := (mkF m 6 #[.val (.ref r0), .val (.ref r1), .val .null, .val .null, .val .null, .val .null, .val .null, .val (.ref r7), .val .null] [(.ref r1), (.ref r0)])) rfl rfl (hb hby d5_6)
  refine own_by st19 ?_
  have Fw19 := G_kind.same W19
  have N19 := Fr.snoc X19 N0 g_r0
  show own_Comes p e below s _ _ _ (T19.setTop (mkF m 9 #[.val (.ref r0), .val (.ref r1), .val .null, .val .null, .val .null, .val .null, .val .null, .val (.ref r7), .val .null] []))
  refine own_by (fun _ kS => XS.aloadN X19.here hx rfl (hb hby d5_9) rfl rfl kS) ?_
  show own_Comes p e below s _ _ _ (T19.setTop (mkF m 10 #[.val (.ref r0), .val (.ref r1), .val .null, .val .null, .val .null, .val .null, .val .null, .val (.ref r7), .val .null] [(.ref r0)]))
  refine own_by (fun _ kS => XS.aloadN X19.here hx rfl (hb hby d5_10) rfl rfl kS) ?_
  show own_Comes p e below s _ _ _ (T19.setTop (mkF m 11 #[.val (.ref r0), .val (.ref r1), .val .null, .val .null, .val .null, .val .null, .val .null, .val (.ref r7), .val .null] [.null, (.ref r0)]))
  have c20 := (G_result.other W19 (Or.inr (slot_ne (Or.inr (hw _ (List.mem_of_getElem? (i := 34) rfl))) (Or.inr (hw _ (List.mem_of_getElem? (i := 32) rfl))) (by decide) (t := (.object "java/lang/Object")) (t' := (.object "com/example/layered_mocks/layeredmocks/Answer$Kind")) (by decide) (by decide))))
  obtain ⟨T21, h21, X21, e21, W21, st21⟩ := putF X19 hx hZ hown (host := "") (Or.inl (hw _ (List.mem_of_getElem? (i := 33) rfl))) Via.refl e19 c20 (Et.wr W19) (Or.inr ⟨(hw _ (List.mem_of_getElem? (i := 34) rfl)), rfl, hnm⟩) (hw _ (List.mem_of_getElem? (i := 12) rfl)) (ty := (.object "java/lang/Object")) (by decide) rfl rfl (g := (mkF m 11 #[.val (.ref r0), .val (.ref r1), .val .null, .val .null, .val .null, .val .null, .val .null, .val (.ref r7), .val .null] [.null, (.ref r0)])) rfl rfl (hb hby d5_11)
  refine own_by st21 ?_
  have Fw21 := c20.same W21
  have N21 := Fr.snoc X21 N19 g_r0
  show own_Comes p e below s _ _ _ (T21.setTop (mkF m 14 #[.val (.ref r0), .val (.ref r1), .val .null, .val .null, .val .null, .val .null, .val .null, .val (.ref r7), .val .null] []))
  refine own_by (fun _ kS => XS.aloadN X21.here hx rfl (hb hby d5_14) rfl rfl kS) ?_
  show own_Comes p e below s _ _ _ (T21.setTop (mkF m 15 #[.val (.ref r0), .val (.ref r1), .val .null, .val .null, .val .null, .val .null, .val .null, .val (.ref r7), .val .null] [(.ref r0)]))
  refine own_by (fun _ kS => XS.aloadN X21.here hx rfl (hb hby d5_15) rfl rfl kS) ?_
  show own_Comes p e below s _ _ _ (T21.setTop (mkF m 16 #[.val (.ref r0), .val (.ref r1), .val .null, .val .null, .val .null, .val .null, .val .null, .val (.ref r7), .val .null] [.null, (.ref r0)]))
  have c22 := ((G_failure.other W19 (Or.inr (slot_ne (Or.inr (hw _ (List.mem_of_getElem? (i := 36) rfl))) (Or.inr (hw _ (List.mem_of_getElem? (i := 32) rfl))) (by decide) (t := (.object "java/lang/Throwable")) (t' := (.object "com/example/layered_mocks/layeredmocks/Answer$Kind")) (by decide) (by decide)))).other W21 (Or.inr (slot_ne (Or.inr (hw _ (List.mem_of_getElem? (i := 36) rfl))) (Or.inr (hw _ (List.mem_of_getElem? (i := 34) rfl))) (by decide) (t := (.object "java/lang/Throwable")) (t' := (.object "java/lang/Object")) (by decide) (by decide))))
  obtain ⟨T23, h23, X23, e23, W23, st23⟩ := putF X21 hx hZ hown (host := "") (Or.inl (hw _ (List.mem_of_getElem? (i := 35) rfl))) Via.refl e21 c22 ((Et.wr W19).wr W21) (Or.inr ⟨(hw _ (List.mem_of_getElem? (i := 36) rfl)), rfl, hnm⟩) (hw _ (List.mem_of_getElem? (i := 12) rfl)) (ty := (.object "java/lang/Throwable")) (by decide) rfl rfl (g := (mkF m 16 #[.val (.ref r0), .val (.ref r1), .val .null, .val .null, .val .null, .val .null, .val .null, .val (.ref r7), .val .null] [.null, (.ref r0)])) rfl rfl (hb hby d5_16)
  refine own_by st23 ?_
  have Fw23 := c22.same W23
  have N23 := Fr.snoc X23 N21 g_r0
  show own_Comes p e below s _ _ _ (T23.setTop (mkF m 19 #[.val (.ref r0), .val (.ref r1), .val .null, .val .null, .val .null, .val .null, .val .null, .val (.ref r7), .val .null] []))
  refine own_by (fun _ kS => XS.aloadN X23.here hx rfl (hb hby d5_19) rfl rfl kS) ?_
  show own_Comes p e below s _ _ _ (T23.setTop (mkF m 20 #[.val (.ref r0), .val (.ref r1), .val .null, .val .null, .val .null, .val .null, .val .null, .val (.ref r7), .val .null] [(.ref r0)]))
  refine own_by (fun _ kS => XS.aload X23.here hx rfl (hb hby d5_20) rfl rfl kS) ?_
  show own_Comes p e below s _ _ _ (T23.setTop (mkF m 22 #[.val (.ref r0), .val (.ref r1), .val .null, .val .null, .val .null, .val .null, .val .null, .val (.ref r7), .val .null] [.null, (.ref r0)]))
  have c24 := (((G_faultCode.other W19 (Or.inr (slot_ne (Or.inr (hw _ (List.mem_of_getElem? (i := 38) rfl))) (Or.inr (hw _ (List.mem_of_getElem? (i := 32) rfl))) (by decide) (t := (.object "java/lang/String")) (t' := (.object "com/example/layered_mocks/layeredmocks/Answer$Kind")) (by decide) (by decide)))).other W21 (Or.inr (slot_ne (Or.inr (hw _ (List.mem_of_getElem? (i := 38) rfl))) (Or.inr (hw _ (List.mem_of_getElem? (i := 34) rfl))) (by decide) (t := (.object "java/lang/String")) (t' := (.object "java/lang/Object")) (by decide) (by decide)))).other W23 (Or.inr (slot_ne (Or.inr (hw _ (List.mem_of_getElem? (i := 38) rfl))) (Or.inr (hw _ (List.mem_of_getElem? (i := 36) rfl))) (by decide) (t := (.object "java/lang/String")) (t' := (.object "java/lang/Throwable")) (by decide) (by decide))))
  obtain ⟨T25, h25, X25, e25, W25, st25⟩ := putF X23 hx hZ hown (host := "") (Or.inl (hw _ (List.mem_of_getElem? (i := 37) rfl))) Via.refl e23 c24 (((Et.wr W19).wr W21).wr W23) (Or.inr ⟨(hw _ (List.mem_of_getElem? (i := 38) rfl)), rfl, hnm⟩) (hw _ (List.mem_of_getElem? (i := 12) rfl)) (ty := (.object "java/lang/String")) (by decide) rfl rfl (g := (mkF m 22 #[.val (.ref r0), .val (.ref r1), .val .null, .val .null, .val .null, .val .null, .val .null, .val (.ref r7), .val .null] [.null, (.ref r0)])) rfl rfl (hb hby d5_22)
  refine own_by st25 ?_
  have Fw25 := c24.same W25
  have N25 := Fr.snoc X25 N23 g_r0
  show own_Comes p e below s _ _ _ (T25.setTop (mkF m 25 #[.val (.ref r0), .val (.ref r1), .val .null, .val .null, .val .null, .val .null, .val .null, .val (.ref r7), .val .null] []))
  refine own_by (fun _ kS => XS.aloadN X25.here hx rfl (hb hby d5_25) rfl rfl kS) ?_
  show own_Comes p e below s _ _ _ (T25.setTop (mkF m 26 #[.val (.ref r0), .val (.ref r1), .val .null, .val .null, .val .null, .val .null, .val .null, .val (.ref r7), .val .null] [(.ref r0)]))
  refine own_by (fun _ kS => XS.aload X25.here hx rfl (hb hby d5_26) rfl rfl kS) ?_
  show own_Comes p e below s _ _ _ (T25.setTop (mkF m 28 #[.val (.ref r0), .val (.ref r1), .val .null, .val .null, .val .null, .val .null, .val .null, .val (.ref r7), .val .null] [.null, (.ref r0)]))
  have c26 := ((((G_faultMessage.other W19 (Or.inr (slot_ne (Or.inr (hw _ (List.mem_of_getElem? (i := 40) rfl))) (Or.inr (hw _ (List.mem_of_getElem? (i := 32) rfl))) (by decide) (t := (.object "java/lang/String")) (t' := (.object "com/example/layered_mocks/layeredmocks/Answer$Kind")) (by decide) (by decide)))).other W21 (Or.inr (slot_ne (Or.inr (hw _ (List.mem_of_getElem? (i := 40) rfl))) (Or.inr (hw _ (List.mem_of_getElem? (i := 34) rfl))) (by decide) (t := (.object "java/lang/String")) (t' := (.object "java/lang/Object")) (by decide) (by decide)))).other W23 (Or.inr (slot_ne (Or.inr (hw _ (List.mem_of_getElem? (i := 40) rfl))) (Or.inr (hw _ (List.mem_of_getElem? (i := 36) rfl))) (by decide) (t := (.object "java/lang/String")) (t' := (.object "java/lang/Throwable")) (by decide) (by decide)))).other W25 (Or.inr (slot_ne (Or.inr (hw _ (List.mem_of_getElem? (i := 40) rfl))) (Or.inr (hw _ (List.mem_of_getElem? (i := 38) rfl))) (by decide) (t := (.object "java/lang/String")) (t' := (.object "java/lang/String")) (by decide) (by decide))))
  obtain ⟨T27, h27, X27, e27, W27, st27⟩ := putF X25 hx hZ hown (host := "") (Or.inl (hw _ (List.mem_of_getElem? (i := 39) rfl))) Via.refl e25 c26 ((((Et.wr W19).wr W21).wr W23).wr W25) (Or.inr ⟨(hw _ (List.mem_of_getElem? (i := 40) rfl)), rfl, hnm⟩) (hw _ (List.mem_of_getElem? (i := 12) rfl)) (ty := (.object "java/lang/String")) (by decide) rfl rfl (g := (mkF m 28 #[.val (.ref r0), .val (.ref r1), .val .null, .val .null, .val .null, .val .null, .val .null, .val (.ref r7), .val .null] [.null, (.ref r0)])) rfl rfl (hb hby d5_28)
  refine own_by st27 ?_
  have Fw27 := c26.same W27
  have N27 := Fr.snoc X27 N25 g_r0
  show own_Comes p e below s _ _ _ (T27.setTop (mkF m 31 #[.val (.ref r0), .val (.ref r1), .val .null, .val .null, .val .null, .val .null, .val .null, .val (.ref r7), .val .null] []))
  refine own_by (fun _ kS => XS.aloadN X27.here hx rfl (hb hby d5_31) rfl rfl kS) ?_
  show own_Comes p e below s _ _ _ (T27.setTop (mkF m 32 #[.val (.ref r0), .val (.ref r1), .val .null, .val .null, .val .null, .val .null, .val .null, .val (.ref r7), .val .null] [(.ref r0)]))
  refine own_by (fun _ kS => XS.aload X27.here hx rfl (hb hby d5_32) rfl rfl kS) ?_
  show own_Comes p e below s _ _ _ (T27.setTop (mkF m 34 #[.val (.ref r0), .val (.ref r1), .val .null, .val .null, .val .null, .val .null, .val .null, .val (.ref r7), .val .null] [.null, (.ref r0)]))
  have c28 := (((((G_sharedKey.other W19 (Or.inr (slot_ne (Or.inr (hw _ (List.mem_of_getElem? (i := 42) rfl))) (Or.inr (hw _ (List.mem_of_getElem? (i := 32) rfl))) (by decide) (t := (.object "java/lang/String")) (t' := (.object "com/example/layered_mocks/layeredmocks/Answer$Kind")) (by decide) (by decide)))).other W21 (Or.inr (slot_ne (Or.inr (hw _ (List.mem_of_getElem? (i := 42) rfl))) (Or.inr (hw _ (List.mem_of_getElem? (i := 34) rfl))) (by decide) (t := (.object "java/lang/String")) (t' := (.object "java/lang/Object")) (by decide) (by decide)))).other W23 (Or.inr (slot_ne (Or.inr (hw _ (List.mem_of_getElem? (i := 42) rfl))) (Or.inr (hw _ (List.mem_of_getElem? (i := 36) rfl))) (by decide) (t := (.object "java/lang/String")) (t' := (.object "java/lang/Throwable")) (by decide) (by decide)))).other W25 (Or.inr (slot_ne (Or.inr (hw _ (List.mem_of_getElem? (i := 42) rfl))) (Or.inr (hw _ (List.mem_of_getElem? (i := 38) rfl))) (by decide) (t := (.object "java/lang/String")) (t' := (.object "java/lang/String")) (by decide) (by decide)))).other W27 (Or.inr (slot_ne (Or.inr (hw _ (List.mem_of_getElem? (i := 42) rfl))) (Or.inr (hw _ (List.mem_of_getElem? (i := 40) rfl))) (by decide) (t := (.object "java/lang/String")) (t' := (.object "java/lang/String")) (by decide) (by decide))))
  obtain ⟨T29, h29, X29, e29, W29, st29⟩ := putF X27 hx hZ hown (host := "") (Or.inl (hw _ (List.mem_of_getElem? (i := 41) rfl))) Via.refl e27 c28 (((((Et.wr W19).wr W21).wr W23).wr W25).wr W27) (Or.inr ⟨(hw _ (List.mem_of_getElem? (i := 42) rfl)), rfl, hnm⟩) (hw _ (List.mem_of_getElem? (i := 12) rfl)) (ty := (.object "java/lang/String")) (by decide) rfl rfl (g := (mkF m 34 #[.val (.ref r0), .val (.ref r1), .val .null, .val .null, .val .null, .val .null, .val .null, .val (.ref r7), .val .null] [.null, (.ref r0)])) rfl rfl (hb hby d5_34)
  refine own_by st29 ?_
  have Fw29 := c28.same W29
  have N29 := Fr.snoc X29 N27 g_r0
  show own_Comes p e below s _ _ _ (T29.setTop (mkF m 37 #[.val (.ref r0), .val (.ref r1), .val .null, .val .null, .val .null, .val .null, .val .null, .val (.ref r7), .val .null] []))
  refine own_by (fun _ kS => XS.aloadN X29.here hx rfl (hb hby d5_37) rfl rfl kS) ?_
  show own_Comes p e below s _ _ _ (T29.setTop (mkF m 38 #[.val (.ref r0), .val (.ref r1), .val .null, .val .null, .val .null, .val .null, .val .null, .val (.ref r7), .val .null] [(.ref r0)]))
  refine own_by (fun _ kS => XS.aload X29.here hx rfl (hb hby d5_38) rfl rfl kS) ?_
  show own_Comes p e below s _ _ _ (T29.setTop (mkF m 40 #[.val (.ref r0), .val (.ref r1), .val .null, .val .null, .val .null, .val .null, .val .null, .val (.ref r7), .val .null] [(.ref r7), (.ref r0)]))
  have c30 := ((((((G_updates.other W19 (Or.inr (slot_ne (Or.inr (hw _ (List.mem_of_getElem? (i := 44) rfl))) (Or.inr (hw _ (List.mem_of_getElem? (i := 32) rfl))) (by decide) (t := (.object "java/util/Map")) (t' := (.object "com/example/layered_mocks/layeredmocks/Answer$Kind")) (by decide) (by decide)))).other W21 (Or.inr (slot_ne (Or.inr (hw _ (List.mem_of_getElem? (i := 44) rfl))) (Or.inr (hw _ (List.mem_of_getElem? (i := 34) rfl))) (by decide) (t := (.object "java/util/Map")) (t' := (.object "java/lang/Object")) (by decide) (by decide)))).other W23 (Or.inr (slot_ne (Or.inr (hw _ (List.mem_of_getElem? (i := 44) rfl))) (Or.inr (hw _ (List.mem_of_getElem? (i := 36) rfl))) (by decide) (t := (.object "java/util/Map")) (t' := (.object "java/lang/Throwable")) (by decide) (by decide)))).other W25 (Or.inr (slot_ne (Or.inr (hw _ (List.mem_of_getElem? (i := 44) rfl))) (Or.inr (hw _ (List.mem_of_getElem? (i := 38) rfl))) (by decide) (t := (.object "java/util/Map")) (t' := (.object "java/lang/String")) (by decide) (by decide)))).other W27 (Or.inr (slot_ne (Or.inr (hw _ (List.mem_of_getElem? (i := 44) rfl))) (Or.inr (hw _ (List.mem_of_getElem? (i := 40) rfl))) (by decide) (t := (.object "java/util/Map")) (t' := (.object "java/lang/String")) (by decide) (by decide)))).other W29 (Or.inr (slot_ne (Or.inr (hw _ (List.mem_of_getElem? (i := 44) rfl))) (Or.inr (hw _ (List.mem_of_getElem? (i := 42) rfl))) (by decide) (t := (.object "java/util/Map")) (t' := (.object "java/lang/String")) (by decide) (by decide))))
  have c31 := ((((((Et.wr W19).wr W21).wr W23).wr W25).wr W27).wr W29)
  obtain ⟨T32, h32, X32, e32, W32, st32⟩ := putF X29 hx hZ hown (host := "") (Or.inl (hw _ (List.mem_of_getElem? (i := 43) rfl))) Via.refl e29 c30 c31 (Or.inr ⟨(hw _ (List.mem_of_getElem? (i := 44) rfl)), rfl, hnm⟩) (hw _ (List.mem_of_getElem? (i := 12) rfl)) (ty := (.object "java/util/Map")) (by decide) rfl rfl (g := (mkF m 40 #[.val (.ref r0), .val (.ref r1), .val .null, .val .null, .val .null, .val .null, .val .null, .val (.ref r7), .val .null] [(.ref r7), (.ref r0)])) rfl rfl (hb hby d5_40)
  refine own_by st32 ?_
  have Fw32 := c30.same W32
  have N32 := Fr.snoc X32 N29 g_r0
  show own_Comes p e below s _ _ _ (T32.setTop (mkF m 43 #[.val (.ref r0), .val (.ref r1), .val .null, .val .null, .val .null, .val .null, .val .null, .val (.ref r7), .val .null] []))
  refine own_by (fun _ kS => XS.aloadN X32.here hx rfl (hb hby d5_43) rfl rfl kS) ?_
  show own_Comes p e below s _ _ _ (T32.setTop (mkF m 44 #[.val (.ref r0), .val (.ref r1), .val .null, .val .null, .val .null, .val .null, .val .null, .val (.ref r7), .val .null] [(.ref r0)]))
  refine own_by (fun _ kS => XS.aload X32.here hx rfl (hb hby d5_44) rfl rfl kS) ?_
  show own_Comes p e below s _ _ _ (T32.setTop (mkF m 46 #[.val (.ref r0), .val (.ref r1), .val .null, .val .null, .val .null, .val .null, .val .null, .val (.ref r7), .val .null] [.null, (.ref r0)]))
  have c33 := (((((((G_delay.other W19 (Or.inr (slot_ne (Or.inr (hw _ (List.mem_of_getElem? (i := 46) rfl))) (Or.inr (hw _ (List.mem_of_getElem? (i := 32) rfl))) (by decide) (t := (.object "java/time/Duration")) (t' := (.object "com/example/layered_mocks/layeredmocks/Answer$Kind")) (by decide) (by decide)))).other W21 (Or.inr (slot_ne (Or.inr (hw _ (List.mem_of_getElem? (i := 46) rfl))) (Or.inr (hw _ (List.mem_of_getElem? (i := 34) rfl))) (by decide) (t := (.object "java/time/Duration")) (t' := (.object "java/lang/Object")) (by decide) (by decide)))).other W23 (Or.inr (slot_ne (Or.inr (hw _ (List.mem_of_getElem? (i := 46) rfl))) (Or.inr (hw _ (List.mem_of_getElem? (i := 36) rfl))) (by decide) (t := (.object "java/time/Duration")) (t' := (.object "java/lang/Throwable")) (by decide) (by decide)))).other W25 (Or.inr (slot_ne (Or.inr (hw _ (List.mem_of_getElem? (i := 46) rfl))) (Or.inr (hw _ (List.mem_of_getElem? (i := 38) rfl))) (by decide) (t := (.object "java/time/Duration")) (t' := (.object "java/lang/String")) (by decide) (by decide)))).other W27 (Or.inr (slot_ne (Or.inr (hw _ (List.mem_of_getElem? (i := 46) rfl))) (Or.inr (hw _ (List.mem_of_getElem? (i := 40) rfl))) (by decide) (t := (.object "java/time/Duration")) (t' := (.object "java/lang/String")) (by decide) (by decide)))).other W29 (Or.inr (slot_ne (Or.inr (hw _ (List.mem_of_getElem? (i := 46) rfl))) (Or.inr (hw _ (List.mem_of_getElem? (i := 42) rfl))) (by decide) (t := (.object "java/time/Duration")) (t' := (.object "java/lang/String")) (by decide) (by decide)))).other W32 (Or.inr (slot_ne (Or.inr (hw _ (List.mem_of_getElem? (i := 46) rfl))) (Or.inr (hw _ (List.mem_of_getElem? (i := 44) rfl))) (by decide) (t := (.object "java/time/Duration")) (t' := (.object "java/util/Map")) (by decide) (by decide))))
  obtain ⟨T34, h34, X34, e34, W34, st34⟩ := putF X32 hx hZ hown (host := "") (Or.inl (hw _ (List.mem_of_getElem? (i := 45) rfl))) Via.refl e32 c33 (c31.wr W32) (Or.inr ⟨(hw _ (List.mem_of_getElem? (i := 46) rfl)), rfl, hnm⟩) (hw _ (List.mem_of_getElem? (i := 12) rfl)) (ty := (.object "java/time/Duration")) (by decide) rfl rfl (g := (mkF m 46 #[.val (.ref r0), .val (.ref r1), .val .null, .val .null, .val .null, .val .null, .val .null, .val (.ref r7), .val .null] [.null, (.ref r0)])) rfl rfl (hb hby d5_46)
  refine own_by st34 ?_
  have Fw34 := c33.same W34
  have N34 := Fr.snoc X34 N32 g_r0
  show own_Comes p e below s _ _ _ (T34.setTop (mkF m 49 #[.val (.ref r0), .val (.ref r1), .val .null, .val .null, .val .null, .val .null, .val .null, .val (.ref r7), .val .null] []))
  have c35 := (((((((Fw19.other W21 (Or.inr (slot_ne (Or.inr (hw _ (List.mem_of_getElem? (i := 32) rfl))) (Or.inr (hw _ (List.mem_of_getElem? (i := 34) rfl))) (by decide) (t := (.object "com/example/layered_mocks/layeredmocks/Answer$Kind")) (t' := (.object "java/lang/Object")) (by decide) (by decide)))).other W23 (Or.inr (slot_ne (Or.inr (hw _ (List.mem_of_getElem? (i := 32) rfl))) (Or.inr (hw _ (List.mem_of_getElem? (i := 36) rfl))) (by decide) (t := (.object "com/example/layered_mocks/layeredmocks/Answer$Kind")) (t' := (.object "java/lang/Throwable")) (by decide) (by decide)))).other W25 (Or.inr (slot_ne (Or.inr (hw _ (List.mem_of_getElem? (i := 32) rfl))) (Or.inr (hw _ (List.mem_of_getElem? (i := 38) rfl))) (by decide) (t := (.object "com/example/layered_mocks/layeredmocks/Answer$Kind")) (t' := (.object "java/lang/String")) (by decide) (by decide)))).other W27 (Or.inr (slot_ne (Or.inr (hw _ (List.mem_of_getElem? (i := 32) rfl))) (Or.inr (hw _ (List.mem_of_getElem? (i := 40) rfl))) (by decide) (t := (.object "com/example/layered_mocks/layeredmocks/Answer$Kind")) (t' := (.object "java/lang/String")) (by decide) (by decide)))).other W29 (Or.inr (slot_ne (Or.inr (hw _ (List.mem_of_getElem? (i := 32) rfl))) (Or.inr (hw _ (List.mem_of_getElem? (i := 42) rfl))) (by decide) (t := (.object "com/example/layered_mocks/layeredmocks/Answer$Kind")) (t' := (.object "java/lang/String")) (by decide) (by decide)))).other W32 (Or.inr (slot_ne (Or.inr (hw _ (List.mem_of_getElem? (i := 32) rfl))) (Or.inr (hw _ (List.mem_of_getElem? (i := 44) rfl))) (by decide) (t := (.object "com/example/layered_mocks/layeredmocks/Answer$Kind")) (t' := (.object "java/util/Map")) (by decide) (by decide)))).other W34 (Or.inr (slot_ne (Or.inr (hw _ (List.mem_of_getElem? (i := 32) rfl))) (Or.inr (hw _ (List.mem_of_getElem? (i := 46) rfl))) (by decide) (t := (.object "com/example/layered_mocks/layeredmocks/Answer$Kind")) (t' := (.object "java/time/Duration")) (by decide) (by decide))))
  have c36 := ((((((Fw21.other W23 (Or.inr (slot_ne (Or.inr (hw _ (List.mem_of_getElem? (i := 34) rfl))) (Or.inr (hw _ (List.mem_of_getElem? (i := 36) rfl))) (by decide) (t := (.object "java/lang/Object")) (t' := (.object "java/lang/Throwable")) (by decide) (by decide)))).other W25 (Or.inr (slot_ne (Or.inr (hw _ (List.mem_of_getElem? (i := 34) rfl))) (Or.inr (hw _ (List.mem_of_getElem? (i := 38) rfl))) (by decide) (t := (.object "java/lang/Object")) (t' := (.object "java/lang/String")) (by decide) (by decide)))).other W27 (Or.inr (slot_ne (Or.inr (hw _ (List.mem_of_getElem? (i := 34) rfl))) (Or.inr (hw _ (List.mem_of_getElem? (i := 40) rfl))) (by decide) (t := (.object "java/lang/Object")) (t' := (.object "java/lang/String")) (by decide) (by decide)))).other W29 (Or.inr (slot_ne (Or.inr (hw _ (List.mem_of_getElem? (i := 34) rfl))) (Or.inr (hw _ (List.mem_of_getElem? (i := 42) rfl))) (by decide) (t := (.object "java/lang/Object")) (t' := (.object "java/lang/String")) (by decide) (by decide)))).other W32 (Or.inr (slot_ne (Or.inr (hw _ (List.mem_of_getElem? (i := 34) rfl))) (Or.inr (hw _ (List.mem_of_getElem? (i := 44) rfl))) (by decide) (t := (.object "java/lang/Object")) (t' := (.object "java/util/Map")) (by decide) (by decide)))).other W34 (Or.inr (slot_ne (Or.inr (hw _ (List.mem_of_getElem? (i := 34) rfl))) (Or.inr (hw _ (List.mem_of_getElem? (i := 46) rfl))) (by decide) (t := (.object "java/lang/Object")) (t' := (.object "java/time/Duration")) (by decide) (by decide))))
  have c37 := (((((Fw23.other W25 (Or.inr (slot_ne (Or.inr (hw _ (List.mem_of_getElem? (i := 36) rfl))) (Or.inr (hw _ (List.mem_of_getElem? (i := 38) rfl))) (by decide) (t := (.object "java/lang/Throwable")) (t' := (.object "java/lang/String")) (by decide) (by decide)))).other W27 (Or.inr (slot_ne (Or.inr (hw _ (List.mem_of_getElem? (i := 36) rfl))) (Or.inr (hw _ (List.mem_of_getElem? (i := 40) rfl))) (by decide) (t := (.object "java/lang/Throwable")) (t' := (.object "java/lang/String")) (by decide) (by decide)))).other W29 (Or.inr (slot_ne (Or.inr (hw _ (List.mem_of_getElem? (i := 36) rfl))) (Or.inr (hw _ (List.mem_of_getElem? (i := 42) rfl))) (by decide) (t := (.object "java/lang/Throwable")) (t' := (.object "java/lang/String")) (by decide) (by decide)))).other W32 (Or.inr (slot_ne (Or.inr (hw _ (List.mem_of_getElem? (i := 36) rfl))) (Or.inr (hw _ (List.mem_of_getElem? (i := 44) rfl))) (by decide) (t := (.object "java/lang/Throwable")) (t' := (.object "java/util/Map")) (by decide) (by decide)))).other W34 (Or.inr (slot_ne (Or.inr (hw _ (List.mem_of_getElem? (i := 36) rfl))) (Or.inr (hw _ (List.mem_of_getElem? (i := 46) rfl))) (by decide) (t := (.object "java/lang/Throwable")) (t' := (.object "java/time/Duration")) (by decide) (by decide))))
  have c38 := ((((Fw25.other W27 (Or.inr (slot_ne (Or.inr (hw _ (List.mem_of_getElem? (i := 38) rfl))) (Or.inr (hw _ (List.mem_of_getElem? (i := 40) rfl))) (by decide) (t := (.object "java/lang/String")) (t' := (.object "java/lang/String")) (by decide) (by decide)))).other W29 (Or.inr (slot_ne (Or.inr (hw _ (List.mem_of_getElem? (i := 38) rfl))) (Or.inr (hw _ (List.mem_of_getElem? (i := 42) rfl))) (by decide) (t := (.object "java/lang/String")) (t' := (.object "java/lang/String")) (by decide) (by decide)))).other W32 (Or.inr (slot_ne (Or.inr (hw _ (List.mem_of_getElem? (i := 38) rfl))) (Or.inr (hw _ (List.mem_of_getElem? (i := 44) rfl))) (by decide) (t := (.object "java/lang/String")) (t' := (.object "java/util/Map")) (by decide) (by decide)))).other W34 (Or.inr (slot_ne (Or.inr (hw _ (List.mem_of_getElem? (i := 38) rfl))) (Or.inr (hw _ (List.mem_of_getElem? (i := 46) rfl))) (by decide) (t := (.object "java/lang/String")) (t' := (.object "java/time/Duration")) (by decide) (by decide))))
  have c39 := (((Fw27.other W29 (Or.inr (slot_ne (Or.inr (hw _ (List.mem_of_getElem? (i := 40) rfl))) (Or.inr (hw _ (List.mem_of_getElem? (i := 42) rfl))) (by decide) (t := (.object "java/lang/String")) (t' := (.object "java/lang/String")) (by decide) (by decide)))).other W32 (Or.inr (slot_ne (Or.inr (hw _ (List.mem_of_getElem? (i := 40) rfl))) (Or.inr (hw _ (List.mem_of_getElem? (i := 44) rfl))) (by decide) (t := (.object "java/lang/String")) (t' := (.object "java/util/Map")) (by decide) (by decide)))).other W34 (Or.inr (slot_ne (Or.inr (hw _ (List.mem_of_getElem? (i := 40) rfl))) (Or.inr (hw _ (List.mem_of_getElem? (i := 46) rfl))) (by decide) (t := (.object "java/lang/String")) (t' := (.object "java/time/Duration")) (by decide) (by decide))))
  have c40 := ((Fw29.other W32 (Or.inr (slot_ne (Or.inr (hw _ (List.mem_of_getElem? (i := 42) rfl))) (Or.inr (hw _ (List.mem_of_getElem? (i := 44) rfl))) (by decide) (t := (.object "java/lang/String")) (t' := (.object "java/util/Map")) (by decide) (by decide)))).other W34 (Or.inr (slot_ne (Or.inr (hw _ (List.mem_of_getElem? (i := 42) rfl))) (Or.inr (hw _ (List.mem_of_getElem? (i := 46) rfl))) (by decide) (t := (.object "java/lang/String")) (t' := (.object "java/time/Duration")) (by decide) (by decide))))
  have c41 := (Fw32.other W34 (Or.inr (slot_ne (Or.inr (hw _ (List.mem_of_getElem? (i := 44) rfl))) (Or.inr (hw _ (List.mem_of_getElem? (i := 46) rfl))) (by decide) (t := (.object "java/util/Map")) (t' := (.object "java/time/Duration")) (by decide) (by decide))))
  refine own_ret X34 (v := none) (fun _ => rfl) Bd.notSynchronized (by decide) (by decide) ?_ (fun fs hr => X34.returnOut hx Bd.returns (hb hby d5_49) hr)
  rw [e34]; exact ⟨rfl, N34, (((((((((Keep.refl _ _).wr W19 (Or.inl (List.mem_of_getElem? (i := 0) rfl))).wr W21 (Or.inl (List.mem_of_getElem? (i := 0) rfl))).wr W23 (Or.inl (List.mem_of_getElem? (i := 0) rfl))).wr W25 (Or.inl (List.mem_of_getElem? (i := 0) rfl))).wr W27 (Or.inl (List.mem_of_getElem? (i := 0) rfl))).wr W29 (Or.inl (List.mem_of_getElem? (i := 0) rfl))).wr W32 (Or.inl (List.mem_of_getElem? (i := 0) rfl))).wr W34 (Or.inl (List.mem_of_getElem? (i := 0) rfl))), ((c31.wr W32).wr W34), c35, c36, c37, c38, c39, c40, c41, Fw34⟩
def Q3n (Z : State) (r0 r1 em : Addr) (h0 : Heap) (n0 : Nat) (v : Option Value) (h : Heap) (L : List Loc) : Prop := v = none ∧ Fr n0 L ∧ Keep h0 h [r0] ∧ own_An Z h r0 r1 .null em
theorem ef_rm3n (m : MethodId) (x0 : Addr) (x1 : Addr) : entryFrame m #[(.ref x0), (.ref x1), .null, .null, .null, .null, .null] 7 = mkF m 0 #[.val (.ref x0), .val (.ref x1), .val .null, .val .null, .val .null, .val .null, .val .null] [] := by first | (simp [entryFrame, mkF, argsToLocals, Value.category]; done) | rfl
theorem d3_0 : decode prog_1_method_1_code 0 = .ok (.aload_n 0, 1) := by decide +kernel
theorem d3_1 : decode prog_1_method_1_code 1 = .ok (.aload_n 1, 1) := by decide +kernel
theorem d3_2 : decode prog_1_method_1_code 2 = .ok (.aload_n 2, 1) := by decide +kernel
theorem d3_3 : decode prog_1_method_1_code 3 = .ok (.aload_n 3, 1) := by decide +kernel
theorem d3_4 : decode prog_1_method_1_code 4 = .ok (.aload 4, 2) := by decide +kernel
theorem d3_6 : decode prog_1_method_1_code 6 = .ok (.aload 5, 2) := by decide +kernel
theorem d3_8 : decode prog_1_method_1_code 8 = .ok (.aload 6, 2) := by decide +kernel
theorem pd___Ljava_util_Map__463 : parseMethodDescriptor "()Ljava/util/Map;" = some ⟨[], some (.object "java/util/Map")⟩ := by decide +kernel
theorem d3_10 : decode prog_1_method_1_code 10 = .ok (.invokestatic 1, 3) := by decide +kernel
theorem d3_13 : decode prog_1_method_1_code 13 = .ok (.aconst_null, 1) := by decide +kernel
theorem pd__Lcom_example_layered_mocks_layeredmocks_Answer_Kind_Ljava_lang_Object_Ljava_lang_Throwable_Ljava_lang_String_Ljava_lang_String_Ljava_lang_String_Ljava_util_Map_Ljava_time_Duration__V_367 : parseMethodDescriptor "(Lcom/example/layered_mocks/layeredmocks/Answer$Kind;Ljava/lang/Object;Ljava/lang/Throwable;Ljava/lang/String;Ljava/lang/String;Ljava/lang/String;Ljava/util/Map;Ljava/time/Duration;)V" = some ⟨[(.object "com/example/layered_mocks/layeredmocks/Answer$Kind"), (.object "java/lang/Object"), (.object "java/lang/Throwable"), (.object "java/lang/String"), (.object "java/lang/String"), (.object "java/lang/String"), (.object "java/util/Map"), (.object "java/time/Duration")], none⟩ := by decide +kernel
theorem d3_14 : decode prog_1_method_1_code 14 = .ok (.invokespecial 7, 3) := by decide +kernel
theorem d3_17 : decode prog_1_method_1_code 17 = .ok (.return_, 1) := by decide +kernel
set_option maxRecDepth 65536 in
set_option maxHeartbeats 40000000 in
theorem rm3n (l : Launch) (Z : State) (a0 : Array Value) (hw : ∀ d ∈ tables_1, d.before a0 Z = true) (ws : List Jvm.Cond) (r0 r1 em : Addr) (h0 : Heap) (n0 : Nat) (Z0 : n0 ≤ h0.size) (Et : Exa Z h0 r0 "com/example/layered_mocks/layeredmocks/Answer") (G_kind : Fld Z h0 r0 "com/example/layered_mocks/layeredmocks/Answer" "kind" "Lcom/example/layered_mocks/layeredmocks/Answer$Kind;" .null) (G_result : Fld Z h0 r0 "com/example/layered_mocks/layeredmocks/Answer" "result" "Ljava/lang/Object;" .null) (G_failure : Fld Z h0 r0 "com/example/layered_mocks/layeredmocks/Answer" "failure" "Ljava/lang/Throwable;" .null) (G_faultCode : Fld Z h0 r0 "com/example/layered_mocks/layeredmocks/Answer" "faultCode" "Ljava/lang/String;" .null) (G_faultMessage : Fld Z h0 r0 "com/example/layered_mocks/layeredmocks/Answer" "faultMessage" "Ljava/lang/String;" .null) (G_sharedKey : Fld Z h0 r0 "com/example/layered_mocks/layeredmocks/Answer" "sharedKey" "Ljava/lang/String;" .null) (G_updates : Fld Z h0 r0 "com/example/layered_mocks/layeredmocks/Answer" "updates" "Ljava/util/Map;" .null) (G_delay : Fld Z h0 r0 "com/example/layered_mocks/layeredmocks/Answer" "delay" "Ljava/time/Duration;" .null) (g_r0 : n0 ≤ r0) (Se : Sta Z h0 "java/util/ImmutableCollections" "EMPTY_MAP" "Ljava/util/ImmutableCollections$MapN;" (.ref em)) :
    MetFree l (⟨"com/example/layered_mocks/layeredmocks/Answer", "<init>", "(Lcom/example/layered_mocks/layeredmocks/Answer$Kind;Ljava/lang/Object;Ljava/lang/Throwable;Ljava/lang/String;Ljava/lang/String;Ljava/lang/String;)V"⟩ : MethodName) (head1 (Jvm.Cond.code (⟨"com/example/layered_mocks/layeredmocks/Answer", "<init>", "(Lcom/example/layered_mocks/layeredmocks/Answer$Kind;Ljava/lang/Object;Ljava/lang/Throwable;Ljava/lang/String;Ljava/lang/String;Ljava/lang/String;)V"⟩ : MethodName) prog_1_method_1_code 7 none :: ws) ({ frames := 2, cells := 0, slots := 0, locals := 32 } : Room)) (fun aX UX => aX = #[(.ref r0), (.ref r1), .null, .null, .null, .null, .null] ∧ Z.Warmed39 UX.vm ∧ UX.heap = h0) (fun _ _ _ _ _ => True) (fun _ UX oX UX' => ∃ vX LX, oX = .returned vX ∧ Q3n Z r0 r1 em h0 n0 vX UX'.heap LX ∧ FrameEnd UX oX UX' LX ({ frames := 2, cells := 0, slots := 0, locals := 32 } : Room).cells ({ frames := 2, cells := 0, slots := 0, locals := 32 } : Room).slots) := by
  refine MetFree.of_bodySF (plainFor_of_name pn_com_example_layered_mocks_layeredmocks_Answer) hisR ?_
  intro p e s m args below meth c s₁ Bd hml0 hP hK
  obtain ⟨rfl, hZ, hh⟩ := hP
  have hx := Bd.exec
  have hby := Bd.bytes
  have hml : c.maxLocals = 7 := hml0
  have hown : s.vm.findClass "com/example/layered_mocks/layeredmocks/Answer" = some m.cls := findClass_of_methodNamed Bd.named
  have hnm := (name_of_methodNamed Bd.named Bd.method).1
  have X0 : Stand p l e ({ frames := 2, cells := 0, slots := 0, locals := 32 } : Room) s m #[(.ref r0), (.ref r1), .null, .null, .null, .null, .null] below meth c s₁ [] 0 0 := Stand.of_body Bd
  have e0 : s₁.heap = h0 := by rw [← hh, Bd.state]; rfl
  have N0 := Fr.nil n0
  show own_Comes p e below s ({ frames := 2, cells := 0, slots := 0, locals := 32 } : Room).cells ({ frames := 2, cells := 0, slots := 0, locals := 32 } : Room).slots (Q3n Z r0 r1 em h0 n0) _
  rw [show entryFrame m #[(.ref r0), (.ref r1), .null, .null, .null, .null, .null] 7 = mkF m 0 #[.val (.ref r0), .val (.ref r1), .val .null, .val .null, .val .null, .val .null, .val .null] [] from ef_rm3n m r0 r1]
  show own_Comes p e below s _ _ _ (s₁.setTop (mkF m 0 #[.val (.ref r0), .val (.ref r1), .val .null, .val .null, .val .null, .val .null, .val .null] []))
  refine own_by (fun _ kS => XS.aloadN X0.here hx rfl (hb hby d3_0) rfl rfl kS) ?_
  show own_Comes p e below s _ _ _ (s₁.setTop (mkF m 1 #[.val (.ref r0), .val (.ref r1), .val .null, .val .null, .val .null, .val .null, .val .null] [(.ref r0)]))
  refine own_by (fun _ kS => XS.aloadN X0.here hx rfl (hb hby d3_1) rfl rfl kS) ?_
  show own_Comes p e below s _ _ _ (s₁.setTop (mkF m 2 #[.val (.ref r0), .val (.ref r1), .val .null, .val .null, .val .null, .val .null, .val .null] [(.ref r1), (.ref r0)]))
  refine own_by (fun _ kS => XS.aloadN X0.here hx rfl (hb hby d3_2) rfl rfl kS) ?_
  show own_Comes p e below s _ _ _ (s₁.setTop (mkF m 3 #[.val (.ref r0), .val (.ref r1), .val .null, .val .null, .val .null, .val .null, .val .null] [.null, (.ref r1), (.ref r0)]))
  refine own_by (fun _ kS => XS.aloadN X0.here hx rfl (hb hby d3_3) rfl rfl kS) ?_
  show own_Comes p e below s _ _ _ (s₁.setTop (mkF m 4 #[.val (.ref r0), .val (.ref r1), .val .null, .val .null, .val .null, .val .null, .val .null] [.null, .null, (.ref r1), (.ref r0)]))
  refine own_by (fun _ kS => XS.aload X0.here hx rfl (hb hby d3_4) rfl rfl kS) ?_
  show own_Comes p e below s _ _ _ (s₁.setTop (mkF m 6 #[.val (.ref r0), .val (.ref r1), .val .null, .val .null, .val .null, .val .null, .val .null] [.null, .null, .null, (.ref r1), (.ref r0)]))
  refine own_by (fun _ kS => XS.aload X0.here hx rfl (hb hby d3_6) rfl rfl kS) ?_
  show own_Comes p e below s _ _ _ (s₁.setTop (mkF m 8 #[.val (.ref r0), .val (.ref r1), .val .null, .val .null, .val .null, .val .null, .val .null] [.null, .null, .null, .null, (.ref r1), (.ref r0)]))
  refine own_by (fun _ kS => XS.aload X0.here hx rfl (hb hby d3_8) rfl rfl kS) ?_
  show own_Comes p e below s _ _ _ (s₁.setTop (mkF m 10 #[.val (.ref r0), .val (.ref r1), .val .null, .val .null, .val .null, .val .null, .val .null] [.null, .null, .null, .null, .null, (.ref r1), (.ref r0)]))
  obtain ⟨_, _, ⟨T42, L42, k42, n42⟩, -, X42, ⟨Lc42, hQ42, l42, y42, z42⟩, st42⟩ := Jvm.LawKit.callS X0 hx (y := (⟨"java/util/Map", "of", "()Ljava/util/Map;"⟩ : MethodName)) hown (mvT hZ (hw _ (List.mem_of_getElem? (i := 19) rfl))) (mvT hZ (hw _ (List.mem_of_getElem? (i := 20) rfl))) (mvT hZ (hw _ (List.mem_of_getElem? (i := 21) rfl))) (mvT hZ (hw _ (List.mem_of_getElem? (i := 22) rfl))) (by decide) (backOf (W := 7) (rm4 l Z a0 hw [] em h0 n0 Z0 Se) hZ (hw _ (List.mem_of_getElem? (i := 22) rfl)) (hw _ (List.mem_of_getElem? (i := 21) rfl)) (by decide) (by decide)) (g := (mkF m 10 #[.val (.ref r0), .val (.ref r1), .val .null, .val .null, .val .null, .val .null, .val .null] [.null, .null, .null, .null, .null, (.ref r1), (.ref r0)])) rfl (by rw [hml]; rfl) (argsL := []) (rest := [.null, .null, .null, .null, .null, (.ref r1), (.ref r0)]) (lenOf pd___Ljava_util_Map__463 rfl) rfl (by show 2 * 0 + _ ≤ _; exact Nat.le_of_eq rfl) (hb hby d3_10) (fun _ _ => ⟨rfl, e0, (by decide : 0 + 0 ≤ _), (by decide : 0 + 0 ≤ _)⟩)
  dsimp only [Pt.U, Pt.locs, Pt.cells, Pt.slots] at X42 l42 y42 z42 st42 hQ42
  subst l42 y42 z42
  obtain ⟨rfl, N42q, e42q⟩ := hQ42
  have N42 := Fr.app N0 N42q
  refine own_by st42 ?_
  have e42 : T42.heap = h0 := e42q
  show own_Comes p e below s _ _ _ (T42.setTop (mkF m 13 #[.val (.ref r0), .val (.ref r1), .val .null, .val .null, .val .null, .val .null, .val .null] [(.ref em), .null, .null, .null, .null, .null, (.ref r1), (.ref r0)]))
  refine own_by (fun _ kS => XS.aconstNull X42.here hx rfl (hb hby d3_13) kS) ?_
  show own_Comes p e below s _ _ _ (T42.setTop (mkF m 14 #[.val (.ref r0), .val (.ref r1), .val .null, .val .null, .val .null, .val .null, .val .null] [.null, (.ref em), .null, .null, .null, .null, .null, (.ref r1), (.ref r0)]))
  obtain ⟨_, _, ⟨T43, L43, k43, n43⟩, -, X43, ⟨Lc43, hQ43, l43, y43, z43⟩, st43⟩ := X42.specialBack hx (y := (⟨"com/example/layered_mocks/layeredmocks/Answer", "<init>", "(Lcom/example/layered_mocks/layeredmocks/Answer$Kind;Ljava/lang/Object;Ljava/lang/Throwable;Ljava/lang/String;Ljava/lang/String;Ljava/lang/String;Ljava/util/Map;Ljava/time/Duration;)V"⟩ : MethodName)) rfl hown (mvT hZ (hw _ (List.mem_of_getElem? (i := 25) rfl))) (mvT hZ (hw _ (List.mem_of_getElem? (i := 26) rfl))) (mvT hZ (hw _ (List.mem_of_getElem? (i := 27) rfl))) (by decide) (backOf (W := 0) (rm5n l Z a0 hw [] r0 r1 em h0 n0 Z0 Et G_kind G_result G_failure G_faultCode G_faultMessage G_sharedKey G_updates G_delay g_r0) hZ (hw _ (List.mem_of_getElem? (i := 27) rfl)) (hw _ (List.mem_of_getElem? (i := 9) rfl)) (by decide) (by decide)) (g := (mkF m 14 #[.val (.ref r0), .val (.ref r1), .val .null, .val .null, .val .null, .val .null, .val .null] [.null, (.ref em), .null, .null, .null, .null, .null, (.ref r1), (.ref r0)])) rfl (by rw [hml]; rfl) (Steps.refl _) (a := r0) (argsL := [(.ref r1), .null, .null, .null, .null, .null, (.ref em), .null]) (rest := []) (lenOf pd__Lcom_example_layered_mocks_layeredmocks_Answer_Kind_Ljava_lang_Object_Ljava_lang_Throwable_Ljava_lang_String_Ljava_lang_String_Ljava_lang_String_Ljava_util_Map_Ljava_time_Duration__V_367 rfl) rfl (by show 2 * 0 + _ ≤ _; exact Nat.le_of_eq rfl) (hb hby d3_14) (fun _ _ => ⟨rfl, e42, (by decide : 0 + 0 ≤ _), (by decide : 0 + 0 ≤ _)⟩)
  dsimp only [Pt.U, Pt.locs, Pt.cells, Pt.slots] at X43 l43 y43 z43 st43 hQ43
  subst l43 y43 z43
  obtain ⟨rfl, N43q, K43, A43⟩ := hQ43
  have N43 := Fr.app N42 N43q
  refine own_tr st43 ?_
  show own_Comes p e below s _ _ _ (T43.setTop (mkF m 17 #[.val (.ref r0), .val (.ref r1), .val .null, .val .null, .val .null, .val .null, .val .null] []))
  refine own_ret X43 (v := none) (fun _ => rfl) Bd.notSynchronized (by decide) (by decide) ?_ (fun fs hr => X43.returnOut hx Bd.returns (hb hby d3_17) hr)
  exact ⟨rfl, N43, ((Keep.refl _ _).trans K43 (allS (Or.inl (List.mem_of_getElem? (i := 0) rfl)) all0)), A43⟩
def Q2n (Z : State) (k em : Addr) (h0 : Heap) (n0 : Nat) (v : Option Value) (h : Heap) (L : List Loc) : Prop := ∃ a : Addr, v = some (.ref a) ∧ Fr n0 L ∧ Ext h0 h ∧ own_An Z h a k .null em
theorem ef_rm2n (m : MethodId)  : entryFrame m #[.null] 1 = mkF m 0 #[.val .null] [] := by first | (simp [entryFrame, mkF, argsToLocals, Value.category]; done) | rfl
theorem d2_0 : decode prog_1_method_3_code 0 = .ok (.new 8, 3) := by decide +kernel
theorem d2_3 : decode prog_1_method_3_code 3 = .ok (.dup, 1) := by decide +kernel
theorem d2_4 : decode prog_1_method_3_code 4 = .ok (.getstatic 48, 3) := by decide +kernel
theorem d2_7 : decode prog_1_method_3_code 7 = .ok (.aload_n 0, 1) := by decide +kernel
theorem d2_8 : decode prog_1_method_3_code 8 = .ok (.aconst_null, 1) := by decide +kernel
theorem d2_9 : decode prog_1_method_3_code 9 = .ok (.aconst_null, 1) := by decide +kernel
theorem d2_10 : decode prog_1_method_3_code 10 = .ok (.aconst_null, 1) := by decide +kernel
theorem d2_11 : decode prog_1_method_3_code 11 = .ok (.aconst_null, 1) := by decide +kernel
theorem pd__Lcom_example_layered_mocks_layeredmocks_Answer_Kind_Ljava_lang_Object_Ljava_lang_Throwable_Ljava_lang_String_Ljava_lang_String_Ljava_lang_String__V_63 : parseMethodDescriptor "(Lcom/example/layered_mocks/layeredmocks/Answer$Kind;Ljava/lang/Object;Ljava/lang/Throwable;Ljava/lang/String;Ljava/lang/String;Ljava/lang/String;)V" = some ⟨[(.object "com/example/layered_mocks/layeredmocks/Answer$Kind"), (.object "java/lang/Object"), (.object "java/lang/Throwable"), (.object "java/lang/String"), (.object "java/lang/String"), (.object "java/lang/String")], none⟩ := by decide +kernel
theorem d2_12 : decode prog_1_method_3_code 12 = .ok (.invokespecial 53, 3) := by decide +kernel
theorem d2_15 : decode prog_1_method_3_code 15 = .ok (.areturn, 1) := by decide +kernel
set_option maxRecDepth 65536 in
set_option maxHeartbeats 40000000 in
theorem rm2n (l : Launch) (Z : State) (a0 : Array Value) (hw : ∀ d ∈ tables_1, d.before a0 Z = true) (ws : List Jvm.Cond) (k em : Addr) (h0 : Heap) (n0 : Nat) (Z0 : n0 ≤ h0.size) (O0 : Old Z n0 h0) (Se : Sta Z Z.heap "java/util/ImmutableCollections" "EMPTY_MAP" "Ljava/util/ImmutableCollections$MapN;" (.ref em)) (Sk : Sta Z Z.heap "com/example/layered_mocks/layeredmocks/Answer$Kind" "VALUE" "Lcom/example/layered_mocks/layeredmocks/Answer$Kind;" (.ref k)) :
    MetFree l (⟨"com/example/layered_mocks/layeredmocks/Answer", "value", "(Ljava/lang/Object;)Lcom/example/layered_mocks/layeredmocks/Answer;"⟩ : MethodName) (head1 (Jvm.Cond.code (⟨"com/example/layered_mocks/layeredmocks/Answer", "value", "(Ljava/lang/Object;)Lcom/example/layered_mocks/layeredmocks/Answer;"⟩ : MethodName) prog_1_method_3_code 1 (some (.object "com/example/layered_mocks/layeredmocks/Answer")) :: ws) ({ frames := 3, cells := 1, slots := 8, locals := 51 } : Room)) (fun aX UX => aX = #[.null] ∧ Z.Warmed39 UX.vm ∧ UX.heap = h0) (fun _ _ _ _ _ => True) (fun _ UX oX UX' => ∃ vX LX, oX = .returned vX ∧ Q2n Z k em h0 n0 vX UX'.heap LX ∧ FrameEnd UX oX UX' LX ({ frames := 3, cells := 1, slots := 8, locals := 51 } : Room).cells ({ frames := 3, cells := 1, slots := 8, locals := 51 } : Room).slots) := by
  refine MetFree.of_bodySF (plainFor_of_name pn_com_example_layered_mocks_layeredmocks_Answer) hisR ?_
  intro p e s m args below meth c s₁ Bd hml0 hP hK
  obtain ⟨rfl, hZ, hh⟩ := hP
  have hx := Bd.exec
  have hby := Bd.bytes
  have hml : c.maxLocals = 1 := hml0
  have hown : s.vm.findClass "com/example/layered_mocks/layeredmocks/Answer" = some m.cls := findClass_of_methodNamed Bd.named
  have hnm := (name_of_methodNamed Bd.named Bd.method).1
  have X0 : Stand p l e ({ frames := 3, cells := 1, slots := 8, locals := 51 } : Room) s m #[.null] below meth c s₁ [] 0 0 := Stand.of_body Bd
  have e0 : s₁.heap = h0 := by rw [← hh, Bd.state]; rfl
  have N0 := Fr.nil n0
  show own_Comes p e below s ({ frames := 3, cells := 1, slots := 8, locals := 51 } : Room).cells ({ frames := 3, cells := 1, slots := 8, locals := 51 } : Room).slots (Q2n Z k em h0 n0) _
  rw [show entryFrame m #[.null] 1 = mkF m 0 #[.val .null] [] from ef_rm2n m ]
  show own_Comes p e below s _ _ _ (s₁.setTop (mkF m 0 #[.val .null] []))
  obtain ⟨T44, h44, X44, e44, E44, A44, D44, -, st44⟩ := newO X0 hx hZ hown (hw _ (List.mem_of_getElem? (i := 11) rfl)) (hw _ (List.mem_of_getElem? (i := 12) rfl)) (hw _ (List.mem_of_getElem? (i := 9) rfl)) e0 (g := (mkF m 0 #[.val .null] [])) rfl (hb hby d2_0) (by decide) (by decide)
  obtain ⟨b44, g44⟩ : ∃ z, z = h0.size := ⟨_, rfl⟩
  rw [← g44] at A44 D44 st44
  have g_b44 : n0 ≤ b44 := Nat.le_trans Z0 (Nat.le_of_eq g44.symm)
  refine own_by st44 ?_
  show own_Comes p e below s _ _ _ (T44.setTop (mkF m 3 #[.val .null] [(.ref b44)]))
  refine own_by (fun _ kS => XS.dup X44.here hx rfl (hb hby d2_3) rfl rfl kS) ?_
  show own_Comes p e below s _ _ _ (T44.setTop (mkF m 4 #[.val .null] [(.ref b44), (.ref b44)]))
  obtain ⟨T45, X45, e45, st45⟩ := getS2 X44 hx hZ hown (host := "") (Or.inl (hw _ (List.mem_of_getElem? (i := 13) rfl))) Via.refl e44 (Sk.ext (O0.ext E44).2) (g := (mkF m 4 #[.val .null] [(.ref b44), (.ref b44)])) rfl (hb hby d2_4)
  refine own_by st45 ?_
  show own_Comes p e below s _ _ _ (T45.setTop (mkF m 7 #[.val .null] [(.ref k), (.ref b44), (.ref b44)]))
  refine own_by (fun _ kS => XS.aloadN X45.here hx rfl (hb hby d2_7) rfl rfl kS) ?_
  show own_Comes p e below s _ _ _ (T45.setTop (mkF m 8 #[.val .null] [.null, (.ref k), (.ref b44), (.ref b44)]))
  refine own_by (fun _ kS => XS.aconstNull X45.here hx rfl (hb hby d2_8) kS) ?_
  show own_Comes p e below s _ _ _ (T45.setTop (mkF m 9 #[.val .null] [.null, .null, (.ref k), (.ref b44), (.ref b44)]))
  refine own_by (fun _ kS => XS.aconstNull X45.here hx rfl (hb hby d2_9) kS) ?_
  show own_Comes p e below s _ _ _ (T45.setTop (mkF m 10 #[.val .null] [.null, .null, .null, (.ref k), (.ref b44), (.ref b44)]))
  refine own_by (fun _ kS => XS.aconstNull X45.here hx rfl (hb hby d2_10) kS) ?_
  show own_Comes p e below s _ _ _ (T45.setTop (mkF m 11 #[.val .null] [.null, .null, .null, .null, (.ref k), (.ref b44), (.ref b44)]))
  refine own_by (fun _ kS => XS.aconstNull X45.here hx rfl (hb hby d2_11) kS) ?_
  show own_Comes p e below s _ _ _ (T45.setTop (mkF m 12 #[.val .null] [.null, .null, .null, .null, .null, (.ref k), (.ref b44), (.ref b44)]))
  have sz_b44 : h0.size ≤ b44 := Nat.le_of_eq g44.symm
  obtain ⟨_, _, ⟨T46, L46, k46, n46⟩, -, X46, ⟨Lc46, hQ46, l46, y46, z46⟩, st46⟩ := X45.specialBack hx (y := (⟨"com/example/layered_mocks/layeredmocks/Answer", "<init>", "(Lcom/example/layered_mocks/layeredmocks/Answer$Kind;Ljava/lang/Object;Ljava/lang/Throwable;Ljava/lang/String;Ljava/lang/String;Ljava/lang/String;)V"⟩ : MethodName)) rfl hown (mvT hZ (hw _ (List.mem_of_getElem? (i := 16) rfl))) (mvT hZ (hw _ (List.mem_of_getElem? (i := 17) rfl))) (mvT hZ (hw _ (List.mem_of_getElem? (i := 18) rfl))) (by decide) (backOf (W := 1) (rm3n l Z a0 hw [] b44 k em h44 n0 (Nat.le_trans Z0 E44.1) A44 (D44 (Or.inr (hw _ (List.mem_of_getElem? (i := 32) rfl))) (ty := (.object "com/example/layered_mocks/layeredmocks/Answer$Kind")) (by decide)) (D44 (Or.inr (hw _ (List.mem_of_getElem? (i := 34) rfl))) (ty := (.object "java/lang/Object")) (by decide)) (D44 (Or.inr (hw _ (List.mem_of_getElem? (i := 36) rfl))) (ty := (.object "java/lang/Throwable")) (by decide)) (D44 (Or.inr (hw _ (List.mem_of_getElem? (i := 38) rfl))) (ty := (.object "java/lang/String")) (by decide)) (D44 (Or.inr (hw _ (List.mem_of_getElem? (i := 40) rfl))) (ty := (.object "java/lang/String")) (by decide)) (D44 (Or.inr (hw _ (List.mem_of_getElem? (i := 42) rfl))) (ty := (.object "java/lang/String")) (by decide)) (D44 (Or.inr (hw _ (List.mem_of_getElem? (i := 44) rfl))) (ty := (.object "java/util/Map")) (by decide)) (D44 (Or.inr (hw _ (List.mem_of_getElem? (i := 46) rfl))) (ty := (.object "java/time/Duration")) (by decide)) g_b44 (Se.ext (O0.ext E44).2)) hZ (hw _ (List.mem_of_getElem? (i := 18) rfl)) (hw _ (List.mem_of_getElem? (i := 9) rfl)) (by decide) (by decide)) (g := (mkF m 12 #[.val .null] [.null, .null, .null, .null, .null, (.ref k), (.ref b44), (.ref b44)])) rfl (by rw [hml]; rfl) (Steps.refl _) (a := b44) (argsL := [(.ref k), .null, .null, .null, .null, .null]) (rest := [(.ref b44)]) (lenOf pd__Lcom_example_layered_mocks_layeredmocks_Answer_Kind_Ljava_lang_Object_Ljava_lang_Throwable_Ljava_lang_String_Ljava_lang_String_Ljava_lang_String__V_63 rfl) rfl (by show 2 * 0 + _ ≤ _; exact Nat.le_of_eq rfl) (hb hby d2_12) (fun _ _ => ⟨rfl, e45, (by decide : 1 + 0 ≤ _), (by decide : 8 + 0 ≤ _)⟩)
  dsimp only [Pt.U, Pt.locs, Pt.cells, Pt.slots] at X46 l46 y46 z46 st46 hQ46
  subst l46 y46 z46
  obtain ⟨rfl, N46q, K46, A46⟩ := hQ46
  have N46 := Fr.app N0 N46q
  refine own_tr st46 ?_
  show own_Comes p e below s _ _ _ (T46.setTop (mkF m 15 #[.val .null] [(.ref b44)]))
  refine own_ret X46 (v := some (.ref b44)) (fun h => by rw [Bd.returns] at h; cases h) Bd.notSynchronized (by decide) (by decide) ?_ (fun fs hr => own_reta X46 hx Bd.returns rfl rfl (hb hby d2_15) hr)
  exact ⟨_, rfl, N46, own_ext (((Keep.refl _ _).ext E44).trans K46 (allS (Or.inr sz_b44) all0)), A46⟩
def Q5r (Z : State) (r0 r1 r2 r7 : Addr) (h0 : Heap) (n0 : Nat) (v : Option Value) (h : Heap) (L : List Loc) : Prop := v = none ∧ Fr n0 L ∧ Keep h0 h [r0] ∧ own_An Z h r0 r1 (.ref r2) r7
theorem ef_rm5r (m : MethodId) (x0 : Addr) (x1 : Addr) (x2 : Addr) (x7 : Addr) : entryFrame m #[(.ref x0), (.ref x1), (.ref x2), .null, .null, .null, .null, (.ref x7), .null] 9 = mkF m 0 #[.val (.ref x0), .val (.ref x1), .val (.ref x2), .val .null, .val .null, .val .null, .val .null, .val (.ref x7), .val .null] [] := by first | (simp [entryFrame, mkF, argsToLocals, Value.category]; done) | rfl
set_option maxRecDepth 65536 in
set_option maxHeartbeats 40000000 in
theorem rm5r (l : Launch) (Z : State) (a0 : Array Value) (hw : ∀ d ∈ tables_1, d.before a0 Z = true) (ws : List Jvm.Cond) (r0 r1 r2 r7 : Addr) (h0 : Heap) (n0 : Nat) (Z0 : n0 ≤ h0.size) (Et : Exa Z h0 r0 "com/example/layered_mocks/layeredmocks/Answer") (G_kind : Fld Z h0 r0 "com/example/layered_mocks/layeredmocks/Answer" "kind" "Lcom/example/layered_mocks/layeredmocks/Answer$Kind;" .null) (G_result : Fld Z h0 r0 "com/example/layered_mocks/layeredmocks/Answer" "result" "Ljava/lang/Object;" .null) (G_failure : Fld Z h0 r0 "com/example/layered_mocks/layeredmocks/Answer" "failure" "Ljava/lang/Throwable;" .null) (G_faultCode : Fld Z h0 r0 "com/example/layered_mocks/layeredmocks/Answer" "faultCode" "Ljava/lang/String;" .null) (G_faultMessage : Fld Z h0 r0 "com/example/layered_mocks/layeredmocks/Answer" "faultMessage" "Ljava/lang/String;" .null) (G_sharedKey : Fld Z h0 r0 "com/example/layered_mocks/layeredmocks/Answer" "sharedKey" "Ljava/lang/String;" .null) (G_updates : Fld Z h0 r0 "com/example/layered_mocks/layeredmocks/Answer" "updates" "Ljava/util/Map;" .null) (G_delay : Fld Z h0 r0 "com/example/layered_mocks/layeredmocks/Answer" "delay" "Ljava/time/Duration;" .null) (g_r0 : n0 ≤ r0) :
    MetFree l (⟨"com/example/layered_mocks/layeredmocks/Answer", "<init>", "(Lcom/example/layered_mocks/layeredmocks/Answer$Kind;Ljava/lang/Object;Ljava/lang/Throwable;Ljava/lang/String;Ljava/lang/String;Ljava/lang/String;Ljava/util/Map;Ljava/time/Duration;)V"⟩ : MethodName) (head1 (Jvm.Cond.code (⟨"com/example/layered_mocks/layeredmocks/Answer", "<init>", "(Lcom/example/layered_mocks/layeredmocks/Answer$Kind;Ljava/lang/Object;Ljava/lang/Throwable;Ljava/lang/String;Ljava/lang/String;Ljava/lang/String;Ljava/util/Map;Ljava/time/Duration;)V"⟩ : MethodName) prog_1_method_2_code 9 none :: ws) ({ frames := 1, cells := 0, slots := 0, locals := 12 } : Room)) (fun aX UX => aX = #[(.ref r0), (.ref r1), (.ref r2), .null, .null, .null, .null, (.ref r7), .null] ∧ Z.Warmed39 UX.vm ∧ UX.heap = h0) (fun _ _ _ _ _ => True) (fun _ UX oX UX' => ∃ vX LX, oX = .returned vX ∧ Q5r Z r0 r1 r2 r7 h0 n0 vX UX'.heap LX ∧ FrameEnd UX oX UX' LX ({ frames := 1, cells := 0, slots := 0, locals := 12 } : Room).cells ({ frames := 1, cells := 0, slots := 0, locals := 12 } : Room).slots) := by
  refine MetFree.of_bodySF (plainFor_of_name pn_com_example_layered_mocks_layeredmocks_Answer) hisR ?_
  intro p e s m args below meth c s₁ Bd hml0 hP hK
  obtain ⟨rfl, hZ, hh⟩ := hP
  have hx := Bd.exec
  have hby := Bd.bytes
  have hml : c.maxLocals = 9 := hml0
  have hown : s.vm.findClass "com/example/layered_mocks/layeredmocks/Answer" = some m.cls := findClass_of_methodNamed Bd.named
  have hnm := (name_of_methodNamed Bd.named Bd.method).1
  have X0 : Stand p l e ({ frames := 1, cells := 0, slots := 0, locals := 12 } : Room) s m #[(.ref r0), (.ref r1), (.ref r2), .null, .null, .null, .null, (.ref r7), .null] below meth c s₁ [] 0 0 := Stand.of_body Bd
  have e0 : s₁.heap = h0 := by rw [← hh, Bd.state]; rfl
  have N0 := Fr.nil n0
  show own_Comes p e below s ({ frames := 1, cells := 0, slots := 0, locals := 12 } : Room).cells ({ frames := 1, cells := 0, slots := 0, locals := 12 } : Room).slots (Q5r Z r0 r1 r2 r7 h0 n0) _
  rw [show entryFrame m #[(.ref r0), (.ref r1), (.ref r2), .null, .null, .null, .null, (.ref r7), .null] 9 = mkF m 0 #[.val (.ref r0), .val (.ref r1), .val (.ref r2), .val .null, .val .null, .val .null, .val .null, .val (.ref r7), .val .null] [] from ef_rm5r m r0 r1 r2 r7]
  show own_Comes p e below s _ _ _ (s₁.setTop (mkF m 0 #[.val (.ref r0), .val (.ref r1), .val (.ref r2), .val .null, .val .null, .val .null, .val .null, .val (.ref r7), .val .null] []))
  refine own_by (fun _ kS => XS.aloadN X0.here hx rfl (hb hby d5_0) rfl rfl kS) ?_
  show own_Comes p e below s _ _ _ (s₁.setTop (mkF m 1 #[.val (.ref r0), .val (.ref r1), .val (.ref r2), .val .null, .val .null, .val .null, .val .null, .val (.ref r7), .val .null] [(.ref r0)]))
  obtain ⟨T47, X47, e47, st47⟩ := initO X0 hx hZ hown (hw _ (List.mem_of_getElem? (i := 28) rfl)) (hw _ (List.mem_of_getElem? (i := 29) rfl)) (hw _ (List.mem_of_getElem? (i := 30) rfl)) e0 (g := (mkF m 1 #[.val (.ref r0), .val (.ref r1), .val (.ref r2), .val .null, .val .null, .val .null, .val .null, .val (.ref r7), .val .null] [(.ref r0)])) rfl (by rw [hml]; rfl) rfl (hb hby d5_1) (by decide) (W := 0) (by show 2 * 0 + _ ≤ _; exact Nat.le_of_eq rfl) (by decide)
  refine own_by st47 ?_
  show own_Comes p e below s _ _ _ (T47.setTop (mkF m 4 #[.val (.ref r0), .val (.ref r1), .val (.ref r2), .val .null, .val .null, .val .null, .val .null, .val (.ref r7), .val .null] []))
  refine own_by (fun _ kS => XS.aloadN X47.here hx rfl (hb hby d5_4) rfl rfl kS) ?_
  show own_Comes p e below s _ _ _ (T47.setTop (mkF m 5 #[.val (.ref r0), .val (.ref r1), .val (.ref r2), .val .null, .val .null, .val .null, .val .null, .val (.ref r7), .val .null] [(.ref r0)]))
  refine own_by (fun _ kS => XS.aloadN X47.here hx rfl (hb hby d5_5) rfl rfl kS) ?_
  show own_Comes p e below s _ _ _ (T47.setTop (mkF m 6 #[.val (.ref r0), .val (.ref r1), .val (.ref r2), .val .null, .val .null, .val .null, .val .null, .val (.ref r7), .val .null] [(.ref r1), (.ref r0)]))
  obtain ⟨T48, h48, X48, e48, W48, st48⟩ := putF X47 hx hZ hown (host := "") (Or.inl (hw _ (List.mem_of_getElem? (i := 31) rfl))) Via.refl e47 G_kind Et (Or.inr ⟨(hw _ (List.mem_of_getElem? (i := 32) rfl)), rfl, hnm⟩) (hw _ (List.mem_of_getElem? (i := 12) rfl)) (ty := (.object "com/example/layered_mocks/layeredmocks/Answer$Kind")) (by decide) rfl rfl (g := (mkF m 6 #[.val (.ref r0), .val (.ref r1), .val (.ref r2), .val .null, .val .null, .val .null, .val .null, .val (.ref r7), .val .null] [(.ref r1), (.ref r0)])) rfl rfl (hb hby d5_6)
  refine own_by st48 ?_
  have Fw48 := G_kind.same W48
  have N48 := Fr.snoc X48 N0 g_r0
  show own_Comes p e below s _ _ _ (T48.setTop (mkF m 9 #[.val (.ref r0), .val (.ref r1), .val (.ref r2), .val .null, .val .null, .val .null, .val .null, .val (.ref r7), .val .null] []))
  refine own_by (fun _ kS => XS.aloadN X48.here hx rfl (hb hby d5_9) rfl rfl kS) ?_
  show own_Comes p e below s _ _ _ (T48.setTop (mkF m 10 #[.val (.ref r0), .val (.ref r1), .val (.ref r2), .val .null, .val .null, .val .null, .val .null, .val (.ref r7), .val .null] [(.ref r0)]))
  refine own_by (fun _ kS => XS.aloadN X48.here hx rfl (hb hby d5_10) rfl rfl kS) ?_
  show own_Comes p e below s _ _ _ (T48.setTop (mkF m 11 #[.val (.ref r0), .val (.ref r1), .val (.ref r2), .val .null, .val .null, .val .null, .val .null, .val (.ref r7), .val .null] [(.ref r2), (.ref r0)]))
  have c49 := (G_result.other W48 (Or.inr (slot_ne (Or.inr (hw _ (List.mem_of_getElem? (i := 34) rfl))) (Or.inr (hw _ (List.mem_of_getElem? (i := 32) rfl))) (by decide) (t := (.object "java/lang/Object")) (t' := (.object "com/example/layered_mocks/layeredmocks/Answer$Kind")) (by decide) (by decide))))
  obtain ⟨T50, h50, X50, e50, W50, st50⟩ := putF X48 hx hZ hown (host := "") (Or.inl (hw _ (List.mem_of_getElem? (i := 33) rfl))) Via.refl e48 c49 (Et.wr W48) (Or.inr ⟨(hw _ (List.mem_of_getElem? (i := 34) rfl)), rfl, hnm⟩) (hw _ (List.mem_of_getElem? (i := 12) rfl)) (ty := (.object "java/lang/Object")) (by decide) rfl rfl (g := (mkF m 11 #[.val (.ref r0), .val (.ref r1), .val (.ref r2), .val .null, .val .null, .val .null, .val .null, .val (.ref r7), .val .null] [(.ref r2), (.ref r0)])) rfl rfl (hb hby d5_11)
  refine own_by st50 ?_
  have Fw50 := c49.same W50
  have N50 := Fr.snoc X50 N48 g_r0
  show own_Comes p e below s _ _ _ (T50.setTop (mkF m 14 #[.val (.ref r0), .val (.ref r1), .val (.ref r2), .val .null, .val .null, .val .null, .val .null, .val (.ref r7), .val .null] []))
  refine own_by (fun _ kS => XS.aloadN X50.here hx rfl (hb hby d5_14) rfl rfl kS) ?_
  show own_Comes p e below s _ _ _ (T50.setTop (mkF m 15 #[.val (.ref r0), .val (.ref r1), .val (.ref r2), .val .null, .val .null, .val .null, .val .null, .val (.ref r7), .val .null] [(.ref r0)]))
  refine own_by (fun _ kS => XS.aloadN X50.here hx rfl (hb hby d5_15) rfl rfl kS) ?_
  show own_Comes p e below s _ _ _ (T50.setTop (mkF m 16 #[.val (.ref r0), .val (.ref r1), .val (.ref r2), .val .null, .val .null, .val .null, .val .null, .val (.ref r7), .val .null] [.null, (.ref r0)]))
  have c51 := ((G_failure.other W48 (Or.inr (slot_ne (Or.inr (hw _ (List.mem_of_getElem? (i := 36) rfl))) (Or.inr (hw _ (List.mem_of_getElem? (i := 32) rfl))) (by decide) (t := (.object "java/lang/Throwable")) (t' := (.object "com/example/layered_mocks/layeredmocks/Answer$Kind")) (by decide) (by decide)))).other W50 (Or.inr (slot_ne (Or.inr (hw _ (List.mem_of_getElem? (i := 36) rfl))) (Or.inr (hw _ (List.mem_of_getElem? (i := 34) rfl))) (by decide) (t := (.object "java/lang/Throwable")) (t' := (.object "java/lang/Object")) (by decide) (by decide))))
  obtain ⟨T52, h52, X52, e52, W52, st52⟩ := putF X50 hx hZ hown (host := "") (Or.inl (hw _ (List.mem_of_getElem? (i := 35) rfl))) Via.refl e50 c51 ((Et.wr W48).wr W50) (Or.inr ⟨(hw _ (List.mem_of_getElem? (i := 36) rfl)), rfl, hnm⟩) (hw _ (List.mem_of_getElem? (i := 12) rfl)) (ty := (.object "java/lang/Throwable")) (by decide) rfl rfl (g := (mkF m 16 #[.val (.ref r0), .val (.ref r1), .val (.ref r2), .val .null, .val .null, .val .null, .val .null, .val (.ref r7), .val .null] [.null, (.ref r0)])) rfl rfl (hb hby d5_16)
  refine own_by st52 ?_
  have Fw52 := c51.same W52
  have N52 := Fr.snoc X52 N50 g_r0
  show own_Comes p e below s _ _ _ (T52.setTop (mkF m 19 #[.val (.ref r0), .val (.ref r1), .val (.ref r2), .val .null, .val .null, .val .null, .val .null, .val (.ref r7), .val .null] []))
  refine own_by (fun _ kS => XS.aloadN X52.here hx rfl (hb hby d5_19) rfl rfl kS) ?_
  show own_Comes p e below s _ _ _ (T52.setTop (mkF m 20 #[.val (.ref r0), .val (.ref r1), .val (.ref r2), .val .null, .val .null, .val .null, .val .null, .val (.ref r7), .val .null] [(.ref r0)]))
  refine own_by (fun _ kS => XS.aload X52.here hx rfl (hb hby d5_20) rfl rfl kS) ?_
  show own_Comes p e below s _ _ _ (T52.setTop (mkF m 22 #[.val (.ref r0), .val (.ref r1), .val (.ref r2), .val .null, .val .null, .val .null, .val .null, .val (.ref r7), .val .null] [.null, (.ref r0)]))
  have c53 := (((G_faultCode.other W48 (Or.inr (slot_ne (Or.inr (hw _ (List.mem_of_getElem? (i := 38) rfl))) (Or.inr (hw _ (List.mem_of_getElem? (i := 32) rfl))) (by decide) (t := (.object "java/lang/String")) (t' := (.object "com/example/layered_mocks/layeredmocks/Answer$Kind")) (by decide) (by decide)))).other W50 (Or.inr (slot_ne (Or.inr (hw _ (List.mem_of_getElem? (i := 38) rfl))) (Or.inr (hw _ (List.mem_of_getElem? (i := 34) rfl))) (by decide) (t := (.object "java/lang/String")) (t' := (.object "java/lang/Object")) (by decide) (by decide)))).other W52 (Or.inr (slot_ne (Or.inr (hw _ (List.mem_of_getElem? (i := 38) rfl))) (Or.inr (hw _ (List.mem_of_getElem? (i := 36) rfl))) (by decide) (t := (.object "java/lang/String")) (t' := (.object "java/lang/Throwable")) (by decide) (by decide))))
  obtain ⟨T54, h54, X54, e54, W54, st54⟩ := putF X52 hx hZ hown (host := "") (Or.inl (hw _ (List.mem_of_getElem? (i := 37) rfl))) Via.refl e52 c53 (((Et.wr W48).wr W50).wr W52) (Or.inr ⟨(hw _ (List.mem_of_getElem? (i := 38) rfl)), rfl, hnm⟩) (hw _ (List.mem_of_getElem? (i := 12) rfl)) (ty := (.object "java/lang/String")) (by decide) rfl rfl (g := (mkF m 22 #[.val (.ref r0), .val (.ref r1), .val (.ref r2), .val .null, .val .null, .val .null, .val .null, .val (.ref r7), .val .null] [.null, (.ref r0)])) rfl rfl (hb hby d5_22)
  refine own_by st54 ?_
  have Fw54 := c53.same W54
  have N54 := Fr.snoc X54 N52 g_r0
  show own_Comes p e below s _ _ _ (T54.setTop (mkF m 25 #[.val (.ref r0), .val (.ref r1), .val (.ref r2), .val .null, .val .null, .val .null, .val .null, .val (.ref r7), .val .null] []))
  refine own_by (fun _ kS => XS.aloadN X54.here hx rfl (hb hby d5_25) rfl rfl kS) ?_
  show own_Comes p e below s _ _ _ (T54.setTop (mkF m 26 #[.val (.ref r0), .val (.ref r1), .val (.ref r2), .val .null, .val .null, .val .null, .val .null, .val (.ref r7), .val .null] [(.ref r0)]))
  refine own_by (fun _ kS => XS.aload X54.here hx rfl (hb hby d5_26) rfl rfl kS) ?_
  show own_Comes p e below s _ _ _ (T54.setTop (mkF m 28 #[.val (.ref r0), .val (.ref r1), .val (.ref r2), .val .null, .val .null, .val .null, .val .null, .val (.ref r7), .val .null] [.null, (.ref r0)]))
  have c55 := ((((G_faultMessage.other W48 (Or.inr (slot_ne (Or.inr (hw _ (List.mem_of_getElem? (i := 40) rfl))) (Or.inr (hw _ (List.mem_of_getElem? (i := 32) rfl))) (by decide) (t := (.object "java/lang/String")) (t' := (.object "com/example/layered_mocks/layeredmocks/Answer$Kind")) (by decide) (by decide)))).other W50 (Or.inr (slot_ne (Or.inr (hw _ (List.mem_of_getElem? (i := 40) rfl))) (Or.inr (hw _ (List.mem_of_getElem? (i := 34) rfl))) (by decide) (t := (.object "java/lang/String")) (t' := (.object "java/lang/Object")) (by decide) (by decide)))).other W52 (Or.inr (slot_ne (Or.inr (hw _ (List.mem_of_getElem? (i := 40) rfl))) (Or.inr (hw _ (List.mem_of_getElem? (i := 36) rfl))) (by decide) (t := (.object "java/lang/String")) (t' := (.object "java/lang/Throwable")) (by decide) (by decide)))).other W54 (Or.inr (slot_ne (Or.inr (hw _ (List.mem_of_getElem? (i := 40) rfl))) (Or.inr (hw _ (List.mem_of_getElem? (i := 38) rfl))) (by decide) (t := (.object "java/lang/String")) (t' := (.object "java/lang/String")) (by decide) (by decide))))
  obtain ⟨T56, h56, X56, e56, W56, st56⟩ := putF X54 hx hZ hown (host := "") (Or.inl (hw _ (List.mem_of_getElem? (i := 39) rfl))) Via.refl e54 c55 ((((Et.wr W48).wr W50).wr W52).wr W54) (Or.inr ⟨(hw _ (List.mem_of_getElem? (i := 40) rfl)), rfl, hnm⟩) (hw _ (List.mem_of_getElem? (i := 12) rfl)) (ty := (.object "java/lang/String")) (by decide) rfl rfl (g := (mkF m 28 #[.val (.ref r0), .val (.ref r1), .val (.ref r2), .val .null, .val .null, .val .null, .val .null, .val (.ref r7), .val .null] [.null, (.ref r0)])) rfl rfl (hb hby d5_28)
  refine own_by st56 ?_
  have Fw56 := c55.same W56
  have N56 := Fr.snoc X56 N54 g_r0
  show own_Comes p e below s _ _ _ (T56.setTop (mkF m 31 #[.val (.ref r0), .val (.ref r1), .val (.ref r2), .val .null, .val .null, .val .null, .val .null, .val (.ref r7), .val .null] []))
  refine own_by (fun _ kS => XS.aloadN X56.here hx rfl (hb hby d5_31) rfl rfl kS) ?_
  show own_Comes p e below s _ _ _ (T56.setTop (mkF m 32 #[.val (.ref r0), .val (.ref r1), .val (.ref r2), .val .null, .val .null, .val .null, .val .null, .val (.ref r7), .val .null] [(.ref r0)]))
  refine own_by (fun _ kS => XS.aload X56.here hx rfl (hb hby d5_32) rfl rfl kS) ?_
  show own_Comes p e below s _ _ _ (T56.setTop (mkF m 34 #[.val (.ref r0), .val (.ref r1), .val (.ref r2), .val .null, .val .null, .val .null, .val .null, .val (.ref r7), .val .null] [.null, (.ref r0)]))
  have c57 := (((((G_sharedKey.other W48 (Or.inr (slot_ne (Or.inr (hw _ (List.mem_of_getElem? (i := 42) rfl))) (Or.inr (hw _ (List.mem_of_getElem? (i := 32) rfl))) (by decide) (t := (.object "java/lang/String")) (t' := (.object "com/example/layered_mocks/layeredmocks/Answer$Kind")) (by decide) (by decide)))).other W50 (Or.inr (slot_ne (Or.inr (hw _ (List.mem_of_getElem? (i := 42) rfl))) (Or.inr (hw _ (List.mem_of_getElem? (i := 34) rfl))) (by decide) (t := (.object "java/lang/String")) (t' := (.object "java/lang/Object")) (by decide) (by decide)))).other W52 (Or.inr (slot_ne (Or.inr (hw _ (List.mem_of_getElem? (i := 42) rfl))) (Or.inr (hw _ (List.mem_of_getElem? (i := 36) rfl))) (by decide) (t := (.object "java/lang/String")) (t' := (.object "java/lang/Throwable")) (by decide) (by decide)))).other W54 (Or.inr (slot_ne (Or.inr (hw _ (List.mem_of_getElem? (i := 42) rfl))) (Or.inr (hw _ (List.mem_of_getElem? (i := 38) rfl))) (by decide) (t := (.object "java/lang/String")) (t' := (.object "java/lang/String")) (by decide) (by decide)))).other W56 (Or.inr (slot_ne (Or.inr (hw _ (List.mem_of_getElem? (i := 42) rfl))) (Or.inr (hw _ (List.mem_of_getElem? (i := 40) rfl))) (by decide) (t := (.object "java/lang/String")) (t' := (.object "java/lang/String")) (by decide) (by decide))))
  obtain ⟨T58, h58, X58, e58, W58, st58⟩ := putF X56 hx hZ hown (host := "") (Or.inl (hw _ (List.mem_of_getElem? (i := 41) rfl))) Via.refl e56 c57 (((((Et.wr W48).wr W50).wr W52).wr W54).wr W56) (Or.inr ⟨(hw _ (List.mem_of_getElem? (i := 42) rfl)), rfl, hnm⟩) (hw _ (List.mem_of_getElem? (i := 12) rfl)) (ty := (.object "java/lang/String")) (by decide) rfl rfl (g := (mkF m 34 #[.val (.ref r0), .val (.ref r1), .val (.ref r2), .val .null, .val .null, .val .null, .val .null, .val (.ref r7), .val .null] [.null, (.ref r0)])) rfl rfl (hb hby d5_34)
  refine own_by st58 ?_
  have Fw58 := c57.same W58
  have N58 := Fr.snoc X58 N56 g_r0
  show own_Comes p e below s _ _ _ (T58.setTop (mkF m 37 #[.val (.ref r0), .val (.ref r1), .val (.ref r2), .val .null, .val .null, .val .null, .val .null, .val (.ref r7), .val .null] []))
  refine own_by (fun _ kS => XS.aloadN X58.here hx rfl (hb hby d5_37) rfl rfl kS) ?_
  show own_Comes p e below s _ _ _ (T58.setTop (mkF m 38 #[.val (.ref r0), .val (.ref r1), .val (.ref r2), .val .null, .val .null, .val .null, .val .null, .val (.ref r7), .val .null] [(.ref r0)]))
  refine own_by (fun _ kS => XS.aload X58.here hx rfl (hb hby d5_38) rfl rfl kS) ?_
  show own_Comes p e below s _ _ _ (T58.setTop (mkF m 40 #[.val (.ref r0), .val (.ref r1), .val (.ref r2), .val .null, .val .null, .val .null, .val .null, .val (.ref r7), .val .null] [(.ref r7), (.ref r0)]))
  have c59 := ((((((G_updates.other W48 (Or.inr (slot_ne (Or.inr (hw _ (List.mem_of_getElem? (i := 44) rfl))) (Or.inr (hw _ (List.mem_of_getElem? (i := 32) rfl))) (by decide) (t := (.object "java/util/Map")) (t' := (.object "com/example/layered_mocks/layeredmocks/Answer$Kind")) (by decide) (by decide)))).other W50 (Or.inr (slot_ne (Or.inr (hw _ (List.mem_of_getElem? (i := 44) rfl))) (Or.inr (hw _ (List.mem_of_getElem? (i := 34) rfl))) (by decide) (t := (.object "java/util/Map")) (t' := (.object "java/lang/Object")) (by decide) (by decide)))).other W52 (Or.inr (slot_ne (Or.inr (hw _ (List.mem_of_getElem? (i := 44) rfl))) (Or.inr (hw _ (List.mem_of_getElem? (i := 36) rfl))) (by decide) (t := (.object "java/util/Map")) (t' := (.object "java/lang/Throwable")) (by decide) (by decide)))).other W54 (Or.inr (slot_ne (Or.inr (hw _ (List.mem_of_getElem? (i := 44) rfl))) (Or.inr (hw _ (List.mem_of_getElem? (i := 38) rfl))) (by decide) (t := (.object "java/util/Map")) (t' := (.object "java/lang/String")) (by decide) (by decide)))).other W56 (Or.inr (slot_ne (Or.inr (hw _ (List.mem_of_getElem? (i := 44) rfl))) (Or.inr (hw _ (List.mem_of_getElem? (i := 40) rfl))) (by decide) (t := (.object "java/util/Map")) (t' := (.object "java/lang/String")) (by decide) (by decide)))).other W58 (Or.inr (slot_ne (Or.inr (hw _ (List.mem_of_getElem? (i := 44) rfl))) (Or.inr (hw _ (List.mem_of_getElem? (i := 42) rfl))) (by decide) (t := (.object "java/util/Map")) (t' := (.object "java/lang/String")) (by decide) (by decide))))
  have c60 := ((((((Et.wr W48).wr W50).wr W52).wr W54).wr W56).wr W58)
  obtain ⟨T61, h61, X61, e61, W61, st61⟩ := putF X58 hx hZ hown (host := "") (Or.inl (hw _ (List.mem_of_getElem? (i := 43) rfl))) Via.refl e58 c59 c60 (Or.inr ⟨(hw _ (List.mem_of_getElem? (i := 44) rfl)), rfl, hnm⟩) (hw _ (List.mem_of_getElem? (i := 12) rfl)) (ty := (.object "java/util/Map")) (by decide) rfl rfl (g := (mkF m 40 #[.val (.ref r0), .val (.ref r1), .val (.ref r2), .val .null, .val .null, .val .null, .val .null, .val (.ref r7), .val .null] [(.ref r7), (.ref r0)])) rfl rfl (hb hby d5_40)
  refine own_by st61 ?_
  have Fw61 := c59.same W61
  have N61 := Fr.snoc X61 N58 g_r0
  show own_Comes p e below s _ _ _ (T61.setTop (mkF m 43 #[.val (.ref r0), .val (.ref r1), .val (.ref r2), .val .null, .val .null, .val .null, .val .null, .val (.ref r7), .val .null] []))
  refine own_by (fun _ kS => XS.aloadN X61.here hx rfl (hb hby d5_43) rfl rfl kS) ?_
  show own_Comes p e below s _ _ _ (T61.setTop (mkF m 44 #[.val (.ref r0), .val (.ref r1), .val (.ref r2), .val .null, .val .null, .val .null, .val .null, .val (.ref r7), .val .null] [(.ref r0)]))
  refine own_by (fun _ kS => XS.aload X61.here hx rfl (hb hby d5_44) rfl rfl kS) ?_
  show own_Comes p e below s _ _ _ (T61.setTop (mkF m 46 #[.val (.ref r0), .val (.ref r1), .val (.ref r2), .val .null, .val .null, .val .null, .val .null, .val (.ref r7), .val .null] [.null, (.ref r0)]))
  have c62 := (((((((G_delay.other W48 (Or.inr (slot_ne (Or.inr (hw _ (List.mem_of_getElem? (i := 46) rfl))) (Or.inr (hw _ (List.mem_of_getElem? (i := 32) rfl))) (by decide) (t := (.object "java/time/Duration")) (t' := (.object "com/example/layered_mocks/layeredmocks/Answer$Kind")) (by decide) (by decide)))).other W50 (Or.inr (slot_ne (Or.inr (hw _ (List.mem_of_getElem? (i := 46) rfl))) (Or.inr (hw _ (List.mem_of_getElem? (i := 34) rfl))) (by decide) (t := (.object "java/time/Duration")) (t' := (.object "java/lang/Object")) (by decide) (by decide)))).other W52 (Or.inr (slot_ne (Or.inr (hw _ (List.mem_of_getElem? (i := 46) rfl))) (Or.inr (hw _ (List.mem_of_getElem? (i := 36) rfl))) (by decide) (t := (.object "java/time/Duration")) (t' := (.object "java/lang/Throwable")) (by decide) (by decide)))).other W54 (Or.inr (slot_ne (Or.inr (hw _ (List.mem_of_getElem? (i := 46) rfl))) (Or.inr (hw _ (List.mem_of_getElem? (i := 38) rfl))) (by decide) (t := (.object "java/time/Duration")) (t' := (.object "java/lang/String")) (by decide) (by decide)))).other W56 (Or.inr (slot_ne (Or.inr (hw _ (List.mem_of_getElem? (i := 46) rfl))) (Or.inr (hw _ (List.mem_of_getElem? (i := 40) rfl))) (by decide) (t := (.object "java/time/Duration")) (t' := (.object "java/lang/String")) (by decide) (by decide)))).other W58 (Or.inr (slot_ne (Or.inr (hw _ (List.mem_of_getElem? (i := 46) rfl))) (Or.inr (hw _ (List.mem_of_getElem? (i := 42) rfl))) (by decide) (t := (.object "java/time/Duration")) (t' := (.object "java/lang/String")) (by decide) (by decide)))).other W61 (Or.inr (slot_ne (Or.inr (hw _ (List.mem_of_getElem? (i := 46) rfl))) (Or.inr (hw _ (List.mem_of_getElem? (i := 44) rfl))) (by decide) (t := (.object "java/time/Duration")) (t' := (.object "java/util/Map")) (by decide) (by decide))))
  obtain ⟨T63, h63, X63, e63, W63, st63⟩ := putF X61 hx hZ hown (host := "") (Or.inl (hw _ (List.mem_of_getElem? (i := 45) rfl))) Via.refl e61 c62 (c60.wr W61) (Or.inr ⟨(hw _ (List.mem_of_getElem? (i := 46) rfl)), rfl, hnm⟩) (hw _ (List.mem_of_getElem? (i := 12) rfl)) (ty := (.object "java/time/Duration")) (by decide) rfl rfl (g := (mkF m 46 #[.val (.ref r0), .val (.ref r1), .val (.ref r2), .val .null, .val .null, .val .null, .val .null, .val (.ref r7), .val .null] [.null, (.ref r0)])) rfl rfl (hb hby d5_46)
  refine own_by st63 ?_
  have Fw63 := c62.same W63
  have N63 := Fr.snoc X63 N61 g_r0
  show own_Comes p e below s _ _ _ (T63.setTop (mkF m 49 #[.val (.ref r0), .val (.ref r1), .val (.ref r2), .val .null, .val .null, .val .null, .val .null, .val (.ref r7), .val .null] []))
  have c64 := (((((((Fw48.other W50 (Or.inr (slot_ne (Or.inr (hw _ (List.mem_of_getElem? (i := 32) rfl))) (Or.inr (hw _ (List.mem_of_getElem? (i := 34) rfl))) (by decide) (t := (.object "com/example/layered_mocks/layeredmocks/Answer$Kind")) (t' := (.object "java/lang/Object")) (by decide) (by decide)))).other W52 (Or.inr (slot_ne (Or.inr (hw _ (List.mem_of_getElem? (i := 32) rfl))) (Or.inr (hw _ (List.mem_of_getElem? (i := 36) rfl))) (by decide) (t := (.object "com/example/layered_mocks/layeredmocks/Answer$Kind")) (t' := (.object "java/lang/Throwable")) (by decide) (by decide)))).other W54 (Or.inr (slot_ne (Or.inr (hw _ (List.mem_of_getElem? (i := 32) rfl))) (Or.inr (hw _ (List.mem_of_getElem? (i := 38) rfl))) (by decide) (t := (.object "com/example/layered_mocks/layeredmocks/Answer$Kind")) (t' := (.object "java/lang/String")) (by decide) (by decide)))).other W56 (Or.inr (slot_ne (Or.inr (hw _ (List.mem_of_getElem? (i := 32) rfl))) (Or.inr (hw _ (List.mem_of_getElem? (i := 40) rfl))) (by decide) (t := (.object "com/example/layered_mocks/layeredmocks/Answer$Kind")) (t' := (.object "java/lang/String")) (by decide) (by decide)))).other W58 (Or.inr (slot_ne (Or.inr (hw _ (List.mem_of_getElem? (i := 32) rfl))) (Or.inr (hw _ (List.mem_of_getElem? (i := 42) rfl))) (by decide) (t := (.object "com/example/layered_mocks/layeredmocks/Answer$Kind")) (t' := (.object "java/lang/String")) (by decide) (by decide)))).other W61 (Or.inr (slot_ne (Or.inr (hw _ (List.mem_of_getElem? (i := 32) rfl))) (Or.inr (hw _ (List.mem_of_getElem? (i := 44) rfl))) (by decide) (t := (.object "com/example/layered_mocks/layeredmocks/Answer$Kind")) (t' := (.object "java/util/Map")) (by decide) (by decide)))).other W63 (Or.inr (slot_ne (Or.inr (hw _ (List.mem_of_getElem? (i := 32) rfl))) (Or.inr (hw _ (List.mem_of_getElem? (i := 46) rfl))) (by decide) (t := (.object "com/example/layered_mocks/layeredmocks/Answer$Kind")) (t' := (.object "java/time/Duration")) (by decide) (by decide))))
  have c65 := ((((((Fw50.other W52 (Or.inr (slot_ne (Or.inr (hw _ (List.mem_of_getElem? (i := 34) rfl))) (Or.inr (hw _ (List.mem_of_getElem? (i := 36) rfl))) (by decide) (t := (.object "java/lang/Object")) (t' := (.object "java/lang/Throwable")) (by decide) (by decide)))).other W54 (Or.inr (slot_ne (Or.inr (hw _ (List.mem_of_getElem? (i := 34) rfl))) (Or.inr (hw _ (List.mem_of_getElem? (i := 38) rfl))) (by decide) (t := (.object "java/lang/Object")) (t' := (.object "java/lang/String")) (by decide) (by decide)))).other W56 (Or.inr (slot_ne (Or.inr (hw _ (List.mem_of_getElem? (i := 34) rfl))) (Or.inr (hw _ (List.mem_of_getElem? (i := 40) rfl))) (by decide) (t := (.object "java/lang/Object")) (t' := (.object "java/lang/String")) (by decide) (by decide)))).other W58 (Or.inr (slot_ne (Or.inr (hw _ (List.mem_of_getElem? (i := 34) rfl))) (Or.inr (hw _ (List.mem_of_getElem? (i := 42) rfl))) (by decide) (t := (.object "java/lang/Object")) (t' := (.object "java/lang/String")) (by decide) (by decide)))).other W61 (Or.inr (slot_ne (Or.inr (hw _ (List.mem_of_getElem? (i := 34) rfl))) (Or.inr (hw _ (List.mem_of_getElem? (i := 44) rfl))) (by decide) (t := (.object "java/lang/Object")) (t' := (.object "java/util/Map")) (by decide) (by decide)))).other W63 (Or.inr (slot_ne (Or.inr (hw _ (List.mem_of_getElem? (i := 34) rfl))) (Or.inr (hw _ (List.mem_of_getElem? (i := 46) rfl))) (by decide) (t := (.object "java/lang/Object")) (t' := (.object "java/time/Duration")) (by decide) (by decide))))
  have c66 := (((((Fw52.other W54 (Or.inr (slot_ne (Or.inr (hw _ (List.mem_of_getElem? (i := 36) rfl))) (Or.inr (hw _ (List.mem_of_getElem? (i := 38) rfl))) (by decide) (t := (.object "java/lang/Throwable")) (t' := (.object "java/lang/String")) (by decide) (by decide)))).other W56 (Or.inr (slot_ne (Or.inr (hw _ (List.mem_of_getElem? (i := 36) rfl))) (Or.inr (hw _ (List.mem_of_getElem? (i := 40) rfl))) (by decide) (t := (.object "java/lang/Throwable")) (t' := (.object "java/lang/String")) (by decide) (by decide)))).other W58 (Or.inr (slot_ne (Or.inr (hw _ (List.mem_of_getElem? (i := 36) rfl))) (Or.inr (hw _ (List.mem_of_getElem? (i := 42) rfl))) (by decide) (t := (.object "java/lang/Throwable")) (t' := (.object "java/lang/String")) (by decide) (by decide)))).other W61 (Or.inr (slot_ne (Or.inr (hw _ (List.mem_of_getElem? (i := 36) rfl))) (Or.inr (hw _ (List.mem_of_getElem? (i := 44) rfl))) (by decide) (t := (.object "java/lang/Throwable")) (t' := (.object "java/util/Map")) (by decide) (by decide)))).other W63 (Or.inr (slot_ne (Or.inr (hw _ (List.mem_of_getElem? (i := 36) rfl))) (Or.inr (hw _ (List.mem_of_getElem? (i := 46) rfl))) (by decide) (t := (.object "java/lang/Throwable")) (t' := (.object "java/time/Duration")) (by decide) (by decide))))
  have c67 := ((((Fw54.other W56 (Or.inr (slot_ne (Or.inr (hw _ (List.mem_of_getElem? (i := 38) rfl))) (Or.inr (hw _ (List.mem_of_getElem? (i := 40) rfl))) (by decide) (t := (.object "java/lang/String")) (t' := (.object "java/lang/String")) (by decide) (by decide)))).other W58 (Or.inr (slot_ne (Or.inr (hw _ (List.mem_of_getElem? (i := 38) rfl))) (Or.inr (hw _ (List.mem_of_getElem? (i := 42) rfl))) (by decide) (t := (.object "java/lang/String")) (t' := (.object "java/lang/String")) (by decide) (by decide)))).other W61 (Or.inr (slot_ne (Or.inr (hw _ (List.mem_of_getElem? (i := 38) rfl))) (Or.inr (hw _ (List.mem_of_getElem? (i := 44) rfl))) (by decide) (t := (.object "java/lang/String")) (t' := (.object "java/util/Map")) (by decide) (by decide)))).other W63 (Or.inr (slot_ne (Or.inr (hw _ (List.mem_of_getElem? (i := 38) rfl))) (Or.inr (hw _ (List.mem_of_getElem? (i := 46) rfl))) (by decide) (t := (.object "java/lang/String")) (t' := (.object "java/time/Duration")) (by decide) (by decide))))
  have c68 := (((Fw56.other W58 (Or.inr (slot_ne (Or.inr (hw _ (List.mem_of_getElem? (i := 40) rfl))) (Or.inr (hw _ (List.mem_of_getElem? (i := 42) rfl))) (by decide) (t := (.object "java/lang/String")) (t' := (.object "java/lang/String")) (by decide) (by decide)))).other W61 (Or.inr (slot_ne (Or.inr (hw _ (List.mem_of_getElem? (i := 40) rfl))) (Or.inr (hw _ (List.mem_of_getElem? (i := 44) rfl))) (by decide) (t := (.object "java/lang/String")) (t' := (.object "java/util/Map")) (by decide) (by decide)))).other W63 (Or.inr (slot_ne (Or.inr (hw _ (List.mem_of_getElem? (i := 40) rfl))) (Or.inr (hw _ (List.mem_of_getElem? (i := 46) rfl))) (by decide) (t := (.object "java/lang/String")) (t' := (.object "java/time/Duration")) (by decide) (by decide))))
  have c69 := ((Fw58.other W61 (Or.inr (slot_ne (Or.inr (hw _ (List.mem_of_getElem? (i := 42) rfl))) (Or.inr (hw _ (List.mem_of_getElem? (i := 44) rfl))) (by decide) (t := (.object "java/lang/String")) (t' := (.object "java/util/Map")) (by decide) (by decide)))).other W63 (Or.inr (slot_ne (Or.inr (hw _ (List.mem_of_getElem? (i := 42) rfl))) (Or.inr (hw _ (List.mem_of_getElem? (i := 46) rfl))) (by decide) (t := (.object "java/lang/String")) (t' := (.object "java/time/Duration")) (by decide) (by decide))))
  have c70 := (Fw61.other W63 (Or.inr (slot_ne (Or.inr (hw _ (List.mem_of_getElem? (i := 44) rfl))) (Or.inr (hw _ (List.mem_of_getElem? (i := 46) rfl))) (by decide) (t := (.object "java/util/Map")) (t' := (.object "java/time/Duration")) (by decide) (by decide))))
  refine own_ret X63 (v := none) (fun _ => rfl) Bd.notSynchronized (by decide) (by decide) ?_ (fun fs hr => X63.returnOut hx Bd.returns (hb hby d5_49) hr)
  rw [e63]; exact ⟨rfl, N63, (((((((((Keep.refl _ _).wr W48 (Or.inl (List.mem_of_getElem? (i := 0) rfl))).wr W50 (Or.inl (List.mem_of_getElem? (i := 0) rfl))).wr W52 (Or.inl (List.mem_of_getElem? (i := 0) rfl))).wr W54 (Or.inl (List.mem_of_getElem? (i := 0) rfl))).wr W56 (Or.inl (List.mem_of_getElem? (i := 0) rfl))).wr W58 (Or.inl (List.mem_of_getElem? (i := 0) rfl))).wr W61 (Or.inl (List.mem_of_getElem? (i := 0) rfl))).wr W63 (Or.inl (List.mem_of_getElem? (i := 0) rfl))), ((c60.wr W61).wr W63), c64, c65, c66, c67, c68, c69, c70, Fw63⟩
def Q3r (Z : State) (r0 r1 r2 em : Addr) (h0 : Heap) (n0 : Nat) (v : Option Value) (h : Heap) (L : List Loc) : Prop := v = none ∧ Fr n0 L ∧ Keep h0 h [r0] ∧ own_An Z h r0 r1 (.ref r2) em
theorem ef_rm3r (m : MethodId) (x0 : Addr) (x1 : Addr) (x2 : Addr) : entryFrame m #[(.ref x0), (.ref x1), (.ref x2), .null, .null, .null, .null] 7 = mkF m 0 #[.val (.ref x0), .val (.ref x1), .val (.ref x2), .val .null, .val .null, .val .null, .val .null] [] := by first | (simp [entryFrame, mkF, argsToLocals, Value.category]; done) | rfl
set_option maxRecDepth 65536 in
set_option maxHeartbeats 40000000 in
theorem rm3r (l : Launch) (Z : State) (a0 : Array Value) (hw : ∀ d ∈ tables_1, d.before a0 Z = true) (ws : List Jvm.Cond) (r0 r1 r2 em : Addr) (h0 : Heap) (n0 : Nat) (Z0 : n0 ≤ h0.size) (Et : Exa Z h0 r0 "com/example/layered_mocks/layeredmocks/Answer") (G_kind : Fld Z h0 r0 "com/example/layered_mocks/layeredmocks/Answer" "kind" "Lcom/example/layered_mocks/layeredmocks/Answer$Kind;" .null) (G_result : Fld Z h0 r0 "com/example/layered_mocks/layeredmocks/Answer" "result" "Ljava/lang/Object;" .null) (G_failure : Fld Z h0 r0 "com/example/layered_mocks/layeredmocks/Answer" "failure" "Ljava/lang/Throwable;" .null) (G_faultCode : Fld Z h0 r0 "com/example/layered_mocks/layeredmocks/Answer" "faultCode" "Ljava/lang/String;" .null) (G_faultMessage : Fld Z h0 r0 "com/example/layered_mocks/layeredmocks/Answer" "faultMessage" "Ljava/lang/String;" .null) (G_sharedKey : Fld Z h0 r0 "com/example/layered_mocks/layeredmocks/Answer" "sharedKey" "Ljava/lang/String;" .null) (G_updates : Fld Z h0 r0 "com/example/layered_mocks/layeredmocks/Answer" "updates" "Ljava/util/Map;" .null) (G_delay : Fld Z h0 r0 "com/example/layered_mocks/layeredmocks/Answer" "delay" "Ljava/time/Duration;" .null) (g_r0 : n0 ≤ r0) (Se : Sta Z h0 "java/util/ImmutableCollections" "EMPTY_MAP" "Ljava/util/ImmutableCollections$MapN;" (.ref em)) :
    MetFree l (⟨"com/example/layered_mocks/layeredmocks/Answer", "<init>", "(Lcom/example/layered_mocks/layeredmocks/Answer$Kind;Ljava/lang/Object;Ljava/lang/Throwable;Ljava/lang/String;Ljava/lang/String;Ljava/lang/String;)V"⟩ : MethodName) (head1 (Jvm.Cond.code (⟨"com/example/layered_mocks/layeredmocks/Answer", "<init>", "(Lcom/example/layered_mocks/layeredmocks/Answer$Kind;Ljava/lang/Object;Ljava/lang/Throwable;Ljava/lang/String;Ljava/lang/String;Ljava/lang/String;)V"⟩ : MethodName) prog_1_method_1_code 7 none :: ws) ({ frames := 2, cells := 0, slots := 0, locals := 32 } : Room)) (fun aX UX => aX = #[(.ref r0), (.ref r1), (.ref r2), .null, .null, .null, .null] ∧ Z.Warmed39 UX.vm ∧ UX.heap = h0) (fun _ _ _ _ _ => True) (fun _ UX oX UX' => ∃ vX LX, oX = .returned vX ∧ Q3r Z r0 r1 r2 em h0 n0 vX UX'.heap LX ∧ FrameEnd UX oX UX' LX ({ frames := 2, cells := 0, slots := 0, locals := 32 } : Room).cells ({ frames := 2, cells := 0, slots := 0, locals := 32 } : Room).slots) := by
  refine MetFree.of_bodySF (plainFor_of_name pn_com_example_layered_mocks_layeredmocks_Answer) hisR ?_
  intro p e s m args below meth c s₁ Bd hml0 hP hK
  obtain ⟨rfl, hZ, hh⟩ := hP
  have hx := Bd.exec
  have hby := Bd.bytes
  have hml : c.maxLocals = 7 := hml0
  have hown : s.vm.findClass "com/example/layered_mocks/layeredmocks/Answer" = some m.cls := findClass_of_methodNamed Bd.named
  have hnm := (name_of_methodNamed Bd.named Bd.method).1
  have X0 : Stand p l e ({ frames := 2, cells := 0, slots := 0, locals := 32 } : Room) s m #[(.ref r0), (.ref r1), (.ref r2), .null, .null, .null, .null] below meth c s₁ [] 0 0 := Stand.of_body Bd
  have e0 : s₁.heap = h0 := by rw [← hh, Bd.state]; rfl
  have N0 := Fr.nil n0
  show own_Comes p e below s ({ frames := 2, cells := 0, slots := 0, locals := 32 } : Room).cells ({ frames := 2, cells := 0, slots := 0, locals := 32 } : Room).slots (Q3r Z r0 r1 r2 em h0 n0) _
  rw [show entryFrame m #[(.ref r0), (.ref r1), (.ref r2), .null, .null, .null, .null] 7 = mkF m 0 #[.val (.ref r0), .val (.ref r1), .val (.ref r2), .val .null, .val .null, .val .null, .val .null] [] from ef_rm3r m r0 r1 r2]
  show own_Comes p e below s _ _ _ (s₁.setTop (mkF m 0 #[.val (.ref r0), .val (.ref r1), .val (.ref r2), .val .null, .val .null, .val .null, .val .null] []))
  refine own_by (fun _ kS => XS.aloadN X0.here hx rfl (hb hby d3_0) rfl rfl kS) ?_
  show own_Comes p e below s _ _ _ (s₁.setTop (mkF m 1 #[.val (.ref r0), .val (.ref r1), .val (.ref r2), .val .null, .val .null, .val .null, .val .null] [(.ref r0)]))
  refine own_by (fun _ kS => XS.aloadN X0.here hx rfl (hb hby d3_1) rfl rfl kS) ?_
  show own_Comes p e below s _ _ _ (s₁.setTop (mkF m 2 #[.val (.ref r0), .val (.ref r1), .val (.ref r2), .val .null, .val .null, .val .null, .val .null] [(.ref r1), (.ref r0)]))
  refine own_by (fun _ kS => XS.aloadN X0.here hx rfl (hb hby d3_2) rfl rfl kS) ?_
  show own_Comes p e below s _ _ _ (s₁.setTop (mkF m 3 #[.val (.ref r0), .val (.ref r1), .val (.ref r2), .val .null, .val .null, .val .null, .val .null] [(.ref r2), (.ref r1), (.ref r0)]))
  refine own_by (fun _ kS => XS.aloadN X0.here hx rfl (hb hby d3_3) rfl rfl kS) ?_
  show own_Comes p e below s _ _ _ (s₁.setTop (mkF m 4 #[.val (.ref r0), .val (.ref r1), .val (.ref r2), .val .null, .val .null, .val .null, .val .null] [.null, (.ref r2), (.ref r1), (.ref r0)]))
  refine own_by (fun _ kS => XS.aload X0.here hx rfl (hb hby d3_4) rfl rfl kS) ?_
  show own_Comes p e below s _ _ _ (s₁.setTop (mkF m 6 #[.val (.ref r0), .val (.ref r1), .val (.ref r2), .val .null, .val .null, .val .null, .val .null] [.null, .null, (.ref r2), (.ref r1), (.ref r0)]))
  refine own_by (fun _ kS => XS.aload X0.here hx rfl (hb hby d3_6) rfl rfl kS) ?_
  show own_Comes p e below s _ _ _ (s₁.setTop (mkF m 8 #[.val (.ref r0), .val (.ref r1), .val (.ref r2), .val .null, .val .null, .val .null, .val .null] [.null, .null, .null, (.ref r2), (.ref r1), (.ref r0)]))
  refine own_by (fun _ kS => XS.aload X0.here hx rfl (hb hby d3_8) rfl rfl kS) ?_
  show own_Comes p e below s _ _ _ (s₁.setTop (mkF m 10 #[.val (.ref r0), .val (.ref r1), .val (.ref r2), .val .null, .val .null, .val .null, .val .null] [.null, .null, .null, .null, (.ref r2), (.ref r1), (.ref r0)]))
  obtain ⟨_, _, ⟨T71, L71, k71, n71⟩, -, X71, ⟨Lc71, hQ71, l71, y71, z71⟩, st71⟩ := Jvm.LawKit.callS X0 hx (y := (⟨"java/util/Map", "of", "()Ljava/util/Map;"⟩ : MethodName)) hown (mvT hZ (hw _ (List.mem_of_getElem? (i := 19) rfl))) (mvT hZ (hw _ (List.mem_of_getElem? (i := 20) rfl))) (mvT hZ (hw _ (List.mem_of_getElem? (i := 21) rfl))) (mvT hZ (hw _ (List.mem_of_getElem? (i := 22) rfl))) (by decide) (backOf (W := 7) (rm4 l Z a0 hw [] em h0 n0 Z0 Se) hZ (hw _ (List.mem_of_getElem? (i := 22) rfl)) (hw _ (List.mem_of_getElem? (i := 21) rfl)) (by decide) (by decide)) (g := (mkF m 10 #[.val (.ref r0), .val (.ref r1), .val (.ref r2), .val .null, .val .null, .val .null, .val .null] [.null, .null, .null, .null, (.ref r2), (.ref r1), (.ref r0)])) rfl (by rw [hml]; rfl) (argsL := []) (rest := [.null, .null, .null, .null, (.ref r2), (.ref r1), (.ref r0)]) (lenOf pd___Ljava_util_Map__463 rfl) rfl (by show 2 * 0 + _ ≤ _; exact Nat.le_of_eq rfl) (hb hby d3_10) (fun _ _ => ⟨rfl, e0, (by decide : 0 + 0 ≤ _), (by decide : 0 + 0 ≤ _)⟩)
  dsimp only [Pt.U, Pt.locs, Pt.cells, Pt.slots] at X71 l71 y71 z71 st71 hQ71
  subst l71 y71 z71
  obtain ⟨rfl, N71q, e71q⟩ := hQ71
  have N71 := Fr.app N0 N71q
  refine own_by st71 ?_
  have e71 : T71.heap = h0 := e71q
  show own_Comes p e below s _ _ _ (T71.setTop (mkF m 13 #[.val (.ref r0), .val (.ref r1), .val (.ref r2), .val .null, .val .null, .val .null, .val .null] [(.ref em), .null, .null, .null, .null, (.ref r2), (.ref r1), (.ref r0)]))
  refine own_by (fun _ kS => XS.aconstNull X71.here hx rfl (hb hby d3_13) kS) ?_
  show own_Comes p e below s _ _ _ (T71.setTop (mkF m 14 #[.val (.ref r0), .val (.ref r1), .val (.ref r2), .val .null, .val .null, .val .null, .val .null] [.null, (.ref em), .null, .null, .null, .null, (.ref r2), (.ref r1), (.ref r0)]))
  obtain ⟨_, _, ⟨T72, L72, k72, n72⟩, -, X72, ⟨Lc72, hQ72, l72, y72, z72⟩, st72⟩ := X71.specialBack hx (y := (⟨"com/example/layered_mocks/layeredmocks/Answer", "<init>", "(Lcom/example/layered_mocks/layeredmocks/Answer$Kind;Ljava/lang/Object;Ljava/lang/Throwable;Ljava/lang/String;Ljava/lang/String;Ljava/lang/String;Ljava/util/Map;Ljava/time/Duration;)V"⟩ : MethodName)) rfl hown (mvT hZ (hw _ (List.mem_of_getElem? (i := 25) rfl))) (mvT hZ (hw _ (List.mem_of_getElem? (i := 26) rfl))) (mvT hZ (hw _ (List.mem_of_getElem? (i := 27) rfl))) (by decide) (backOf (W := 0) (rm5r l Z a0 hw [] r0 r1 r2 em h0 n0 Z0 Et G_kind G_result G_failure G_faultCode G_faultMessage G_sharedKey G_updates G_delay g_r0) hZ (hw _ (List.mem_of_getElem? (i := 27) rfl)) (hw _ (List.mem_of_getElem? (i := 9) rfl)) (by decide) (by decide)) (g := (mkF m 14 #[.val (.ref r0), .val (.ref r1), .val (.ref r2), .val .null, .val .null, .val .null, .val .null] [.null, (.ref em), .null, .null, .null, .null, (.ref r2), (.ref r1), (.ref r0)])) rfl (by rw [hml]; rfl) (Steps.refl _) (a := r0) (argsL := [(.ref r1), (.ref r2), .null, .null, .null, .null, (.ref em), .null]) (rest := []) (lenOf pd__Lcom_example_layered_mocks_layeredmocks_Answer_Kind_Ljava_lang_Object_Ljava_lang_Throwable_Ljava_lang_String_Ljava_lang_String_Ljava_lang_String_Ljava_util_Map_Ljava_time_Duration__V_367 rfl) rfl (by show 2 * 0 + _ ≤ _; exact Nat.le_of_eq rfl) (hb hby d3_14) (fun _ _ => ⟨rfl, e71, (by decide : 0 + 0 ≤ _), (by decide : 0 + 0 ≤ _)⟩)
  dsimp only [Pt.U, Pt.locs, Pt.cells, Pt.slots] at X72 l72 y72 z72 st72 hQ72
  subst l72 y72 z72
  obtain ⟨rfl, N72q, K72, A72⟩ := hQ72
  have N72 := Fr.app N71 N72q
  refine own_tr st72 ?_
  show own_Comes p e below s _ _ _ (T72.setTop (mkF m 17 #[.val (.ref r0), .val (.ref r1), .val (.ref r2), .val .null, .val .null, .val .null, .val .null] []))
  refine own_ret X72 (v := none) (fun _ => rfl) Bd.notSynchronized (by decide) (by decide) ?_ (fun fs hr => X72.returnOut hx Bd.returns (hb hby d3_17) hr)
  exact ⟨rfl, N72, ((Keep.refl _ _).trans K72 (allS (Or.inl (List.mem_of_getElem? (i := 0) rfl)) all0)), A72⟩
def Q2r (Z : State) (k r2 em : Addr) (h0 : Heap) (n0 : Nat) (v : Option Value) (h : Heap) (L : List Loc) : Prop := ∃ a : Addr, v = some (.ref a) ∧ Fr n0 L ∧ Ext h0 h ∧ own_An Z h a k (.ref r2) em
theorem ef_rm2r (m : MethodId) (x0 : Addr) : entryFrame m #[(.ref x0)] 1 = mkF m 0 #[.val (.ref x0)] [] := by first | (simp [entryFrame, mkF, argsToLocals, Value.category]; done) | rfl
set_option maxRecDepth 65536 in
set_option maxHeartbeats 40000000 in
theorem rm2r (l : Launch) (Z : State) (a0 : Array Value) (hw : ∀ d ∈ tables_1, d.before a0 Z = true) (ws : List Jvm.Cond) (k r2 em : Addr) (h0 : Heap) (n0 : Nat) (Z0 : n0 ≤ h0.size) (O0 : Old Z n0 h0) (Se : Sta Z Z.heap "java/util/ImmutableCollections" "EMPTY_MAP" "Ljava/util/ImmutableCollections$MapN;" (.ref em)) (Sk : Sta Z Z.heap "com/example/layered_mocks/layeredmocks/Answer$Kind" "VALUE" "Lcom/example/layered_mocks/layeredmocks/Answer$Kind;" (.ref k)) :
    MetFree l (⟨"com/example/layered_mocks/layeredmocks/Answer", "value", "(Ljava/lang/Object;)Lcom/example/layered_mocks/layeredmocks/Answer;"⟩ : MethodName) (head1 (Jvm.Cond.code (⟨"com/example/layered_mocks/layeredmocks/Answer", "value", "(Ljava/lang/Object;)Lcom/example/layered_mocks/layeredmocks/Answer;"⟩ : MethodName) prog_1_method_3_code 1 (some (.object "com/example/layered_mocks/layeredmocks/Answer")) :: ws) ({ frames := 3, cells := 1, slots := 8, locals := 51 } : Room)) (fun aX UX => aX = #[(.ref r2)] ∧ Z.Warmed39 UX.vm ∧ UX.heap = h0) (fun _ _ _ _ _ => True) (fun _ UX oX UX' => ∃ vX LX, oX = .returned vX ∧ Q2r Z k r2 em h0 n0 vX UX'.heap LX ∧ FrameEnd UX oX UX' LX ({ frames := 3, cells := 1, slots := 8, locals := 51 } : Room).cells ({ frames := 3, cells := 1, slots := 8, locals := 51 } : Room).slots) := by
  refine MetFree.of_bodySF (plainFor_of_name pn_com_example_layered_mocks_layeredmocks_Answer) hisR ?_
  intro p e s m args below meth c s₁ Bd hml0 hP hK
  obtain ⟨rfl, hZ, hh⟩ := hP
  have hx := Bd.exec
  have hby := Bd.bytes
  have hml : c.maxLocals = 1 := hml0
  have hown : s.vm.findClass "com/example/layered_mocks/layeredmocks/Answer" = some m.cls := findClass_of_methodNamed Bd.named
  have hnm := (name_of_methodNamed Bd.named Bd.method).1
  have X0 : Stand p l e ({ frames := 3, cells := 1, slots := 8, locals := 51 } : Room) s m #[(.ref r2)] below meth c s₁ [] 0 0 := Stand.of_body Bd
  have e0 : s₁.heap = h0 := by rw [← hh, Bd.state]; rfl
  have N0 := Fr.nil n0
  show own_Comes p e below s ({ frames := 3, cells := 1, slots := 8, locals := 51 } : Room).cells ({ frames := 3, cells := 1, slots := 8, locals := 51 } : Room).slots (Q2r Z k r2 em h0 n0) _
  rw [show entryFrame m #[(.ref r2)] 1 = mkF m 0 #[.val (.ref r2)] [] from ef_rm2r m r2]
  show own_Comes p e below s _ _ _ (s₁.setTop (mkF m 0 #[.val (.ref r2)] []))
  obtain ⟨T73, h73, X73, e73, E73, A73, D73, -, st73⟩ := newO X0 hx hZ hown (hw _ (List.mem_of_getElem? (i := 11) rfl)) (hw _ (List.mem_of_getElem? (i := 12) rfl)) (hw _ (List.mem_of_getElem? (i := 9) rfl)) e0 (g := (mkF m 0 #[.val (.ref r2)] [])) rfl (hb hby d2_0) (by decide) (by decide)
  obtain ⟨b73, g73⟩ : ∃ z, z = h0.size := ⟨_, rfl⟩
  rw [← g73] at A73 D73 st73
  have g_b73 : n0 ≤ b73 := Nat.le_trans Z0 (Nat.le_of_eq g73.symm)
  refine own_by st73 ?_
  show own_Comes p e below s _ _ _ (T73.setTop (mkF m 3 #[.val (.ref r2)] [(.ref b73)]))
  refine own_by (fun _ kS => XS.dup X73.here hx rfl (hb hby d2_3) rfl rfl kS) ?_
  show own_Comes p e below s _ _ _ (T73.setTop (mkF m 4 #[.val (.ref r2)] [(.ref b73), (.ref b73)]))
  obtain ⟨T74, X74, e74, st74⟩ := getS2 X73 hx hZ hown (host := "") (Or.inl (hw _ (List.mem_of_getElem? (i := 13) rfl))) Via.refl e73 (Sk.ext (O0.ext E73).2) (g := (mkF m 4 #[.val (.ref r2)] [(.ref b73), (.ref b73)])) rfl (hb hby d2_4)
  refine own_by st74 ?_
  show own_Comes p e below s _ _ _ (T74.setTop (mkF m 7 #[.val (.ref r2)] [(.ref k), (.ref b73), (.ref b73)]))
  refine own_by (fun _ kS => XS.aloadN X74.here hx rfl (hb hby d2_7) rfl rfl kS) ?_
  show own_Comes p e below s _ _ _ (T74.setTop (mkF m 8 #[.val (.ref r2)] [(.ref r2), (.ref k), (.ref b73), (.ref b73)]))
  refine own_by (fun _ kS => XS.aconstNull X74.here hx rfl (hb hby d2_8) kS) ?_
  show own_Comes p e below s _ _ _ (T74.setTop (mkF m 9 #[.val (.ref r2)] [.null, (.ref r2), (.ref k), (.ref b73), (.ref b73)]))
  refine own_by (fun _ kS => XS.aconstNull X74.here hx rfl (hb hby d2_9) kS) ?_
  show own_Comes p e below s _ _ _ (T74.setTop (mkF m 10 #[.val (.ref r2)] [.null, .null, (.ref r2), (.ref k), (.ref b73), (.ref b73)]))
  refine own_by (fun _ kS => XS.aconstNull X74.here hx rfl (hb hby d2_10) kS) ?_
  show own_Comes p e below s _ _ _ (T74.setTop (mkF m 11 #[.val (.ref r2)] [.null, .null, .null, (.ref r2), (.ref k), (.ref b73), (.ref b73)]))
  refine own_by (fun _ kS => XS.aconstNull X74.here hx rfl (hb hby d2_11) kS) ?_
  show own_Comes p e below s _ _ _ (T74.setTop (mkF m 12 #[.val (.ref r2)] [.null, .null, .null, .null, (.ref r2), (.ref k), (.ref b73), (.ref b73)]))
  have sz_b73 : h0.size ≤ b73 := Nat.le_of_eq g73.symm
  obtain ⟨_, _, ⟨T75, L75, k75, n75⟩, -, X75, ⟨Lc75, hQ75, l75, y75, z75⟩, st75⟩ := X74.specialBack hx (y := (⟨"com/example/layered_mocks/layeredmocks/Answer", "<init>", "(Lcom/example/layered_mocks/layeredmocks/Answer$Kind;Ljava/lang/Object;Ljava/lang/Throwable;Ljava/lang/String;Ljava/lang/String;Ljava/lang/String;)V"⟩ : MethodName)) rfl hown (mvT hZ (hw _ (List.mem_of_getElem? (i := 16) rfl))) (mvT hZ (hw _ (List.mem_of_getElem? (i := 17) rfl))) (mvT hZ (hw _ (List.mem_of_getElem? (i := 18) rfl))) (by decide) (backOf (W := 1) (rm3r l Z a0 hw [] b73 k r2 em h73 n0 (Nat.le_trans Z0 E73.1) A73 (D73 (Or.inr (hw _ (List.mem_of_getElem? (i := 32) rfl))) (ty := (.object "com/example/layered_mocks/layeredmocks/Answer$Kind")) (by decide)) (D73 (Or.inr (hw _ (List.mem_of_getElem? (i := 34) rfl))) (ty := (.object "java/lang/Object")) (by decide)) (D73 (Or.inr (hw _ (List.mem_of_getElem? (i := 36) rfl))) (ty := (.object "java/lang/Throwable")) (by decide)) (D73 (Or.inr (hw _ (List.mem_of_getElem? (i := 38) rfl))) (ty := (.object "java/lang/String")) (by decide)) (D73 (Or.inr (hw _ (List.mem_of_getElem? (i := 40) rfl))) (ty := (.object "java/lang/String")) (by decide)) (D73 (Or.inr (hw _ (List.mem_of_getElem? (i := 42) rfl))) (ty := (.object "java/lang/String")) (by decide)) (D73 (Or.inr (hw _ (List.mem_of_getElem? (i := 44) rfl))) (ty := (.object "java/util/Map")) (by decide)) (D73 (Or.inr (hw _ (List.mem_of_getElem? (i := 46) rfl))) (ty := (.object "java/time/Duration")) (by decide)) g_b73 (Se.ext (O0.ext E73).2)) hZ (hw _ (List.mem_of_getElem? (i := 18) rfl)) (hw _ (List.mem_of_getElem? (i := 9) rfl)) (by decide) (by decide)) (g := (mkF m 12 #[.val (.ref r2)] [.null, .null, .null, .null, (.ref r2), (.ref k), (.ref b73), (.ref b73)])) rfl (by rw [hml]; rfl) (Steps.refl _) (a := b73) (argsL := [(.ref k), (.ref r2), .null, .null, .null, .null]) (rest := [(.ref b73)]) (lenOf pd__Lcom_example_layered_mocks_layeredmocks_Answer_Kind_Ljava_lang_Object_Ljava_lang_Throwable_Ljava_lang_String_Ljava_lang_String_Ljava_lang_String__V_63 rfl) rfl (by show 2 * 0 + _ ≤ _; exact Nat.le_of_eq rfl) (hb hby d2_12) (fun _ _ => ⟨rfl, e74, (by decide : 1 + 0 ≤ _), (by decide : 8 + 0 ≤ _)⟩)
  dsimp only [Pt.U, Pt.locs, Pt.cells, Pt.slots] at X75 l75 y75 z75 st75 hQ75
  subst l75 y75 z75
  obtain ⟨rfl, N75q, K75, A75⟩ := hQ75
  have N75 := Fr.app N0 N75q
  refine own_tr st75 ?_
  show own_Comes p e below s _ _ _ (T75.setTop (mkF m 15 #[.val (.ref r2)] [(.ref b73)]))
  refine own_ret X75 (v := some (.ref b73)) (fun h => by rw [Bd.returns] at h; cases h) Bd.notSynchronized (by decide) (by decide) ?_ (fun fs hr => own_reta X75 hx Bd.returns rfl rfl (hb hby d2_15) hr)
  exact ⟨_, rfl, N75, own_ext (((Keep.refl _ _).ext E73).trans K75 (allS (Or.inr sz_b73) all0)), A75⟩
def Q7 (Z : State) (v0 : Value) (h0 : Heap) (n0 : Nat) (v : Option Value) (h : Heap) (L : List Loc) : Prop := v = some v0 ∧ Fr n0 L ∧ h = h0
theorem ef_rm7 (m : MethodId) (x0 : Addr) : entryFrame m #[(.ref x0)] 1 = mkF m 0 #[.val (.ref x0)] [] := by first | (simp [entryFrame, mkF, argsToLocals, Value.category]; done) | rfl
theorem d7_0 : decode prog_1_method_10_code 0 = .ok (.aload_n 0, 1) := by decide +kernel
theorem d7_1 : decode prog_1_method_10_code 1 = .ok (.getfield 18, 3) := by decide +kernel
theorem d7_4 : decode prog_1_method_10_code 4 = .ok (.areturn, 1) := by decide +kernel
set_option maxRecDepth 65536 in
set_option maxHeartbeats 40000000 in
theorem rm7 (l : Launch) (Z : State) (a0 : Array Value) (hw : ∀ d ∈ tables_1, d.before a0 Z = true) (ws : List Jvm.Cond) (r0 : Addr) (v0 : Value) (h0 : Heap) (n0 : Nat) (Z0 : n0 ≤ h0.size) (Ff : Fld Z h0 r0 "com/example/layered_mocks/layeredmocks/Answer" "kind" "Lcom/example/layered_mocks/layeredmocks/Answer$Kind;" v0) (i_v0 : v0.isRef = true) :
    MetFree l (⟨"com/example/layered_mocks/layeredmocks/Answer", "kind", "()Lcom/example/layered_mocks/layeredmocks/Answer$Kind;"⟩ : MethodName) (head1 (Jvm.Cond.code (⟨"com/example/layered_mocks/layeredmocks/Answer", "kind", "()Lcom/example/layered_mocks/layeredmocks/Answer$Kind;"⟩ : MethodName) prog_1_method_10_code 1 (some (.object "com/example/layered_mocks/layeredmocks/Answer$Kind")) :: ws) ({ frames := 0, cells := 0, slots := 0, locals := 0 } : Room)) (fun aX UX => aX = #[(.ref r0)] ∧ Z.Warmed39 UX.vm ∧ UX.heap = h0) (fun _ _ _ _ _ => True) (fun _ UX oX UX' => ∃ vX LX, oX = .returned vX ∧ Q7 Z v0 h0 n0 vX UX'.heap LX ∧ FrameEnd UX oX UX' LX ({ frames := 0, cells := 0, slots := 0, locals := 0 } : Room).cells ({ frames := 0, cells := 0, slots := 0, locals := 0 } : Room).slots) := by
  refine MetFree.of_bodySF (plainFor_of_name pn_com_example_layered_mocks_layeredmocks_Answer) hisR ?_
  intro p e s m args below meth c s₁ Bd hml0 hP hK
  obtain ⟨rfl, hZ, hh⟩ := hP
  have hx := Bd.exec
  have hby := Bd.bytes
  have hml : c.maxLocals = 1 := hml0
  have hown : s.vm.findClass "com/example/layered_mocks/layeredmocks/Answer" = some m.cls := findClass_of_methodNamed Bd.named
  have hnm := (name_of_methodNamed Bd.named Bd.method).1
  have X0 : Stand p l e ({ frames := 0, cells := 0, slots := 0, locals := 0 } : Room) s m #[(.ref r0)] below meth c s₁ [] 0 0 := Stand.of_body Bd
  have e0 : s₁.heap = h0 := by rw [← hh, Bd.state]; rfl
  have N0 := Fr.nil n0
  show own_Comes p e below s ({ frames := 0, cells := 0, slots := 0, locals := 0 } : Room).cells ({ frames := 0, cells := 0, slots := 0, locals := 0 } : Room).slots (Q7 Z v0 h0 n0) _
  rw [show entryFrame m #[(.ref r0)] 1 = mkF m 0 #[.val (.ref r0)] [] from ef_rm7 m r0]
  show own_Comes p e below s _ _ _ (s₁.setTop (mkF m 0 #[.val (.ref r0)] []))
  refine own_by (fun _ kS => XS.aloadN X0.here hx rfl (hb hby d7_0) rfl rfl kS) ?_
  show own_Comes p e below s _ _ _ (s₁.setTop (mkF m 1 #[.val (.ref r0)] [(.ref r0)]))
  obtain ⟨T76, X76, e76, st76⟩ := getF X0 hx hZ hown (host := "") (Or.inl (hw _ (List.mem_of_getElem? (i := 31) rfl))) Via.refl e0 Ff (g := (mkF m 1 #[.val (.ref r0)] [(.ref r0)])) rfl rfl (hb hby d7_1)
  refine own_by st76 ?_
  show own_Comes p e below s _ _ _ (T76.setTop (mkF m 4 #[.val (.ref r0)] [v0]))
  refine own_ret X76 (v := some v0) (fun h => by rw [Bd.returns] at h; cases h) Bd.notSynchronized (by decide) (by decide) ?_ (fun fs hr => own_reta X76 hx Bd.returns rfl i_v0 (hb hby d7_4) hr)
  rw [e76]; exact ⟨rfl, N0, rfl⟩
def Q8 (Z : State) (v0 : Value) (h0 : Heap) (n0 : Nat) (v : Option Value) (h : Heap) (L : List Loc) : Prop := v = some v0 ∧ Fr n0 L ∧ h = h0
theorem ef_rm8 (m : MethodId) (x0 : Addr) : entryFrame m #[(.ref x0)] 1 = mkF m 0 #[.val (.ref x0)] [] := by first | (simp [entryFrame, mkF, argsToLocals, Value.category]; done) | rfl
theorem d8_0 : decode prog_1_method_11_code 0 = .ok (.aload_n 0, 1) := by decide +kernel
theorem d8_1 : decode prog_1_method_11_code 1 = .ok (.getfield 22, 3) := by decide +kernel
theorem d8_4 : decode prog_1_method_11_code 4 = .ok (.areturn, 1) := by decide +kernel
set_option maxRecDepth 65536 in
set_option maxHeartbeats 40000000 in
theorem rm8 (l : Launch) (Z : State) (a0 : Array Value) (hw : ∀ d ∈ tables_1, d.before a0 Z = true) (ws : List Jvm.Cond) (r0 : Addr) (v0 : Value) (h0 : Heap) (n0 : Nat) (Z0 : n0 ≤ h0.size) (Ff : Fld Z h0 r0 "com/example/layered_mocks/layeredmocks/Answer" "result" "Ljava/lang/Object;" v0) (i_v0 : v0.isRef = true) :
    MetFree l (⟨"com/example/layered_mocks/layeredmocks/Answer", "result", "()Ljava/lang/Object;"⟩ : MethodName) (head1 (Jvm.Cond.code (⟨"com/example/layered_mocks/layeredmocks/Answer", "result", "()Ljava/lang/Object;"⟩ : MethodName) prog_1_method_11_code 1 (some (.object "java/lang/Object")) :: ws) ({ frames := 0, cells := 0, slots := 0, locals := 0 } : Room)) (fun aX UX => aX = #[(.ref r0)] ∧ Z.Warmed39 UX.vm ∧ UX.heap = h0) (fun _ _ _ _ _ => True) (fun _ UX oX UX' => ∃ vX LX, oX = .returned vX ∧ Q8 Z v0 h0 n0 vX UX'.heap LX ∧ FrameEnd UX oX UX' LX ({ frames := 0, cells := 0, slots := 0, locals := 0 } : Room).cells ({ frames := 0, cells := 0, slots := 0, locals := 0 } : Room).slots) := by
  refine MetFree.of_bodySF (plainFor_of_name pn_com_example_layered_mocks_layeredmocks_Answer) hisR ?_
  intro p e s m args below meth c s₁ Bd hml0 hP hK
  obtain ⟨rfl, hZ, hh⟩ := hP
  have hx := Bd.exec
  have hby := Bd.bytes
  have hml : c.maxLocals = 1 := hml0
  have hown : s.vm.findClass "com/example/layered_mocks/layeredmocks/Answer" = some m.cls := findClass_of_methodNamed Bd.named
  have hnm := (name_of_methodNamed Bd.named Bd.method).1
  have X0 : Stand p l e ({ frames := 0, cells := 0, slots := 0, locals := 0 } : Room) s m #[(.ref r0)] below meth c s₁ [] 0 0 := Stand.of_body Bd
  have e0 : s₁.heap = h0 := by rw [← hh, Bd.state]; rfl
  have N0 := Fr.nil n0
  show own_Comes p e below s ({ frames := 0, cells := 0, slots := 0, locals := 0 } : Room).cells ({ frames := 0, cells := 0, slots := 0, locals := 0 } : Room).slots (Q8 Z v0 h0 n0) _
  rw [show entryFrame m #[(.ref r0)] 1 = mkF m 0 #[.val (.ref r0)] [] from ef_rm8 m r0]
  show own_Comes p e below s _ _ _ (s₁.setTop (mkF m 0 #[.val (.ref r0)] []))
  refine own_by (fun _ kS => XS.aloadN X0.here hx rfl (hb hby d8_0) rfl rfl kS) ?_
  show own_Comes p e below s _ _ _ (s₁.setTop (mkF m 1 #[.val (.ref r0)] [(.ref r0)]))
  obtain ⟨T77, X77, e77, st77⟩ := getF X0 hx hZ hown (host := "") (Or.inl (hw _ (List.mem_of_getElem? (i := 33) rfl))) Via.refl e0 Ff (g := (mkF m 1 #[.val (.ref r0)] [(.ref r0)])) rfl rfl (hb hby d8_1)
  refine own_by st77 ?_
  show own_Comes p e below s _ _ _ (T77.setTop (mkF m 4 #[.val (.ref r0)] [v0]))
  refine own_ret X77 (v := some v0) (fun h => by rw [Bd.returns] at h; cases h) Bd.notSynchronized (by decide) (by decide) ?_ (fun fs hr => own_reta X77 hx Bd.returns rfl i_v0 (hb hby d8_4) hr)
  rw [e77]; exact ⟨rfl, N0, rfl⟩
def Q9 (Z : State) (v0 : Value) (h0 : Heap) (n0 : Nat) (v : Option Value) (h : Heap) (L : List Loc) : Prop := v = some v0 ∧ Fr n0 L ∧ h = h0
theorem ef_rm9 (m : MethodId) (x0 : Addr) : entryFrame m #[(.ref x0)] 1 = mkF m 0 #[.val (.ref x0)] [] := by first | (simp [entryFrame, mkF, argsToLocals, Value.category]; done) | rfl
theorem d9_0 : decode prog_1_method_12_code 0 = .ok (.aload_n 0, 1) := by decide +kernel
theorem d9_1 : decode prog_1_method_12_code 1 = .ok (.getfield 26, 3) := by decide +kernel
theorem d9_4 : decode prog_1_method_12_code 4 = .ok (.areturn, 1) := by decide +kernel
set_option maxRecDepth 65536 in
set_option maxHeartbeats 40000000 in
theorem rm9 (l : Launch) (Z : State) (a0 : Array Value) (hw : ∀ d ∈ tables_1, d.before a0 Z = true) (ws : List Jvm.Cond) (r0 : Addr) (v0 : Value) (h0 : Heap) (n0 : Nat) (Z0 : n0 ≤ h0.size) (Ff : Fld Z h0 r0 "com/example/layered_mocks/layeredmocks/Answer" "failure" "Ljava/lang/Throwable;" v0) (i_v0 : v0.isRef = true) :
    MetFree l (⟨"com/example/layered_mocks/layeredmocks/Answer", "failure", "()Ljava/lang/Throwable;"⟩ : MethodName) (head1 (Jvm.Cond.code (⟨"com/example/layered_mocks/layeredmocks/Answer", "failure", "()Ljava/lang/Throwable;"⟩ : MethodName) prog_1_method_12_code 1 (some (.object "java/lang/Throwable")) :: ws) ({ frames := 0, cells := 0, slots := 0, locals := 0 } : Room)) (fun aX UX => aX = #[(.ref r0)] ∧ Z.Warmed39 UX.vm ∧ UX.heap = h0) (fun _ _ _ _ _ => True) (fun _ UX oX UX' => ∃ vX LX, oX = .returned vX ∧ Q9 Z v0 h0 n0 vX UX'.heap LX ∧ FrameEnd UX oX UX' LX ({ frames := 0, cells := 0, slots := 0, locals := 0 } : Room).cells ({ frames := 0, cells := 0, slots := 0, locals := 0 } : Room).slots) := by
  refine MetFree.of_bodySF (plainFor_of_name pn_com_example_layered_mocks_layeredmocks_Answer) hisR ?_
  intro p e s m args below meth c s₁ Bd hml0 hP hK
  obtain ⟨rfl, hZ, hh⟩ := hP
  have hx := Bd.exec
  have hby := Bd.bytes
  have hml : c.maxLocals = 1 := hml0
  have hown : s.vm.findClass "com/example/layered_mocks/layeredmocks/Answer" = some m.cls := findClass_of_methodNamed Bd.named
  have hnm := (name_of_methodNamed Bd.named Bd.method).1
  have X0 : Stand p l e ({ frames := 0, cells := 0, slots := 0, locals := 0 } : Room) s m #[(.ref r0)] below meth c s₁ [] 0 0 := Stand.of_body Bd
  have e0 : s₁.heap = h0 := by rw [← hh, Bd.state]; rfl
  have N0 := Fr.nil n0
  show own_Comes p e below s ({ frames := 0, cells := 0, slots := 0, locals := 0 } : Room).cells ({ frames := 0, cells := 0, slots := 0, locals := 0 } : Room).slots (Q9 Z v0 h0 n0) _
  rw [show entryFrame m #[(.ref r0)] 1 = mkF m 0 #[.val (.ref r0)] [] from ef_rm9 m r0]
  show own_Comes p e below s _ _ _ (s₁.setTop (mkF m 0 #[.val (.ref r0)] []))
  refine own_by (fun _ kS => XS.aloadN X0.here hx rfl (hb hby d9_0) rfl rfl kS) ?_
  show own_Comes p e below s _ _ _ (s₁.setTop (mkF m 1 #[.val (.ref r0)] [(.ref r0)]))
  obtain ⟨T78, X78, e78, st78⟩ := getF X0 hx hZ hown (host := "") (Or.inl (hw _ (List.mem_of_getElem? (i := 35) rfl))) Via.refl e0 Ff (g := (mkF m 1 #[.val (.ref r0)] [(.ref r0)])) rfl rfl (hb hby d9_1)
  refine own_by st78 ?_
  show own_Comes p e below s _ _ _ (T78.setTop (mkF m 4 #[.val (.ref r0)] [v0]))
  refine own_ret X78 (v := some v0) (fun h => by rw [Bd.returns] at h; cases h) Bd.notSynchronized (by decide) (by decide) ?_ (fun fs hr => own_reta X78 hx Bd.returns rfl i_v0 (hb hby d9_4) hr)
  rw [e78]; exact ⟨rfl, N0, rfl⟩
def Q10 (Z : State) (v0 : Value) (h0 : Heap) (n0 : Nat) (v : Option Value) (h : Heap) (L : List Loc) : Prop := v = some v0 ∧ Fr n0 L ∧ h = h0
theorem ef_rm10 (m : MethodId) (x0 : Addr) : entryFrame m #[(.ref x0)] 1 = mkF m 0 #[.val (.ref x0)] [] := by first | (simp [entryFrame, mkF, argsToLocals, Value.category]; done) | rfl
theorem d10_0 : decode prog_1_method_14_code 0 = .ok (.aload_n 0, 1) := by decide +kernel
theorem d10_1 : decode prog_1_method_14_code 1 = .ok (.getfield 44, 3) := by decide +kernel
theorem d10_4 : decode prog_1_method_14_code 4 = .ok (.areturn, 1) := by decide +kernel
set_option maxRecDepth 65536 in
set_option maxHeartbeats 40000000 in
theorem rm10 (l : Launch) (Z : State) (a0 : Array Value) (hw : ∀ d ∈ tables_1, d.before a0 Z = true) (ws : List Jvm.Cond) (r0 : Addr) (v0 : Value) (h0 : Heap) (n0 : Nat) (Z0 : n0 ≤ h0.size) (Ff : Fld Z h0 r0 "com/example/layered_mocks/layeredmocks/Answer" "delay" "Ljava/time/Duration;" v0) (i_v0 : v0.isRef = true) :
    MetFree l (⟨"com/example/layered_mocks/layeredmocks/Answer", "delay", "()Ljava/time/Duration;"⟩ : MethodName) (head1 (Jvm.Cond.code (⟨"com/example/layered_mocks/layeredmocks/Answer", "delay", "()Ljava/time/Duration;"⟩ : MethodName) prog_1_method_14_code 1 (some (.object "java/time/Duration")) :: ws) ({ frames := 0, cells := 0, slots := 0, locals := 0 } : Room)) (fun aX UX => aX = #[(.ref r0)] ∧ Z.Warmed39 UX.vm ∧ UX.heap = h0) (fun _ _ _ _ _ => True) (fun _ UX oX UX' => ∃ vX LX, oX = .returned vX ∧ Q10 Z v0 h0 n0 vX UX'.heap LX ∧ FrameEnd UX oX UX' LX ({ frames := 0, cells := 0, slots := 0, locals := 0 } : Room).cells ({ frames := 0, cells := 0, slots := 0, locals := 0 } : Room).slots) := by
  refine MetFree.of_bodySF (plainFor_of_name pn_com_example_layered_mocks_layeredmocks_Answer) hisR ?_
  intro p e s m args below meth c s₁ Bd hml0 hP hK
  obtain ⟨rfl, hZ, hh⟩ := hP
  have hx := Bd.exec
  have hby := Bd.bytes
  have hml : c.maxLocals = 1 := hml0
  have hown : s.vm.findClass "com/example/layered_mocks/layeredmocks/Answer" = some m.cls := findClass_of_methodNamed Bd.named
  have hnm := (name_of_methodNamed Bd.named Bd.method).1
  have X0 : Stand p l e ({ frames := 0, cells := 0, slots := 0, locals := 0 } : Room) s m #[(.ref r0)] below meth c s₁ [] 0 0 := Stand.of_body Bd
  have e0 : s₁.heap = h0 := by rw [← hh, Bd.state]; rfl
  have N0 := Fr.nil n0
  show own_Comes p e below s ({ frames := 0, cells := 0, slots := 0, locals := 0 } : Room).cells ({ frames := 0, cells := 0, slots := 0, locals := 0 } : Room).slots (Q10 Z v0 h0 n0) _
  rw [show entryFrame m #[(.ref r0)] 1 = mkF m 0 #[.val (.ref r0)] [] from ef_rm10 m r0]
  show own_Comes p e below s _ _ _ (s₁.setTop (mkF m 0 #[.val (.ref r0)] []))
  refine own_by (fun _ kS => XS.aloadN X0.here hx rfl (hb hby d10_0) rfl rfl kS) ?_
  show own_Comes p e below s _ _ _ (s₁.setTop (mkF m 1 #[.val (.ref r0)] [(.ref r0)]))
  obtain ⟨T79, X79, e79, st79⟩ := getF X0 hx hZ hown (host := "") (Or.inl (hw _ (List.mem_of_getElem? (i := 45) rfl))) Via.refl e0 Ff (g := (mkF m 1 #[.val (.ref r0)] [(.ref r0)])) rfl rfl (hb hby d10_1)
  refine own_by st79 ?_
  show own_Comes p e below s _ _ _ (T79.setTop (mkF m 4 #[.val (.ref r0)] [v0]))
  refine own_ret X79 (v := some v0) (fun h => by rw [Bd.returns] at h; cases h) Bd.notSynchronized (by decide) (by decide) ?_ (fun fs hr => own_reta X79 hx Bd.returns rfl i_v0 (hb hby d10_4) hr)
  rw [e79]; exact ⟨rfl, N0, rfl⟩
def Q19 (Z : State) (x0 : Int32) (h0 : Heap) (n0 : Nat) (v : Option Value) (h : Heap) (L : List Loc) : Prop := v = some (.int x0) ∧ Fr n0 L ∧ h = h0
theorem ef_rm19 (m : MethodId) (x0 : Addr) : entryFrame m #[(.ref x0)] 1 = mkF m 0 #[.val (.ref x0)] [] := by first | (simp [entryFrame, mkF, argsToLocals, Value.category]; done) | rfl
theorem d19_0 : decode jdk_33_method_27_code 0 = .ok (.aload_n 0, 1) := by decide +kernel
theorem d19_1 : decode jdk_33_method_27_code 1 = .ok (.getfield 205, 3) := by decide +kernel
theorem d19_4 : decode jdk_33_method_27_code 4 = .ok (.ireturn, 1) := by decide +kernel
set_option maxRecDepth 65536 in
set_option maxHeartbeats 40000000 in
theorem rm19 (l : Launch) (Z : State) (a0 : Array Value) (hw : ∀ d ∈ tables_1, d.before a0 Z = true) (ws : List Jvm.Cond) (r0 : Addr) (x0 : Int32) (h0 : Heap) (n0 : Nat) (Z0 : n0 ≤ h0.size) (Ff : Fld Z h0 r0 "java/lang/Integer" "value" "I" (.int x0)) :
    MetFree l (⟨"java/lang/Integer", "intValue", "()I"⟩ : MethodName) (head1 (Jvm.Cond.code (⟨"java/lang/Integer", "intValue", "()I"⟩ : MethodName) jdk_33_method_27_code 1 (some .int) :: ws) ({ frames := 0, cells := 0, slots := 0, locals := 0 } : Room)) (fun aX UX => aX = #[(.ref r0)] ∧ Z.Warmed39 UX.vm ∧ UX.heap = h0) (fun _ _ _ _ _ => True) (fun _ UX oX UX' => ∃ vX LX, oX = .returned vX ∧ Q19 Z x0 h0 n0 vX UX'.heap LX ∧ FrameEnd UX oX UX' LX ({ frames := 0, cells := 0, slots := 0, locals := 0 } : Room).cells ({ frames := 0, cells := 0, slots := 0, locals := 0 } : Room).slots) := by
  refine MetFree.of_bodySF (plainFor_of_name pn_java_lang_Integer) hisR ?_
  intro p e s m args below meth c s₁ Bd hml0 hP hK
  obtain ⟨rfl, hZ, hh⟩ := hP
  have hx := Bd.exec
  have hby := Bd.bytes
  have hml : c.maxLocals = 1 := hml0
  have hown : s.vm.findClass "java/lang/Integer" = some m.cls := findClass_of_methodNamed Bd.named
  have hnm := (name_of_methodNamed Bd.named Bd.method).1
  have X0 : Stand p l e ({ frames := 0, cells := 0, slots := 0, locals := 0 } : Room) s m #[(.ref r0)] below meth c s₁ [] 0 0 := Stand.of_body Bd
  have e0 : s₁.heap = h0 := by rw [← hh, Bd.state]; rfl
  have N0 := Fr.nil n0
  show own_Comes p e below s ({ frames := 0, cells := 0, slots := 0, locals := 0 } : Room).cells ({ frames := 0, cells := 0, slots := 0, locals := 0 } : Room).slots (Q19 Z x0 h0 n0) _
  rw [show entryFrame m #[(.ref r0)] 1 = mkF m 0 #[.val (.ref r0)] [] from ef_rm19 m r0]
  show own_Comes p e below s _ _ _ (s₁.setTop (mkF m 0 #[.val (.ref r0)] []))
  refine own_by (fun _ kS => XS.aloadN X0.here hx rfl (hb hby d19_0) rfl rfl kS) ?_
  show own_Comes p e below s _ _ _ (s₁.setTop (mkF m 1 #[.val (.ref r0)] [(.ref r0)]))
  obtain ⟨T80, X80, e80, st80⟩ := getF X0 hx hZ hown (host := "") (Or.inl (hw _ (List.mem_of_getElem? (i := 116) rfl))) Via.refl e0 Ff (g := (mkF m 1 #[.val (.ref r0)] [(.ref r0)])) rfl rfl (hb hby d19_1)
  refine own_by st80 ?_
  show own_Comes p e below s _ _ _ (T80.setTop (mkF m 4 #[.val (.ref r0)] [(.int x0)]))
  refine own_ret X80 (v := some (.int x0)) (fun h => by rw [Bd.returns] at h; cases h) Bd.notSynchronized (by decide) (by decide) ?_ (fun fs hr => retI X80 hx Bd.returns (hb hby d19_4) hr)
  rw [e80]; exact ⟨rfl, N0, rfl⟩
def Q18 (Z : State) (x0 x1 : Int32) (h0 : Heap) (n0 : Nat) (v : Option Value) (h : Heap) (L : List Loc) : Prop := ∃ z : Int32, v = some (.int z) ∧ Fr n0 L ∧ h = h0 ∧ ((z = 1 ∧ x0 = x1) ∨ (z = 0 ∧ ¬ x0 = x1))
theorem ef_rm18 (m : MethodId) (x0 : Addr) (x1 : Addr) : entryFrame m #[(.ref x0), (.ref x1)] 2 = mkF m 0 #[.val (.ref x0), .val (.ref x1)] [] := by first | (simp [entryFrame, mkF, argsToLocals, Value.category]; done) | rfl
theorem d18_0 : decode jdk_33_method_34_code 0 = .ok (.aload_n 1, 1) := by decide +kernel
theorem d18_1 : decode jdk_33_method_34_code 1 = .ok (.instanceof 1, 3) := by decide +kernel
theorem d18_4 : decode jdk_33_method_34_code 4 = .ok (.ifCond .eq 23, 3) := by decide +kernel
theorem d18_7 : decode jdk_33_method_34_code 7 = .ok (.aload_n 0, 1) := by decide +kernel
theorem d18_8 : decode jdk_33_method_34_code 8 = .ok (.getfield 205, 3) := by decide +kernel
theorem d18_11 : decode jdk_33_method_34_code 11 = .ok (.aload_n 1, 1) := by decide +kernel
theorem d18_12 : decode jdk_33_method_34_code 12 = .ok (.checkcast 1, 3) := by decide +kernel
theorem pd___I_154 : parseMethodDescriptor "()I" = some ⟨[], some .int⟩ := by decide +kernel
theorem d18_15 : decode jdk_33_method_34_code 15 = .ok (.invokevirtual 211, 3) := by decide +kernel
theorem d18_18 : decode jdk_33_method_34_code 18 = .ok (.if_icmp .ne 7, 3) := by decide +kernel
theorem d18_21 : decode jdk_33_method_34_code 21 = .ok (.iconst 1, 1) := by decide +kernel
theorem d18_22 : decode jdk_33_method_34_code 22 = .ok (.goto 4, 3) := by decide +kernel
theorem d18_26 : decode jdk_33_method_34_code 26 = .ok (.ireturn, 1) := by decide +kernel
theorem d18_25 : decode jdk_33_method_34_code 25 = .ok (.iconst 0, 1) := by decide +kernel
set_option maxRecDepth 65536 in
set_option maxHeartbeats 40000000 in
theorem rm18 (l : Launch) (Z : State) (a0 : Array Value) (hw : ∀ d ∈ tables_1, d.before a0 Z = true) (ws : List Jvm.Cond) (r0 r1 : Addr) (x0 x1 : Int32) (h0 : Heap) (n0 : Nat) (Z0 : n0 ≤ h0.size) (E1 : Exa Z h0 r1 "java/lang/Integer") (F0 : Fld Z h0 r0 "java/lang/Integer" "value" "I" (.int x0)) (F1 : Fld Z h0 r1 "java/lang/Integer" "value" "I" (.int x1)) :
    MetFree l (⟨"java/lang/Integer", "equals", "(Ljava/lang/Object;)Z"⟩ : MethodName) (head1 (Jvm.Cond.code (⟨"java/lang/Integer", "equals", "(Ljava/lang/Object;)Z"⟩ : MethodName) jdk_33_method_34_code 2 (some .boolean) :: ws) ({ frames := 1, cells := 0, slots := 0, locals := 13 } : Room)) (fun aX UX => aX = #[(.ref r0), (.ref r1)] ∧ Z.Warmed39 UX.vm ∧ UX.heap = h0) (fun _ _ _ _ _ => True) (fun _ UX oX UX' => ∃ vX LX, oX = .returned vX ∧ Q18 Z x0 x1 h0 n0 vX UX'.heap LX ∧ FrameEnd UX oX UX' LX ({ frames := 1, cells := 0, slots := 0, locals := 13 } : Room).cells ({ frames := 1, cells := 0, slots := 0, locals := 13 } : Room).slots) := by
  refine MetFree.of_bodySF (plainFor_of_name pn_java_lang_Integer) hisR ?_
  intro p e s m args below meth c s₁ Bd hml0 hP hK
  obtain ⟨rfl, hZ, hh⟩ := hP
  have hx := Bd.exec
  have hby := Bd.bytes
  have hml : c.maxLocals = 2 := hml0
  have hown : s.vm.findClass "java/lang/Integer" = some m.cls := findClass_of_methodNamed Bd.named
  have hnm := (name_of_methodNamed Bd.named Bd.method).1
  have X0 : Stand p l e ({ frames := 1, cells := 0, slots := 0, locals := 13 } : Room) s m #[(.ref r0), (.ref r1)] below meth c s₁ [] 0 0 := Stand.of_body Bd
  have e0 : s₁.heap = h0 := by rw [← hh, Bd.state]; rfl
  have N0 := Fr.nil n0
  show own_Comes p e below s ({ frames := 1, cells := 0, slots := 0, locals := 13 } : Room).cells ({ frames := 1, cells := 0, slots := 0, locals := 13 } : Room).slots (Q18 Z x0 x1 h0 n0) _
  rw [show entryFrame m #[(.ref r0), (.ref r1)] 2 = mkF m 0 #[.val (.ref r0), .val (.ref r1)] [] from ef_rm18 m r0 r1]
  show own_Comes p e below s _ _ _ (s₁.setTop (mkF m 0 #[.val (.ref r0), .val (.ref r1)] []))
  refine own_by (fun _ kS => XS.aloadN X0.here hx rfl (hb hby d18_0) rfl rfl kS) ?_
  show own_Comes p e below s _ _ _ (s₁.setTop (mkF m 1 #[.val (.ref r0), .val (.ref r1)] [(.ref r1)]))
  obtain ⟨T81, X81, e81, st81⟩ := instY X0 hx hZ hown (hw _ (List.mem_of_getElem? (i := 108) rfl)) e0 (Ins.self E1) (g := (mkF m 1 #[.val (.ref r0), .val (.ref r1)] [(.ref r1)])) rfl rfl (hb hby d18_1)
  refine own_by st81 ?_
  show own_Comes p e below s _ _ _ (T81.setTop (mkF m 4 #[.val (.ref r0), .val (.ref r1)] [(.int (1 : Int32))]))
  have hb82 : ¬ ((1 : Int32) = (0 : Int32)) := by decide
  refine own_by (fun _ kS => XS.ifNo X81.here hx rfl (hb hby d18_4) rfl ((if0 _ _).trans (feq hb82).1) kS) ?_
  show own_Comes p e below s _ _ _ (T81.setTop (mkF m 7 #[.val (.ref r0), .val (.ref r1)] []))
  refine own_by (fun _ kS => XS.aloadN X81.here hx rfl (hb hby d18_7) rfl rfl kS) ?_
  show own_Comes p e below s _ _ _ (T81.setTop (mkF m 8 #[.val (.ref r0), .val (.ref r1)] [(.ref r0)]))
  obtain ⟨T83, X83, e83, st83⟩ := getF X81 hx hZ hown (host := "") (Or.inl (hw _ (List.mem_of_getElem? (i := 116) rfl))) Via.refl e81 F0 (g := (mkF m 8 #[.val (.ref r0), .val (.ref r1)] [(.ref r0)])) rfl rfl (hb hby d18_8)
  refine own_by st83 ?_
  show own_Comes p e below s _ _ _ (T83.setTop (mkF m 11 #[.val (.ref r0), .val (.ref r1)] [(.int x0)]))
  refine own_by (fun _ kS => XS.aloadN X83.here hx rfl (hb hby d18_11) rfl rfl kS) ?_
  show own_Comes p e below s _ _ _ (T83.setTop (mkF m 12 #[.val (.ref r0), .val (.ref r1)] [(.ref r1), (.int x0)]))
  obtain ⟨T84, X84, e84, st84⟩ := castY X83 hx hZ hown (hw _ (List.mem_of_getElem? (i := 108) rfl)) e83 (Ins.self E1) (g := (mkF m 12 #[.val (.ref r0), .val (.ref r1)] [(.ref r1), (.int x0)])) rfl rfl (hb hby d18_12)
  refine own_by st84 ?_
  show own_Comes p e below s _ _ _ (T84.setTop (mkF m 15 #[.val (.ref r0), .val (.ref r1)] [(.ref r1), (.int x0)]))
  obtain ⟨cq85, kq85, q85a, q85b, q85c⟩ := isOf hZ e84 E1
  obtain ⟨_, _, ⟨T85, L85, k85, n85⟩, -, X85, ⟨Lc85, hQ85, l85, y85, z85⟩, st85⟩ := X84.virtualBack hx (y := (⟨"java/lang/Integer", "intValue", "()I"⟩ : MethodName)) (z := (⟨"java/lang/Integer", "intValue", "()I"⟩ : MethodName)) hown (mvT hZ (hw _ (List.mem_of_getElem? (i := 121) rfl))) (mvT hZ (hw _ (List.mem_of_getElem? (i := 122) rfl))) (notFace_of_selects (args := #[]) (mvT hZ (hw _ (List.mem_of_getElem? (i := 124) rfl)))) (mvT hZ (hw _ (List.mem_of_getElem? (i := 124) rfl))) (mvT hZ (hw _ (List.mem_of_getElem? (i := 123) rfl))) (by decide) (backOf (W := 1) (rm19 l Z a0 hw [] r1 x1 h0 n0 Z0 F1) hZ (hw _ (List.mem_of_getElem? (i := 125) rfl)) (hw _ (List.mem_of_getElem? (i := 2) rfl)) (by decide) (by decide)) q85a q85c (g := (mkF m 15 #[.val (.ref r0), .val (.ref r1)] [(.ref r1), (.int x0)])) rfl (by rw [hml]; rfl) (Steps.refl _) (argsL := []) (rest := [(.int x0)]) (lenOf pd___I_154 rfl) rfl (by show 2 * 0 + _ ≤ _; exact Nat.le_of_eq rfl) (hb hby d18_15) (fun _ _ => ⟨rfl, e84, (by decide : 0 + 0 ≤ _), (by decide : 0 + 0 ≤ _)⟩)
  dsimp only [Pt.U, Pt.locs, Pt.cells, Pt.slots] at X85 l85 y85 z85 st85 hQ85
  subst l85 y85 z85
  obtain ⟨rfl, N85q, e85q⟩ := hQ85
  have N85 := Fr.app N0 N85q
  refine own_tr st85 ?_
  have e85 : T85.heap = h0 := e85q
  show own_Comes p e below s _ _ _ (T85.setTop (mkF m 18 #[.val (.ref r0), .val (.ref r1)] [(.int x1), (.int x0)]))
  by_cases hx01 : x0 = x1
  · refine own_by (fun _ kS => XS.icmpNo X85.here hx rfl (hb hby d18_18) rfl (teq hx01).2 kS) ?_
    show own_Comes p e below s _ _ _ (T85.setTop (mkF m 21 #[.val (.ref r0), .val (.ref r1)] []))
    refine own_by (fun _ kS => XS.iconst X85.here hx rfl (hb hby d18_21) kS) ?_
    show own_Comes p e below s _ _ _ (T85.setTop (mkF m 22 #[.val (.ref r0), .val (.ref r1)] [(.int (1 : Int32))]))
    refine own_by (fun _ kS => XS.goto X85.here hx rfl (pc0 := 22) (pc' := 26) rfl (hb hby d18_22) (by decide) (by decide) kS) ?_
    show own_Comes p e below s _ _ _ (T85.setTop (mkF m 26 #[.val (.ref r0), .val (.ref r1)] [(.int (1 : Int32))]))
    refine own_ret X85 (v := some (.int (1 : Int32))) (fun h => by rw [Bd.returns] at h; cases h) Bd.notSynchronized (by decide) (by decide) ?_ (fun fs hr => retN X85 hx (t := .boolean) Bd.returns (by simp) (hb hby d18_26) hr)
    rw [e85]; exact ⟨_, rfl, N85, rfl, Or.inl ⟨rfl, hx01⟩⟩
  · refine own_by (fun _ kS => XS.icmpYes X85.here hx rfl (pc0 := 18) (pc' := 25) rfl (hb hby d18_18) rfl (feq hx01).2 (by decide) (by decide) kS) ?_
    show own_Comes p e below s _ _ _ (T85.setTop (mkF m 25 #[.val (.ref r0), .val (.ref r1)] []))
    refine own_by (fun _ kS => XS.iconst X85.here hx rfl (hb hby d18_25) kS) ?_
    show own_Comes p e below s _ _ _ (T85.setTop (mkF m 26 #[.val (.ref r0), .val (.ref r1)] [(.int (0 : Int32))]))
    refine own_ret X85 (v := some (.int (0 : Int32))) (fun h => by rw [Bd.returns] at h; cases h) Bd.notSynchronized (by decide) (by decide) ?_ (fun fs hr => retN X85 hx (t := .boolean) Bd.returns (by simp) (hb hby d18_26) hr)
    rw [e85]; exact ⟨_, rfl, N85, rfl, Or.inr ⟨rfl, hx01⟩⟩
def Q16 (Z : State) (h0 : Heap) (n0 : Nat) (v : Option Value) (h : Heap) (L : List Loc) : Prop := v = some (.int (0 : Int32)) ∧ Fr n0 L ∧ h = h0
theorem ef_rm16 (m : MethodId) (x0 : Addr) (x1 : Addr) : entryFrame m #[(.ref x0), (.ref x1)] 2 = mkF m 0 #[.val (.ref x0), .val (.ref x1)] [] := by first | (simp [entryFrame, mkF, argsToLocals, Value.category]; done) | rfl
theorem d16_0 : decode jdk_35_method_37_code 0 = .ok (.aload_n 1, 1) := by decide +kernel
theorem d16_1 : decode jdk_35_method_37_code 1 = .ok (.instanceof 1, 3) := by decide +kernel
theorem d16_4 : decode jdk_35_method_37_code 4 = .ok (.ifCond .eq 24, 3) := by decide +kernel
theorem d16_28 : decode jdk_35_method_37_code 28 = .ok (.iconst 0, 1) := by decide +kernel
theorem d16_29 : decode jdk_35_method_37_code 29 = .ok (.ireturn, 1) := by decide +kernel
set_option maxRecDepth 65536 in
set_option maxHeartbeats 40000000 in
theorem rm16 (l : Launch) (Z : State) (a0 : Array Value) (hw : ∀ d ∈ tables_1, d.before a0 Z = true) (ws : List Jvm.Cond) (r0 r1 : Addr) (h0 : Heap) (n0 : Nat) (Z0 : n0 ≤ h0.size) (E1 : Exa Z h0 r1 "java/lang/Integer") :
    MetFree l (⟨"java/lang/Long", "equals", "(Ljava/lang/Object;)Z"⟩ : MethodName) (head1 (Jvm.Cond.code (⟨"java/lang/Long", "equals", "(Ljava/lang/Object;)Z"⟩ : MethodName) jdk_35_method_37_code 2 (some .boolean) :: ws) ({ frames := 0, cells := 0, slots := 0, locals := 0 } : Room)) (fun aX UX => aX = #[(.ref r0), (.ref r1)] ∧ Z.Warmed39 UX.vm ∧ UX.heap = h0) (fun _ _ _ _ _ => True) (fun _ UX oX UX' => ∃ vX LX, oX = .returned vX ∧ Q16 Z  h0 n0 vX UX'.heap LX ∧ FrameEnd UX oX UX' LX ({ frames := 0, cells := 0, slots := 0, locals := 0 } : Room).cells ({ frames := 0, cells := 0, slots := 0, locals := 0 } : Room).slots) := by
  refine MetFree.of_bodySF (plainFor_of_name pn_java_lang_Long) hisR ?_
  intro p e s m args below meth c s₁ Bd hml0 hP hK
  obtain ⟨rfl, hZ, hh⟩ := hP
  have hx := Bd.exec
  have hby := Bd.bytes
  have hml : c.maxLocals = 2 := hml0
  have hown : s.vm.findClass "java/lang/Long" = some m.cls := findClass_of_methodNamed Bd.named
  have hnm := (name_of_methodNamed Bd.named Bd.method).1
  have X0 : Stand p l e ({ frames := 0, cells := 0, slots := 0, locals := 0 } : Room) s m #[(.ref r0), (.ref r1)] below meth c s₁ [] 0 0 := Stand.of_body Bd
  have e0 : s₁.heap = h0 := by rw [← hh, Bd.state]; rfl
  have N0 := Fr.nil n0
  show own_Comes p e below s ({ frames := 0, cells := 0, slots := 0, locals := 0 } : Room).cells ({ frames := 0, cells := 0, slots := 0, locals := 0 } : Room).slots (Q16 Z  h0 n0) _
  rw [show entryFrame m #[(.ref r0), (.ref r1)] 2 = mkF m 0 #[.val (.ref r0), .val (.ref r1)] [] from ef_rm16 m r0 r1]
  show own_Comes p e below s _ _ _ (s₁.setTop (mkF m 0 #[.val (.ref r0), .val (.ref r1)] []))
  refine own_by (fun _ kS => XS.aloadN X0.here hx rfl (hb hby d16_0) rfl rfl kS) ?_
  show own_Comes p e below s _ _ _ (s₁.setTop (mkF m 1 #[.val (.ref r0), .val (.ref r1)] [(.ref r1)]))
  obtain ⟨T86, X86, e86, st86⟩ := instNo X0 hx hZ hown (hw _ (List.mem_of_getElem? (i := 84) rfl)) e0 E1 (own_nosub (hw _ (List.mem_of_getElem? (i := 105) rfl)) (hw _ (List.mem_of_getElem? (i := 106) rfl)) (hw _ (List.mem_of_getElem? (i := 107) rfl)) (hw _ (List.mem_of_getElem? (i := 85) rfl)) (by decide) (by decide) (by decide)) (g := (mkF m 1 #[.val (.ref r0), .val (.ref r1)] [(.ref r1)])) rfl rfl (hb hby d16_1)
  refine own_by st86 ?_
  show own_Comes p e below s _ _ _ (T86.setTop (mkF m 4 #[.val (.ref r0), .val (.ref r1)] [(.int (0 : Int32))]))
  have hb87 : (0 : Int32) = (0 : Int32) := by decide
  refine own_by (fun _ kS => XS.ifYes X86.here hx rfl (pc0 := 4) (pc' := 28) rfl (hb hby d16_4) rfl ((if0 _ _).trans (teq hb87).1) (by decide) (by decide) kS) ?_
  show own_Comes p e below s _ _ _ (T86.setTop (mkF m 28 #[.val (.ref r0), .val (.ref r1)] []))
  refine own_by (fun _ kS => XS.iconst X86.here hx rfl (hb hby d16_28) kS) ?_
  show own_Comes p e below s _ _ _ (T86.setTop (mkF m 29 #[.val (.ref r0), .val (.ref r1)] [(.int (0 : Int32))]))
  refine own_ret X86 (v := some (.int (0 : Int32))) (fun h => by rw [Bd.returns] at h; cases h) Bd.notSynchronized (by decide) (by decide) ?_ (fun fs hr => retN X86 hx (t := .boolean) Bd.returns (by simp) (hb hby d16_29) hr)
  rw [e86]; exact ⟨rfl, N0, rfl⟩
def Q25 (Z : State) (h0 : Heap) (n0 : Nat) (v : Option Value) (h : Heap) (L : List Loc) : Prop := v = some (.int (0 : Int32)) ∧ Fr n0 L ∧ h = h0
theorem ef_rm25 (m : MethodId) (x0 : Addr) (x1 : Addr) : entryFrame m #[(.ref x0), (.ref x1)] 3 = mkF m 0 #[.val (.ref x0), .val (.ref x1), .unset] [] := by first | (simp [entryFrame, mkF, argsToLocals, Value.category]; done) | rfl
theorem pn_java_lang_String : plainName "java/lang/String" = true := by first | (simp [plainName, overriddenIn]; done) | decide +kernel
theorem d25_0 : decode jdk_42_method_66_code 0 = .ok (.aload_n 0, 1) := by decide +kernel
theorem d25_1 : decode jdk_42_method_66_code 1 = .ok (.aload_n 1, 1) := by decide +kernel
theorem d25_2 : decode jdk_42_method_66_code 2 = .ok (.if_acmp .ne 5, 3) := by decide +kernel
theorem d25_7 : decode jdk_42_method_66_code 7 = .ok (.aload_n 1, 1) := by decide +kernel
theorem d25_8 : decode jdk_42_method_66_code 8 = .ok (.instanceof 10, 3) := by decide +kernel
theorem d25_11 : decode jdk_42_method_66_code 11 = .ok (.ifCond .eq 43, 3) := by decide +kernel
theorem d25_54 : decode jdk_42_method_66_code 54 = .ok (.iconst 0, 1) := by decide +kernel
theorem d25_55 : decode jdk_42_method_66_code 55 = .ok (.ireturn, 1) := by decide +kernel
set_option maxRecDepth 65536 in
set_option maxHeartbeats 40000000 in
theorem rm25 (l : Launch) (Z : State) (a0 : Array Value) (hw : ∀ d ∈ tables_1, d.before a0 Z = true) (ws : List Jvm.Cond) (r0 r1 : Addr) (h0 : Heap) (n0 : Nat) (Z0 : n0 ≤ h0.size) (E0 : Exa Z h0 r0 "java/lang/String") (E1 : Exa Z h0 r1 "java/lang/Integer") :
    MetFree l (⟨"java/lang/String", "equals", "(Ljava/lang/Object;)Z"⟩ : MethodName) (head1 (Jvm.Cond.code (⟨"java/lang/String", "equals", "(Ljava/lang/Object;)Z"⟩ : MethodName) jdk_42_method_66_code 3 (some .boolean) :: ws) ({ frames := 0, cells := 0, slots := 0, locals := 0 } : Room)) (fun aX UX => aX = #[(.ref r0), (.ref r1)] ∧ Z.Warmed39 UX.vm ∧ UX.heap = h0) (fun _ _ _ _ _ => True) (fun _ UX oX UX' => ∃ vX LX, oX = .returned vX ∧ Q25 Z  h0 n0 vX UX'.heap LX ∧ FrameEnd UX oX UX' LX ({ frames := 0, cells := 0, slots := 0, locals := 0 } : Room).cells ({ frames := 0, cells := 0, slots := 0, locals := 0 } : Room).slots) := by
  refine MetFree.of_bodySF (plainFor_of_name pn_java_lang_String) hisR ?_
  intro p e s m args below meth c s₁ Bd hml0 hP hK
  obtain ⟨rfl, hZ, hh⟩ := hP
  have hx := Bd.exec
  have hby := Bd.bytes
  have hml : c.maxLocals = 3 := hml0
  have hown : s.vm.findClass "java/lang/String" = some m.cls := findClass_of_methodNamed Bd.named
  have hnm := (name_of_methodNamed Bd.named Bd.method).1
  have X0 : Stand p l e ({ frames := 0, cells := 0, slots := 0, locals := 0 } : Room) s m #[(.ref r0), (.ref r1)] below meth c s₁ [] 0 0 := Stand.of_body Bd
  have e0 : s₁.heap = h0 := by rw [← hh, Bd.state]; rfl
  have N0 := Fr.nil n0
  show own_Comes p e below s ({ frames := 0, cells := 0, slots := 0, locals := 0 } : Room).cells ({ frames := 0, cells := 0, slots := 0, locals := 0 } : Room).slots (Q25 Z  h0 n0) _
  rw [show entryFrame m #[(.ref r0), (.ref r1)] 3 = mkF m 0 #[.val (.ref r0), .val (.ref r1), .unset] [] from ef_rm25 m r0 r1]
  show own_Comes p e below s _ _ _ (s₁.setTop (mkF m 0 #[.val (.ref r0), .val (.ref r1), .unset] []))
  refine own_by (fun _ kS => XS.aloadN X0.here hx rfl (hb hby d25_0) rfl rfl kS) ?_
  show own_Comes p e below s _ _ _ (s₁.setTop (mkF m 1 #[.val (.ref r0), .val (.ref r1), .unset] [(.ref r0)]))
  refine own_by (fun _ kS => XS.aloadN X0.here hx rfl (hb hby d25_1) rfl rfl kS) ?_
  show own_Comes p e below s _ _ _ (s₁.setTop (mkF m 2 #[.val (.ref r0), .val (.ref r1), .unset] [(.ref r1), (.ref r0)]))
  refine own_by (fun _ kS => Jvm.RoadKit.acmp (g := (mkF m 2 #[.val (.ref r0), .val (.ref r1), .unset] [(.ref r1), (.ref r0)])) X0 hx rfl rfl rfl (pc0 := 2) (pc' := 7) (same := false) rfl (hb hby d25_2) rfl (decide_eq_false fun q => (ne_exa E0 E1 (by decide)) (Value.ref.inj q)) (by decide) (by decide) kS) ?_
  show own_Comes p e below s _ _ _ (s₁.setTop (mkF m 7 #[.val (.ref r0), .val (.ref r1), .unset] []))
  refine own_by (fun _ kS => XS.aloadN X0.here hx rfl (hb hby d25_7) rfl rfl kS) ?_
  show own_Comes p e below s _ _ _ (s₁.setTop (mkF m 8 #[.val (.ref r0), .val (.ref r1), .unset] [(.ref r1)]))
  obtain ⟨T88, X88, e88, st88⟩ := instNo X0 hx hZ hown (hw _ (List.mem_of_getElem? (i := 157) rfl)) e0 E1 (own_nosub (hw _ (List.mem_of_getElem? (i := 105) rfl)) (hw _ (List.mem_of_getElem? (i := 106) rfl)) (hw _ (List.mem_of_getElem? (i := 107) rfl)) (hw _ (List.mem_of_getElem? (i := 128) rfl)) (by decide) (by decide) (by decide)) (g := (mkF m 8 #[.val (.ref r0), .val (.ref r1), .unset] [(.ref r1)])) rfl rfl (hb hby d25_8)
  refine own_by st88 ?_
  show own_Comes p e below s _ _ _ (T88.setTop (mkF m 11 #[.val (.ref r0), .val (.ref r1), .unset] [(.int (0 : Int32))]))
  have hb89 : (0 : Int32) = (0 : Int32) := by decide
  refine own_by (fun _ kS => XS.ifYes X88.here hx rfl (pc0 := 11) (pc' := 54) rfl (hb hby d25_11) rfl ((if0 _ _).trans (teq hb89).1) (by decide) (by decide) kS) ?_
  show own_Comes p e below s _ _ _ (T88.setTop (mkF m 54 #[.val (.ref r0), .val (.ref r1), .unset] []))
  refine own_by (fun _ kS => XS.iconst X88.here hx rfl (hb hby d25_54) kS) ?_
  show own_Comes p e below s _ _ _ (T88.setTop (mkF m 55 #[.val (.ref r0), .val (.ref r1), .unset] [(.int (0 : Int32))]))
  refine own_ret X88 (v := some (.int (0 : Int32))) (fun h => by rw [Bd.returns] at h; cases h) Bd.notSynchronized (by decide) (by decide) ?_ (fun fs hr => retN X88 hx (t := .boolean) Bd.returns (by simp) (hb hby d25_55) hr)
  rw [e88]; exact ⟨rfl, N0, rfl⟩
def Q12nn (Z : State)  (h0 : Heap) (n0 : Nat) (v : Option Value) (h : Heap) (L : List Loc) : Prop := v = some (.int (1 : Int32)) ∧ Fr n0 L ∧ h = h0
theorem ef_rm12nn (m : MethodId)  : entryFrame m #[.null, .null] 2 = mkF m 0 #[.val .null, .val .null] [] := by first | (simp [entryFrame, mkF, argsToLocals, Value.category]; done) | rfl
theorem pn_java_util_Objects : plainName "java/util/Objects" = true := by first | (simp [plainName, overriddenIn]; done) | decide +kernel
theorem d12_0 : decode jdk_31_method_2_code 0 = .ok (.aload_n 0, 1) := by decide +kernel
theorem d12_1 : decode jdk_31_method_2_code 1 = .ok (.aload_n 1, 1) := by decide +kernel
theorem d12_2 : decode jdk_31_method_2_code 2 = .ok (.if_acmp .eq 15, 3) := by decide +kernel
theorem d12_17 : decode jdk_31_method_2_code 17 = .ok (.iconst 1, 1) := by decide +kernel
theorem d12_18 : decode jdk_31_method_2_code 18 = .ok (.goto 4, 3) := by decide +kernel
theorem d12_22 : decode jdk_31_method_2_code 22 = .ok (.ireturn, 1) := by decide +kernel
set_option maxRecDepth 65536 in
set_option maxHeartbeats 40000000 in
theorem rm12nn (l : Launch) (Z : State) (a0 : Array Value) (hw : ∀ d ∈ tables_1, d.before a0 Z = true) (ws : List Jvm.Cond)  (h0 : Heap) (n0 : Nat) (Z0 : n0 ≤ h0.size) :
    MetFree l (⟨"java/util/Objects", "equals", "(Ljava/lang/Object;Ljava/lang/Object;)Z"⟩ : MethodName) (head1 (Jvm.Cond.code (⟨"java/util/Objects", "equals", "(Ljava/lang/Object;Ljava/lang/Object;)Z"⟩ : MethodName) jdk_31_method_2_code 2 (some .boolean) :: ws) ({ frames := 0, cells := 0, slots := 0, locals := 0 } : Room)) (fun aX UX => aX = #[.null, .null] ∧ Z.Warmed39 UX.vm ∧ UX.heap = h0) (fun _ _ _ _ _ => True) (fun _ UX oX UX' => ∃ vX LX, oX = .returned vX ∧ Q12nn Z  h0 n0 vX UX'.heap LX ∧ FrameEnd UX oX UX' LX ({ frames := 0, cells := 0, slots := 0, locals := 0 } : Room).cells ({ frames := 0, cells := 0, slots := 0, locals := 0 } : Room).slots) := by
  refine MetFree.of_bodySF (plainFor_of_name pn_java_util_Objects) hisR ?_
  intro p e s m args below meth c s₁ Bd hml0 hP hK
  obtain ⟨rfl, hZ, hh⟩ := hP
  have hx := Bd.exec
  have hby := Bd.bytes
  have hml : c.maxLocals = 2 := hml0
  have hown : s.vm.findClass "java/util/Objects" = some m.cls := findClass_of_methodNamed Bd.named
  have hnm := (name_of_methodNamed Bd.named Bd.method).1
  have X0 : Stand p l e ({ frames := 0, cells := 0, slots := 0, locals := 0 } : Room) s m #[.null, .null] below meth c s₁ [] 0 0 := Stand.of_body Bd
  have e0 : s₁.heap = h0 := by rw [← hh, Bd.state]; rfl
  have N0 := Fr.nil n0
  show own_Comes p e below s ({ frames := 0, cells := 0, slots := 0, locals := 0 } : Room).cells ({ frames := 0, cells := 0, slots := 0, locals := 0 } : Room).slots (Q12nn Z  h0 n0) _
  rw [show entryFrame m #[.null, .null] 2 = mkF m 0 #[.val .null, .val .null] [] from ef_rm12nn m ]
  show own_Comes p e below s _ _ _ (s₁.setTop (mkF m 0 #[.val .null, .val .null] []))
  refine own_by (fun _ kS => XS.aloadN X0.here hx rfl (hb hby d12_0) rfl rfl kS) ?_
  show own_Comes p e below s _ _ _ (s₁.setTop (mkF m 1 #[.val .null, .val .null] [.null]))
  refine own_by (fun _ kS => XS.aloadN X0.here hx rfl (hb hby d12_1) rfl rfl kS) ?_
  show own_Comes p e below s _ _ _ (s₁.setTop (mkF m 2 #[.val .null, .val .null] [.null, .null]))
  refine own_by (fun _ kS => Jvm.RoadKit.acmp (g := (mkF m 2 #[.val .null, .val .null] [.null, .null])) X0 hx rfl rfl rfl (pc0 := 2) (pc' := 17) (same := true) rfl (hb hby d12_2) rfl (decide_eq_true rfl) (by decide) (by decide) kS) ?_
  show own_Comes p e below s _ _ _ (s₁.setTop (mkF m 17 #[.val .null, .val .null] []))
  refine own_by (fun _ kS => XS.iconst X0.here hx rfl (hb hby d12_17) kS) ?_
  show own_Comes p e below s _ _ _ (s₁.setTop (mkF m 18 #[.val .null, .val .null] [(.int (1 : Int32))]))
  refine own_by (fun _ kS => XS.goto X0.here hx rfl (pc0 := 18) (pc' := 22) rfl (hb hby d12_18) (by decide) (by decide) kS) ?_
  show own_Comes p e below s _ _ _ (s₁.setTop (mkF m 22 #[.val .null, .val .null] [(.int (1 : Int32))]))
  refine own_ret X0 (v := some (.int (1 : Int32))) (fun h => by rw [Bd.returns] at h; cases h) Bd.notSynchronized (by decide) (by decide) ?_ (fun fs hr => retN X0 hx (t := .boolean) Bd.returns (by simp) (hb hby d12_22) hr)
  rw [e0]; exact ⟨rfl, N0, rfl⟩
def Q12nr (Z : State)  (h0 : Heap) (n0 : Nat) (v : Option Value) (h : Heap) (L : List Loc) : Prop := v = some (.int (0 : Int32)) ∧ Fr n0 L ∧ h = h0
theorem ef_rm12nr (m : MethodId) (x1 : Addr) : entryFrame m #[.null, (.ref x1)] 2 = mkF m 0 #[.val .null, .val (.ref x1)] [] := by first | (simp [entryFrame, mkF, argsToLocals, Value.category]; done) | rfl
theorem d12_5 : decode jdk_31_method_2_code 5 = .ok (.aload_n 0, 1) := by decide +kernel
theorem d12_6 : decode jdk_31_method_2_code 6 = .ok (.ifnull 15, 3) := by decide +kernel
theorem d12_21 : decode jdk_31_method_2_code 21 = .ok (.iconst 0, 1) := by decide +kernel
set_option maxRecDepth 65536 in
set_option maxHeartbeats 40000000 in
theorem rm12nr (l : Launch) (Z : State) (a0 : Array Value) (hw : ∀ d ∈ tables_1, d.before a0 Z = true) (ws : List Jvm.Cond) (r1 : Addr) (h0 : Heap) (n0 : Nat) (Z0 : n0 ≤ h0.size) :
    MetFree l (⟨"java/util/Objects", "equals", "(Ljava/lang/Object;Ljava/lang/Object;)Z"⟩ : MethodName) (head1 (Jvm.Cond.code (⟨"java/util/Objects", "equals", "(Ljava/lang/Object;Ljava/lang/Object;)Z"⟩ : MethodName) jdk_31_method_2_code 2 (some .boolean) :: ws) ({ frames := 0, cells := 0, slots := 0, locals := 0 } : Room)) (fun aX UX => aX = #[.null, (.ref r1)] ∧ Z.Warmed39 UX.vm ∧ UX.heap = h0) (fun _ _ _ _ _ => True) (fun _ UX oX UX' => ∃ vX LX, oX = .returned vX ∧ Q12nr Z  h0 n0 vX UX'.heap LX ∧ FrameEnd UX oX UX' LX ({ frames := 0, cells := 0, slots := 0, locals := 0 } : Room).cells ({ frames := 0, cells := 0, slots := 0, locals := 0 } : Room).slots) := by
  refine MetFree.of_bodySF (plainFor_of_name pn_java_util_Objects) hisR ?_
  intro p e s m args below meth c s₁ Bd hml0 hP hK
  obtain ⟨rfl, hZ, hh⟩ := hP
  have hx := Bd.exec
  have hby := Bd.bytes
  have hml : c.maxLocals = 2 := hml0
  have hown : s.vm.findClass "java/util/Objects" = some m.cls := findClass_of_methodNamed Bd.named
  have hnm := (name_of_methodNamed Bd.named Bd.method).1
  have X0 : Stand p l e ({ frames := 0, cells := 0, slots := 0, locals := 0 } : Room) s m #[.null, (.ref r1)] below meth c s₁ [] 0 0 := Stand.of_body Bd
  have e0 : s₁.heap = h0 := by rw [← hh, Bd.state]; rfl
  have N0 := Fr.nil n0
  show own_Comes p e below s ({ frames := 0, cells := 0, slots := 0, locals := 0 } : Room).cells ({ frames := 0, cells := 0, slots := 0, locals := 0 } : Room).slots (Q12nr Z  h0 n0) _
  rw [show entryFrame m #[.null, (.ref r1)] 2 = mkF m 0 #[.val .null, .val (.ref r1)] [] from ef_rm12nr m r1]
  show own_Comes p e below s _ _ _ (s₁.setTop (mkF m 0 #[.val .null, .val (.ref r1)] []))
  refine own_by (fun _ kS => XS.aloadN X0.here hx rfl (hb hby d12_0) rfl rfl kS) ?_
  show own_Comes p e below s _ _ _ (s₁.setTop (mkF m 1 #[.val .null, .val (.ref r1)] [.null]))
  refine own_by (fun _ kS => XS.aloadN X0.here hx rfl (hb hby d12_1) rfl rfl kS) ?_
  show own_Comes p e below s _ _ _ (s₁.setTop (mkF m 2 #[.val .null, .val (.ref r1)] [(.ref r1), .null]))
  refine own_by (fun _ kS => Jvm.RoadKit.acmp (g := (mkF m 2 #[.val .null, .val (.ref r1)] [(.ref r1), .null])) X0 hx rfl rfl rfl (pc0 := 2) (pc' := 5) (same := false) rfl (hb hby d12_2) rfl (decide_eq_false nofun) (by decide) (by decide) kS) ?_
  show own_Comes p e below s _ _ _ (s₁.setTop (mkF m 5 #[.val .null, .val (.ref r1)] []))
  refine own_by (fun _ kS => XS.aloadN X0.here hx rfl (hb hby d12_5) rfl rfl kS) ?_
  show own_Comes p e below s _ _ _ (s₁.setTop (mkF m 6 #[.val .null, .val (.ref r1)] [.null]))
  refine own_by (fun _ kS => XS.ifnullYes X0.here hx rfl (pc0 := 6) (pc' := 21) rfl (hb hby d12_6) rfl (by decide) (by decide) kS) ?_
  show own_Comes p e below s _ _ _ (s₁.setTop (mkF m 21 #[.val .null, .val (.ref r1)] []))
  refine own_by (fun _ kS => XS.iconst X0.here hx rfl (hb hby d12_21) kS) ?_
  show own_Comes p e below s _ _ _ (s₁.setTop (mkF m 22 #[.val .null, .val (.ref r1)] [(.int (0 : Int32))]))
  refine own_ret X0 (v := some (.int (0 : Int32))) (fun h => by rw [Bd.returns] at h; cases h) Bd.notSynchronized (by decide) (by decide) ?_ (fun fs hr => retN X0 hx (t := .boolean) Bd.returns (by simp) (hb hby d12_22) hr)
  rw [e0]; exact ⟨rfl, N0, rfl⟩
def Q12i (Z : State) (x0 x1 : Int32) (h0 : Heap) (n0 : Nat) (v : Option Value) (h : Heap) (L : List Loc) : Prop := ∃ z : Int32, v = some (.int z) ∧ Fr n0 L ∧ h = h0 ∧ ((z = 1 ∧ x0 = x1) ∨ (z = 0 ∧ ¬ x0 = x1))
theorem ef_rm12i (m : MethodId) (x0 : Addr) (x1 : Addr) : entryFrame m #[(.ref x0), (.ref x1)] 2 = mkF m 0 #[.val (.ref x0), .val (.ref x1)] [] := by first | (simp [entryFrame, mkF, argsToLocals, Value.category]; done) | rfl
theorem d12_9 : decode jdk_31_method_2_code 9 = .ok (.aload_n 0, 1) := by decide +kernel
theorem d12_10 : decode jdk_31_method_2_code 10 = .ok (.aload_n 1, 1) := by decide +kernel
theorem pd__Ljava_lang_Object__Z_838 : parseMethodDescriptor "(Ljava/lang/Object;)Z" = some ⟨[(.object "java/lang/Object")], some .boolean⟩ := by decide +kernel
theorem d12_11 : decode jdk_31_method_2_code 11 = .ok (.invokevirtual 14, 3) := by decide +kernel
theorem d12_14 : decode jdk_31_method_2_code 14 = .ok (.ifCond .eq 7, 3) := by decide +kernel
set_option maxRecDepth 65536 in
set_option maxHeartbeats 40000000 in
theorem rm12i (l : Launch) (Z : State) (a0 : Array Value) (hw : ∀ d ∈ tables_1, d.before a0 Z = true) (ws : List Jvm.Cond) (r0 r1 : Addr) (x0 x1 : Int32) (h0 : Heap) (n0 : Nat) (Z0 : n0 ≤ h0.size) (E0 : Exa Z h0 r0 "java/lang/Integer") (F0 : Fld Z h0 r0 "java/lang/Integer" "value" "I" (.int x0)) (E1 : Exa Z h0 r1 "java/lang/Integer") (F1 : Fld Z h0 r1 "java/lang/Integer" "value" "I" (.int x1)) :
    MetFree l (⟨"java/util/Objects", "equals", "(Ljava/lang/Object;Ljava/lang/Object;)Z"⟩ : MethodName) (head1 (Jvm.Cond.code (⟨"java/util/Objects", "equals", "(Ljava/lang/Object;Ljava/lang/Object;)Z"⟩ : MethodName) jdk_31_method_2_code 2 (some .boolean) :: ws) ({ frames := 2, cells := 0, slots := 0, locals := 26 } : Room)) (fun aX UX => aX = #[(.ref r0), (.ref r1)] ∧ Z.Warmed39 UX.vm ∧ UX.heap = h0) (fun _ _ _ _ _ => True) (fun _ UX oX UX' => ∃ vX LX, oX = .returned vX ∧ Q12i Z x0 x1 h0 n0 vX UX'.heap LX ∧ FrameEnd UX oX UX' LX ({ frames := 2, cells := 0, slots := 0, locals := 26 } : Room).cells ({ frames := 2, cells := 0, slots := 0, locals := 26 } : Room).slots) := by
  refine MetFree.of_bodySF (plainFor_of_name pn_java_util_Objects) hisR ?_
  intro p e s m args below meth c s₁ Bd hml0 hP hK
  obtain ⟨rfl, hZ, hh⟩ := hP
  have hx := Bd.exec
  have hby := Bd.bytes
  have hml : c.maxLocals = 2 := hml0
  have hown : s.vm.findClass "java/util/Objects" = some m.cls := findClass_of_methodNamed Bd.named
  have hnm := (name_of_methodNamed Bd.named Bd.method).1
  have X0 : Stand p l e ({ frames := 2, cells := 0, slots := 0, locals := 26 } : Room) s m #[(.ref r0), (.ref r1)] below meth c s₁ [] 0 0 := Stand.of_body Bd
  have e0 : s₁.heap = h0 := by rw [← hh, Bd.state]; rfl
  have N0 := Fr.nil n0
  show own_Comes p e below s ({ frames := 2, cells := 0, slots := 0, locals := 26 } : Room).cells ({ frames := 2, cells := 0, slots := 0, locals := 26 } : Room).slots (Q12i Z x0 x1 h0 n0) _
  rw [show entryFrame m #[(.ref r0), (.ref r1)] 2 = mkF m 0 #[.val (.ref r0), .val (.ref r1)] [] from ef_rm12i m r0 r1]
  show own_Comes p e below s _ _ _ (s₁.setTop (mkF m 0 #[.val (.ref r0), .val (.ref r1)] []))
  refine own_by (fun _ kS => XS.aloadN X0.here hx rfl (hb hby d12_0) rfl rfl kS) ?_
  show own_Comes p e below s _ _ _ (s₁.setTop (mkF m 1 #[.val (.ref r0), .val (.ref r1)] [(.ref r0)]))
  refine own_by (fun _ kS => XS.aloadN X0.here hx rfl (hb hby d12_1) rfl rfl kS) ?_
  show own_Comes p e below s _ _ _ (s₁.setTop (mkF m 2 #[.val (.ref r0), .val (.ref r1)] [(.ref r1), (.ref r0)]))
  by_cases ha : r0 = r1
  · refine own_by (fun _ kS => Jvm.RoadKit.acmp (g := (mkF m 2 #[.val (.ref r0), .val (.ref r1)] [(.ref r1), (.ref r0)])) X0 hx rfl rfl rfl (pc0 := 2) (pc' := 17) (same := true) rfl (hb hby d12_2) rfl (decide_eq_true (congrArg Value.ref ha)) (by decide) (by decide) kS) ?_
    show own_Comes p e below s _ _ _ (s₁.setTop (mkF m 17 #[.val (.ref r0), .val (.ref r1)] []))
    refine own_by (fun _ kS => XS.iconst X0.here hx rfl (hb hby d12_17) kS) ?_
    show own_Comes p e below s _ _ _ (s₁.setTop (mkF m 18 #[.val (.ref r0), .val (.ref r1)] [(.int (1 : Int32))]))
    refine own_by (fun _ kS => XS.goto X0.here hx rfl (pc0 := 18) (pc' := 22) rfl (hb hby d12_18) (by decide) (by decide) kS) ?_
    show own_Comes p e below s _ _ _ (s₁.setTop (mkF m 22 #[.val (.ref r0), .val (.ref r1)] [(.int (1 : Int32))]))
    have hxx : x0 = x1 := by
      by_cases q : x0 = x1
      · exact q
      · exact absurd ha (Fld.ne F0 F1 (fun e => q (Value.int.inj e)))
    refine own_ret X0 (v := some (.int (1 : Int32))) (fun h => by rw [Bd.returns] at h; cases h) Bd.notSynchronized (by decide) (by decide) ?_ (fun fs hr => retN X0 hx (t := .boolean) Bd.returns (by simp) (hb hby d12_22) hr)
    rw [e0]; exact ⟨_, rfl, N0, rfl, Or.inl ⟨rfl, hxx⟩⟩
  · refine own_by (fun _ kS => Jvm.RoadKit.acmp (g := (mkF m 2 #[.val (.ref r0), .val (.ref r1)] [(.ref r1), (.ref r0)])) X0 hx rfl rfl rfl (pc0 := 2) (pc' := 5) (same := false) rfl (hb hby d12_2) rfl (decide_eq_false fun q => ha (Value.ref.inj q)) (by decide) (by decide) kS) ?_
    show own_Comes p e below s _ _ _ (s₁.setTop (mkF m 5 #[.val (.ref r0), .val (.ref r1)] []))
    refine own_by (fun _ kS => XS.aloadN X0.here hx rfl (hb hby d12_5) rfl rfl kS) ?_
    show own_Comes p e below s _ _ _ (s₁.setTop (mkF m 6 #[.val (.ref r0), .val (.ref r1)] [(.ref r0)]))
    refine own_by (fun _ kS => XS.ifnullNo X0.here hx rfl (hb hby d12_6) rfl kS) ?_
    show own_Comes p e below s _ _ _ (s₁.setTop (mkF m 9 #[.val (.ref r0), .val (.ref r1)] []))
    refine own_by (fun _ kS => XS.aloadN X0.here hx rfl (hb hby d12_9) rfl rfl kS) ?_
    show own_Comes p e below s _ _ _ (s₁.setTop (mkF m 10 #[.val (.ref r0), .val (.ref r1)] [(.ref r0)]))
    refine own_by (fun _ kS => XS.aloadN X0.here hx rfl (hb hby d12_10) rfl rfl kS) ?_
    show own_Comes p e below s _ _ _ (s₁.setTop (mkF m 11 #[.val (.ref r0), .val (.ref r1)] [(.ref r1), (.ref r0)]))
    obtain ⟨cq90, kq90, q90a, q90b, q90c⟩ := isOf hZ e0 E0
    obtain ⟨_, _, ⟨T90, L90, k90, n90⟩, -, X90, ⟨Lc90, hQ90, l90, y90, z90⟩, st90⟩ := X0.virtualBack hx (y := (⟨"java/lang/Object", "equals", "(Ljava/lang/Object;)Z"⟩ : MethodName)) (z := (⟨"java/lang/Integer", "equals", "(Ljava/lang/Object;)Z"⟩ : MethodName)) hown (mvT hZ (hw _ (List.mem_of_getElem? (i := 99) rfl))) (mvT hZ (hw _ (List.mem_of_getElem? (i := 100) rfl))) (nf_top (args := #[]) (mvT hZ (hw _ (List.mem_of_getElem? (i := 107) rfl)))) (mvT hZ (hw _ (List.mem_of_getElem? (i := 118) rfl))) (mvT hZ (hw _ (List.mem_of_getElem? (i := 119) rfl))) (by decide) (backOf (W := 0) (rm18 l Z a0 hw [] r0 r1 x0 x1 h0 n0 Z0 E1 F0 F1) hZ (hw _ (List.mem_of_getElem? (i := 120) rfl)) (hw _ (List.mem_of_getElem? (i := 2) rfl)) (by decide) (by decide)) q90a q90c (g := (mkF m 11 #[.val (.ref r0), .val (.ref r1)] [(.ref r1), (.ref r0)])) rfl (by rw [hml]; rfl) (Steps.refl _) (argsL := [(.ref r1)]) (rest := []) (lenOf pd__Ljava_lang_Object__Z_838 rfl) rfl (by show 2 * 0 + _ ≤ _; exact Nat.le_of_eq rfl) (hb hby d12_11) (fun _ _ => ⟨rfl, e0, (by decide : 0 + 0 ≤ _), (by decide : 0 + 0 ≤ _)⟩)
    dsimp only [Pt.U, Pt.locs, Pt.cells, Pt.slots] at X90 l90 y90 z90 st90 hQ90
    subst l90 y90 z90
    obtain ⟨z90, rfl, N90q, e90q, hz90⟩ := hQ90
    have N90 := Fr.app N0 N90q
    refine own_tr st90 ?_
    have e90 : T90.heap = h0 := e90q
    show own_Comes p e below s _ _ _ (T90.setTop (mkF m 14 #[.val (.ref r0), .val (.ref r1)] [(.int z90)]))
    by_cases hq : z90 = (0 : Int32)
    · refine own_by (fun _ kS => XS.ifYes X90.here hx rfl (pc0 := 14) (pc' := 21) rfl (hb hby d12_14) rfl ((if0 _ _).trans (teq hq).1) (by decide) (by decide) kS) ?_
      show own_Comes p e below s _ _ _ (T90.setTop (mkF m 21 #[.val (.ref r0), .val (.ref r1)] []))
      refine own_by (fun _ kS => XS.iconst X90.here hx rfl (hb hby d12_21) kS) ?_
      show own_Comes p e below s _ _ _ (T90.setTop (mkF m 22 #[.val (.ref r0), .val (.ref r1)] [(.int (0 : Int32))]))
      have hne : ¬ x0 = x1 := hz90.elim (fun q => absurd (q.1.symm.trans hq) (by decide)) (fun q => q.2)
      refine own_ret X90 (v := some (.int (0 : Int32))) (fun h => by rw [Bd.returns] at h; cases h) Bd.notSynchronized (by decide) (by decide) ?_ (fun fs hr => retN X90 hx (t := .boolean) Bd.returns (by simp) (hb hby d12_22) hr)
      rw [e90]; exact ⟨_, rfl, N90, rfl, Or.inr ⟨rfl, hne⟩⟩
    · refine own_by (fun _ kS => XS.ifNo X90.here hx rfl (hb hby d12_14) rfl ((if0 _ _).trans (feq hq).1) kS) ?_
      show own_Comes p e below s _ _ _ (T90.setTop (mkF m 17 #[.val (.ref r0), .val (.ref r1)] []))
      refine own_by (fun _ kS => XS.iconst X90.here hx rfl (hb hby d12_17) kS) ?_
      show own_Comes p e below s _ _ _ (T90.setTop (mkF m 18 #[.val (.ref r0), .val (.ref r1)] [(.int (1 : Int32))]))
      refine own_by (fun _ kS => XS.goto X90.here hx rfl (pc0 := 18) (pc' := 22) rfl (hb hby d12_18) (by decide) (by decide) kS) ?_
      show own_Comes p e below s _ _ _ (T90.setTop (mkF m 22 #[.val (.ref r0), .val (.ref r1)] [(.int (1 : Int32))]))
      have heq : x0 = x1 := hz90.elim (fun q => q.2) (fun q => absurd q.1 hq)
      refine own_ret X90 (v := some (.int (1 : Int32))) (fun h => by rw [Bd.returns] at h; cases h) Bd.notSynchronized (by decide) (by decide) ?_ (fun fs hr => retN X90 hx (t := .boolean) Bd.returns (by simp) (hb hby d12_22) hr)
      rw [e90]; exact ⟨_, rfl, N90, rfl, Or.inl ⟨rfl, heq⟩⟩
def Q12l (Z : State)  (h0 : Heap) (n0 : Nat) (v : Option Value) (h : Heap) (L : List Loc) : Prop := v = some (.int (0 : Int32)) ∧ Fr n0 L ∧ h = h0
theorem ef_rm12l (m : MethodId) (x0 : Addr) (x1 : Addr) : entryFrame m #[(.ref x0), (.ref x1)] 2 = mkF m 0 #[.val (.ref x0), .val (.ref x1)] [] := by first | (simp [entryFrame, mkF, argsToLocals, Value.category]; done) | rfl
set_option maxRecDepth 65536 in
set_option maxHeartbeats 40000000 in
theorem rm12l (l : Launch) (Z : State) (a0 : Array Value) (hw : ∀ d ∈ tables_1, d.before a0 Z = true) (ws : List Jvm.Cond) (r0 r1 : Addr) (h0 : Heap) (n0 : Nat) (Z0 : n0 ≤ h0.size) (E0 : Exa Z h0 r0 "java/lang/Long") (E1 : Exa Z h0 r1 "java/lang/Integer") :
    MetFree l (⟨"java/util/Objects", "equals", "(Ljava/lang/Object;Ljava/lang/Object;)Z"⟩ : MethodName) (head1 (Jvm.Cond.code (⟨"java/util/Objects", "equals", "(Ljava/lang/Object;Ljava/lang/Object;)Z"⟩ : MethodName) jdk_31_method_2_code 2 (some .boolean) :: ws) ({ frames := 1, cells := 0, slots := 0, locals := 13 } : Room)) (fun aX UX => aX = #[(.ref r0), (.ref r1)] ∧ Z.Warmed39 UX.vm ∧ UX.heap = h0) (fun _ _ _ _ _ => True) (fun _ UX oX UX' => ∃ vX LX, oX = .returned vX ∧ Q12l Z  h0 n0 vX UX'.heap LX ∧ FrameEnd UX oX UX' LX ({ frames := 1, cells := 0, slots := 0, locals := 13 } : Room).cells ({ frames := 1, cells := 0, slots := 0, locals := 13 } : Room).slots) := by
  refine MetFree.of_bodySF (plainFor_of_name pn_java_util_Objects) hisR ?_
  intro p e s m args below meth c s₁ Bd hml0 hP hK
  obtain ⟨rfl, hZ, hh⟩ := hP
  have hx := Bd.exec
  have hby := Bd.bytes
  have hml : c.maxLocals = 2 := hml0
  have hown : s.vm.findClass "java/util/Objects" = some m.cls := findClass_of_methodNamed Bd.named
  have hnm := (name_of_methodNamed Bd.named Bd.method).1
  have X0 : Stand p l e ({ frames := 1, cells := 0, slots := 0, locals := 13 } : Room) s m #[(.ref r0), (.ref r1)] below meth c s₁ [] 0 0 := Stand.of_body Bd
  have e0 : s₁.heap = h0 := by rw [← hh, Bd.state]; rfl
  have N0 := Fr.nil n0
  show own_Comes p e below s ({ frames := 1, cells := 0, slots := 0, locals := 13 } : Room).cells ({ frames := 1, cells := 0, slots := 0, locals := 13 } : Room).slots (Q12l Z  h0 n0) _
  rw [show entryFrame m #[(.ref r0), (.ref r1)] 2 = mkF m 0 #[.val (.ref r0), .val (.ref r1)] [] from ef_rm12l m r0 r1]
  show own_Comes p e below s _ _ _ (s₁.setTop (mkF m 0 #[.val (.ref r0), .val (.ref r1)] []))
  refine own_by (fun _ kS => XS.aloadN X0.here hx rfl (hb hby d12_0) rfl rfl kS) ?_
  show own_Comes p e below s _ _ _ (s₁.setTop (mkF m 1 #[.val (.ref r0), .val (.ref r1)] [(.ref r0)]))
  refine own_by (fun _ kS => XS.aloadN X0.here hx rfl (hb hby d12_1) rfl rfl kS) ?_
  show own_Comes p e below s _ _ _ (s₁.setTop (mkF m 2 #[.val (.ref r0), .val (.ref r1)] [(.ref r1), (.ref r0)]))
  refine own_by (fun _ kS => Jvm.RoadKit.acmp (g := (mkF m 2 #[.val (.ref r0), .val (.ref r1)] [(.ref r1), (.ref r0)])) X0 hx rfl rfl rfl (pc0 := 2) (pc' := 5) (same := false) rfl (hb hby d12_2) rfl (decide_eq_false fun q => (ne_exa E0 E1 (by decide)) (Value.ref.inj q)) (by decide) (by decide) kS) ?_
  show own_Comes p e below s _ _ _ (s₁.setTop (mkF m 5 #[.val (.ref r0), .val (.ref r1)] []))
  refine own_by (fun _ kS => XS.aloadN X0.here hx rfl (hb hby d12_5) rfl rfl kS) ?_
  show own_Comes p e below s _ _ _ (s₁.setTop (mkF m 6 #[.val (.ref r0), .val (.ref r1)] [(.ref r0)]))
  refine own_by (fun _ kS => XS.ifnullNo X0.here hx rfl (hb hby d12_6) rfl kS) ?_
  show own_Comes p e below s _ _ _ (s₁.setTop (mkF m 9 #[.val (.ref r0), .val (.ref r1)] []))
  refine own_by (fun _ kS => XS.aloadN X0.here hx rfl (hb hby d12_9) rfl rfl kS) ?_
  show own_Comes p e below s _ _ _ (s₁.setTop (mkF m 10 #[.val (.ref r0), .val (.ref r1)] [(.ref r0)]))
  refine own_by (fun _ kS => XS.aloadN X0.here hx rfl (hb hby d12_10) rfl rfl kS) ?_
  show own_Comes p e below s _ _ _ (s₁.setTop (mkF m 11 #[.val (.ref r0), .val (.ref r1)] [(.ref r1), (.ref r0)]))
  obtain ⟨cq91, kq91, q91a, q91b, q91c⟩ := isOf hZ e0 E0
  obtain ⟨_, _, ⟨T91, L91, k91, n91⟩, -, X91, ⟨Lc91, hQ91, l91, y91, z91⟩, st91⟩ := X0.virtualBack hx (y := (⟨"java/lang/Object", "equals", "(Ljava/lang/Object;)Z"⟩ : MethodName)) (z := (⟨"java/lang/Long", "equals", "(Ljava/lang/Object;)Z"⟩ : MethodName)) hown (mvT hZ (hw _ (List.mem_of_getElem? (i := 99) rfl))) (mvT hZ (hw _ (List.mem_of_getElem? (i := 100) rfl))) (nf_top (args := #[]) (mvT hZ (hw _ (List.mem_of_getElem? (i := 107) rfl)))) (mvT hZ (hw _ (List.mem_of_getElem? (i := 102) rfl))) (mvT hZ (hw _ (List.mem_of_getElem? (i := 103) rfl))) (by decide) (backOf (W := 0) (rm16 l Z a0 hw [] r0 r1 h0 n0 Z0 E1) hZ (hw _ (List.mem_of_getElem? (i := 104) rfl)) (hw _ (List.mem_of_getElem? (i := 80) rfl)) (by decide) (by decide)) q91a q91c (g := (mkF m 11 #[.val (.ref r0), .val (.ref r1)] [(.ref r1), (.ref r0)])) rfl (by rw [hml]; rfl) (Steps.refl _) (argsL := [(.ref r1)]) (rest := []) (lenOf pd__Ljava_lang_Object__Z_838 rfl) rfl (by show 2 * 0 + _ ≤ _; exact Nat.le_of_eq rfl) (hb hby d12_11) (fun _ _ => ⟨rfl, e0, (by decide : 0 + 0 ≤ _), (by decide : 0 + 0 ≤ _)⟩)
  dsimp only [Pt.U, Pt.locs, Pt.cells, Pt.slots] at X91 l91 y91 z91 st91 hQ91
  subst l91 y91 z91
  obtain ⟨rfl, N91q, e91q⟩ := hQ91
  have N91 := Fr.app N0 N91q
  refine own_tr st91 ?_
  have e91 : T91.heap = h0 := e91q
  show own_Comes p e below s _ _ _ (T91.setTop (mkF m 14 #[.val (.ref r0), .val (.ref r1)] [(.int (0 : Int32))]))
  have hb92 : (0 : Int32) = (0 : Int32) := by decide
  refine own_by (fun _ kS => XS.ifYes X91.here hx rfl (pc0 := 14) (pc' := 21) rfl (hb hby d12_14) rfl ((if0 _ _).trans (teq hb92).1) (by decide) (by decide) kS) ?_
  show own_Comes p e below s _ _ _ (T91.setTop (mkF m 21 #[.val (.ref r0), .val (.ref r1)] []))
  refine own_by (fun _ kS => XS.iconst X91.here hx rfl (hb hby d12_21) kS) ?_
  show own_Comes p e below s _ _ _ (T91.setTop (mkF m 22 #[.val (.ref r0), .val (.ref r1)] [(.int (0 : Int32))]))
  refine own_ret X91 (v := some (.int (0 : Int32))) (fun h => by rw [Bd.returns] at h; cases h) Bd.notSynchronized (by decide) (by decide) ?_ (fun fs hr => retN X91 hx (t := .boolean) Bd.returns (by simp) (hb hby d12_22) hr)
  rw [e91]; exact ⟨rfl, N91, rfl⟩
def Q12s (Z : State)  (h0 : Heap) (n0 : Nat) (v : Option Value) (h : Heap) (L : List Loc) : Prop := v = some (.int (0 : Int32)) ∧ Fr n0 L ∧ h = h0
theorem ef_rm12s (m : MethodId) (x0 : Addr) (x1 : Addr) : entryFrame m #[(.ref x0), (.ref x1)] 2 = mkF m 0 #[.val (.ref x0), .val (.ref x1)] [] := by first | (simp [entryFrame, mkF, argsToLocals, Value.category]; done) | rfl
set_option maxRecDepth 65536 in
set_option maxHeartbeats 40000000 in
theorem rm12s (l : Launch) (Z : State) (a0 : Array Value) (hw : ∀ d ∈ tables_1, d.before a0 Z = true) (ws : List Jvm.Cond) (r0 r1 : Addr) (h0 : Heap) (n0 : Nat) (Z0 : n0 ≤ h0.size) (E0 : Exa Z h0 r0 "java/lang/String") (E1 : Exa Z h0 r1 "java/lang/Integer") :
    MetFree l (⟨"java/util/Objects", "equals", "(Ljava/lang/Object;Ljava/lang/Object;)Z"⟩ : MethodName) (head1 (Jvm.Cond.code (⟨"java/util/Objects", "equals", "(Ljava/lang/Object;Ljava/lang/Object;)Z"⟩ : MethodName) jdk_31_method_2_code 2 (some .boolean) :: ws) ({ frames := 1, cells := 0, slots := 0, locals := 14 } : Room)) (fun aX UX => aX = #[(.ref r0), (.ref r1)] ∧ Z.Warmed39 UX.vm ∧ UX.heap = h0) (fun _ _ _ _ _ => True) (fun _ UX oX UX' => ∃ vX LX, oX = .returned vX ∧ Q12s Z  h0 n0 vX UX'.heap LX ∧ FrameEnd UX oX UX' LX ({ frames := 1, cells := 0, slots := 0, locals := 14 } : Room).cells ({ frames := 1, cells := 0, slots := 0, locals := 14 } : Room).slots) := by
  refine MetFree.of_bodySF (plainFor_of_name pn_java_util_Objects) hisR ?_
  intro p e s m args below meth c s₁ Bd hml0 hP hK
  obtain ⟨rfl, hZ, hh⟩ := hP
  have hx := Bd.exec
  have hby := Bd.bytes
  have hml : c.maxLocals = 2 := hml0
  have hown : s.vm.findClass "java/util/Objects" = some m.cls := findClass_of_methodNamed Bd.named
  have hnm := (name_of_methodNamed Bd.named Bd.method).1
  have X0 : Stand p l e ({ frames := 1, cells := 0, slots := 0, locals := 14 } : Room) s m #[(.ref r0), (.ref r1)] below meth c s₁ [] 0 0 := Stand.of_body Bd
  have e0 : s₁.heap = h0 := by rw [← hh, Bd.state]; rfl
  have N0 := Fr.nil n0
  show own_Comes p e below s ({ frames := 1, cells := 0, slots := 0, locals := 14 } : Room).cells ({ frames := 1, cells := 0, slots := 0, locals := 14 } : Room).slots (Q12s Z  h0 n0) _
  rw [show entryFrame m #[(.ref r0), (.ref r1)] 2 = mkF m 0 #[.val (.ref r0), .val (.ref r1)] [] from ef_rm12s m r0 r1]
  show own_Comes p e below s _ _ _ (s₁.setTop (mkF m 0 #[.val (.ref r0), .val (.ref r1)] []))
  refine own_by (fun _ kS => XS.aloadN X0.here hx rfl (hb hby d12_0) rfl rfl kS) ?_
  show own_Comes p e below s _ _ _ (s₁.setTop (mkF m 1 #[.val (.ref r0), .val (.ref r1)] [(.ref r0)]))
  refine own_by (fun _ kS => XS.aloadN X0.here hx rfl (hb hby d12_1) rfl rfl kS) ?_
  show own_Comes p e below s _ _ _ (s₁.setTop (mkF m 2 #[.val (.ref r0), .val (.ref r1)] [(.ref r1), (.ref r0)]))
  refine own_by (fun _ kS => Jvm.RoadKit.acmp (g := (mkF m 2 #[.val (.ref r0), .val (.ref r1)] [(.ref r1), (.ref r0)])) X0 hx rfl rfl rfl (pc0 := 2) (pc' := 5) (same := false) rfl (hb hby d12_2) rfl (decide_eq_false fun q => (ne_exa E0 E1 (by decide)) (Value.ref.inj q)) (by decide) (by decide) kS) ?_
  show own_Comes p e below s _ _ _ (s₁.setTop (mkF m 5 #[.val (.ref r0), .val (.ref r1)] []))
  refine own_by (fun _ kS => XS.aloadN X0.here hx rfl (hb hby d12_5) rfl rfl kS) ?_
  show own_Comes p e below s _ _ _ (s₁.setTop (mkF m 6 #[.val (.ref r0), .val (.ref r1)] [(.ref r0)]))
  refine own_by (fun _ kS => XS.ifnullNo X0.here hx rfl (hb hby d12_6) rfl kS) ?_
  show own_Comes p e below s _ _ _ (s₁.setTop (mkF m 9 #[.val (.ref r0), .val (.ref r1)] []))
  refine own_by (fun _ kS => XS.aloadN X0.here hx rfl (hb hby d12_9) rfl rfl kS) ?_
  show own_Comes p e below s _ _ _ (s₁.setTop (mkF m 10 #[.val (.ref r0), .val (.ref r1)] [(.ref r0)]))
  refine own_by (fun _ kS => XS.aloadN X0.here hx rfl (hb hby d12_10) rfl rfl kS) ?_
  show own_Comes p e below s _ _ _ (s₁.setTop (mkF m 11 #[.val (.ref r0), .val (.ref r1)] [(.ref r1), (.ref r0)]))
  obtain ⟨cq93, kq93, q93a, q93b, q93c⟩ := isOf hZ e0 E0
  obtain ⟨_, _, ⟨T93, L93, k93, n93⟩, -, X93, ⟨Lc93, hQ93, l93, y93, z93⟩, st93⟩ := X0.virtualBack hx (y := (⟨"java/lang/Object", "equals", "(Ljava/lang/Object;)Z"⟩ : MethodName)) (z := (⟨"java/lang/String", "equals", "(Ljava/lang/Object;)Z"⟩ : MethodName)) hown (mvT hZ (hw _ (List.mem_of_getElem? (i := 99) rfl))) (mvT hZ (hw _ (List.mem_of_getElem? (i := 100) rfl))) (nf_top (args := #[]) (mvT hZ (hw _ (List.mem_of_getElem? (i := 107) rfl)))) (mvT hZ (hw _ (List.mem_of_getElem? (i := 154) rfl))) (mvT hZ (hw _ (List.mem_of_getElem? (i := 155) rfl))) (by decide) (backOf (W := 0) (rm25 l Z a0 hw [] r0 r1 h0 n0 Z0 E0 E1) hZ (hw _ (List.mem_of_getElem? (i := 156) rfl)) (hw _ (List.mem_of_getElem? (i := 129) rfl)) (by decide) (by decide)) q93a q93c (g := (mkF m 11 #[.val (.ref r0), .val (.ref r1)] [(.ref r1), (.ref r0)])) rfl (by rw [hml]; rfl) (Steps.refl _) (argsL := [(.ref r1)]) (rest := []) (lenOf pd__Ljava_lang_Object__Z_838 rfl) rfl (by show 2 * 0 + _ ≤ _; exact Nat.le_of_eq rfl) (hb hby d12_11) (fun _ _ => ⟨rfl, e0, (by decide : 0 + 0 ≤ _), (by decide : 0 + 0 ≤ _)⟩)
  dsimp only [Pt.U, Pt.locs, Pt.cells, Pt.slots] at X93 l93 y93 z93 st93 hQ93
  subst l93 y93 z93
  obtain ⟨rfl, N93q, e93q⟩ := hQ93
  have N93 := Fr.app N0 N93q
  refine own_tr st93 ?_
  have e93 : T93.heap = h0 := e93q
  show own_Comes p e below s _ _ _ (T93.setTop (mkF m 14 #[.val (.ref r0), .val (.ref r1)] [(.int (0 : Int32))]))
  have hb94 : (0 : Int32) = (0 : Int32) := by decide
  refine own_by (fun _ kS => XS.ifYes X93.here hx rfl (pc0 := 14) (pc' := 21) rfl (hb hby d12_14) rfl ((if0 _ _).trans (teq hb94).1) (by decide) (by decide) kS) ?_
  show own_Comes p e below s _ _ _ (T93.setTop (mkF m 21 #[.val (.ref r0), .val (.ref r1)] []))
  refine own_by (fun _ kS => XS.iconst X93.here hx rfl (hb hby d12_21) kS) ?_
  show own_Comes p e below s _ _ _ (T93.setTop (mkF m 22 #[.val (.ref r0), .val (.ref r1)] [(.int (0 : Int32))]))
  refine own_ret X93 (v := some (.int (0 : Int32))) (fun h => by rw [Bd.returns] at h; cases h) Bd.notSynchronized (by decide) (by decide) ?_ (fun fs hr => retN X93 hx (t := .boolean) Bd.returns (by simp) (hb hby d12_22) hr)
  rw [e93]; exact ⟨rfl, N93, rfl⟩
def Q26 (Z : State) (h0 : Heap) (n0 : Nat) (v : Option Value) (h : Heap) (L : List Loc) : Prop := v = some (.int (1 : Int32)) ∧ Fr n0 L ∧ h = h0
theorem ef_rm26 (m : MethodId) (x0 : Addr) (x1 : Addr) : entryFrame m #[(.ref x0), (.ref x1)] 7 = mkF m 0 #[.val (.ref x0), .val (.ref x1), .unset, .unset, .unset, .unset, .unset] [] := by first | (simp [entryFrame, mkF, argsToLocals, Value.category]; done) | rfl
theorem pn_java_util_AbstractMap : plainName "java/util/AbstractMap" = true := by first | (simp [plainName, overriddenIn]; done) | decide +kernel
theorem d26_0 : decode jdk_71_method_14_code 0 = .ok (.aload_n 1, 1) := by decide +kernel
theorem d26_1 : decode jdk_71_method_14_code 1 = .ok (.aload_n 0, 1) := by decide +kernel
theorem d26_2 : decode jdk_71_method_14_code 2 = .ok (.if_acmp .ne 5, 3) := by decide +kernel
theorem d26_5 : decode jdk_71_method_14_code 5 = .ok (.iconst 1, 1) := by decide +kernel
theorem d26_6 : decode jdk_71_method_14_code 6 = .ok (.ireturn, 1) := by decide +kernel
set_option maxRecDepth 65536 in
set_option maxHeartbeats 40000000 in
theorem rm26 (l : Launch) (Z : State) (a0 : Array Value) (hw : ∀ d ∈ tables_1, d.before a0 Z = true) (ws : List Jvm.Cond) (r0 : Addr) (h0 : Heap) (n0 : Nat) (Z0 : n0 ≤ h0.size) :
    MetFree l (⟨"java/util/AbstractMap", "equals", "(Ljava/lang/Object;)Z"⟩ : MethodName) (head1 (Jvm.Cond.codeWith ({ cls := "java/util/AbstractMap", name := "equals", desc := "(Ljava/lang/Object;)Z" } : Jvm.MethodName) jdk_71_method_14_code (7 : Nat) (Option.some Jvm.ClassFile.FieldType.boolean) [((39 : Nat), (115 : Nat), (140 : Nat), (86 : Nat)), ((39 : Nat), (115 : Nat), (140 : Nat), (88 : Nat)), ((116 : Nat), (133 : Nat), (140 : Nat), (86 : Nat)), ((116 : Nat), (133 : Nat), (140 : Nat), (88 : Nat)), ((134 : Nat), (137 : Nat), (140 : Nat), (86 : Nat)), ((134 : Nat), (137 : Nat), (140 : Nat), (88 : Nat))] :: ws) ({ frames := 0, cells := 0, slots := 0, locals := 0 } : Room)) (fun aX UX => aX = #[(.ref r0), (.ref r0)] ∧ Z.Warmed39 UX.vm ∧ UX.heap = h0) (fun _ _ _ _ _ => True) (fun _ UX oX UX' => ∃ vX LX, oX = .returned vX ∧ Q26 Z  h0 n0 vX UX'.heap LX ∧ FrameEnd UX oX UX' LX ({ frames := 0, cells := 0, slots := 0, locals := 0 } : Room).cells ({ frames := 0, cells := 0, slots := 0, locals := 0 } : Room).slots) := by
  refine MetFree.of_bodySF (plainFor_of_name pn_java_util_AbstractMap) hisWith ?_
  intro p e s m args below meth c s₁ Bd hml0 hP hK
  obtain ⟨rfl, hZ, hh⟩ := hP
  have hx := Bd.exec
  have hby := Bd.bytes
  have hml : c.maxLocals = 7 := hml0
  have hown : s.vm.findClass "java/util/AbstractMap" = some m.cls := findClass_of_methodNamed Bd.named
  have hnm := (name_of_methodNamed Bd.named Bd.method).1
  have X0 : Stand p l e ({ frames := 0, cells := 0, slots := 0, locals := 0 } : Room) s m #[(.ref r0), (.ref r0)] below meth c s₁ [] 0 0 := Stand.of_body Bd
  have e0 : s₁.heap = h0 := by rw [← hh, Bd.state]; rfl
  have N0 := Fr.nil n0
  show own_Comes p e below s ({ frames := 0, cells := 0, slots := 0, locals := 0 } : Room).cells ({ frames := 0, cells := 0, slots := 0, locals := 0 } : Room).slots (Q26 Z  h0 n0) _
  rw [show entryFrame m #[(.ref r0), (.ref r0)] 7 = mkF m 0 #[.val (.ref r0), .val (.ref r0), .unset, .unset, .unset, .unset, .unset] [] from ef_rm26 m r0 r0]
  show own_Comes p e below s _ _ _ (s₁.setTop (mkF m 0 #[.val (.ref r0), .val (.ref r0), .unset, .unset, .unset, .unset, .unset] []))
  refine own_by (fun _ kS => XS.aloadN X0.here hx rfl (hb hby d26_0) rfl rfl kS) ?_
  show own_Comes p e below s _ _ _ (s₁.setTop (mkF m 1 #[.val (.ref r0), .val (.ref r0), .unset, .unset, .unset, .unset, .unset] [(.ref r0)]))
  refine own_by (fun _ kS => XS.aloadN X0.here hx rfl (hb hby d26_1) rfl rfl kS) ?_
  show own_Comes p e below s _ _ _ (s₁.setTop (mkF m 2 #[.val (.ref r0), .val (.ref r0), .unset, .unset, .unset, .unset, .unset] [(.ref r0), (.ref r0)]))
  refine own_by (fun _ kS => Jvm.RoadKit.acmp (g := (mkF m 2 #[.val (.ref r0), .val (.ref r0), .unset, .unset, .unset, .unset, .unset] [(.ref r0), (.ref r0)])) X0 hx rfl rfl rfl (pc0 := 2) (pc' := 5) (same := true) rfl (hb hby d26_2) rfl (decide_eq_true rfl) (by decide) (by decide) kS) ?_
  show own_Comes p e below s _ _ _ (s₁.setTop (mkF m 5 #[.val (.ref r0), .val (.ref r0), .unset, .unset, .unset, .unset, .unset] []))
  refine own_by (fun _ kS => XS.iconst X0.here hx rfl (hb hby d26_5) kS) ?_
  show own_Comes p e below s _ _ _ (s₁.setTop (mkF m 6 #[.val (.ref r0), .val (.ref r0), .unset, .unset, .unset, .unset, .unset] [(.int (1 : Int32))]))
  refine own_ret X0 (v := some (.int (1 : Int32))) (fun h => by rw [Bd.returns] at h; cases h) Bd.notSynchronized (by decide) (by decide) ?_ (fun fs hr => retN X0 hx (t := .boolean) Bd.returns (by simp) (hb hby d26_6) hr)
  rw [e0]; exact ⟨rfl, N0, rfl⟩
def Q11n (Z : State)  (h0 : Heap) (n0 : Nat) (v : Option Value) (h : Heap) (L : List Loc) : Prop := v = some (.int (0 : Int32)) ∧ Fr n0 L ∧ h = h0
theorem ef_rm11n (m : MethodId) (x0 : Addr) (x1 : Addr) : entryFrame m #[(.ref x0), (.ref x1)] 3 = mkF m 0 #[.val (.ref x0), .val (.ref x1), .unset] [] := by first | (simp [entryFrame, mkF, argsToLocals, Value.category]; done) | rfl
theorem d11_0 : decode prog_1_method_16_code 0 = .ok (.aload_n 1, 1) := by decide +kernel
theorem d11_1 : decode prog_1_method_16_code 1 = .ok (.instanceof 8, 3) := by decide +kernel
theorem d11_4 : decode prog_1_method_16_code 4 = .ok (.ifCond .eq 123, 3) := by decide +kernel
theorem d11_7 : decode prog_1_method_16_code 7 = .ok (.aload_n 1, 1) := by decide +kernel
theorem d11_8 : decode prog_1_method_16_code 8 = .ok (.checkcast 8, 3) := by decide +kernel
theorem d11_11 : decode prog_1_method_16_code 11 = .ok (.astore_n 2, 1) := by decide +kernel
theorem d11_12 : decode prog_1_method_16_code 12 = .ok (.aload_n 0, 1) := by decide +kernel
theorem d11_13 : decode prog_1_method_16_code 13 = .ok (.getfield 18, 3) := by decide +kernel
theorem d11_16 : decode prog_1_method_16_code 16 = .ok (.aload_n 2, 1) := by decide +kernel
theorem d11_17 : decode prog_1_method_16_code 17 = .ok (.getfield 18, 3) := by decide +kernel
theorem d11_20 : decode prog_1_method_16_code 20 = .ok (.if_acmp .ne 107, 3) := by decide +kernel
theorem d11_23 : decode prog_1_method_16_code 23 = .ok (.aload_n 0, 1) := by decide +kernel
theorem d11_24 : decode prog_1_method_16_code 24 = .ok (.getfield 22, 3) := by decide +kernel
theorem d11_27 : decode prog_1_method_16_code 27 = .ok (.aload_n 2, 1) := by decide +kernel
theorem d11_28 : decode prog_1_method_16_code 28 = .ok (.getfield 22, 3) := by decide +kernel
theorem pd__Ljava_lang_Object_Ljava_lang_Object__Z_508 : parseMethodDescriptor "(Ljava/lang/Object;Ljava/lang/Object;)Z" = some ⟨[(.object "java/lang/Object"), (.object "java/lang/Object")], some .boolean⟩ := by decide +kernel
theorem d11_31 : decode prog_1_method_16_code 31 = .ok (.invokestatic 151, 3) := by decide +kernel
theorem d11_34 : decode prog_1_method_16_code 34 = .ok (.ifCond .eq 93, 3) := by decide +kernel
theorem d11_127 : decode prog_1_method_16_code 127 = .ok (.iconst 0, 1) := by decide +kernel
theorem d11_128 : decode prog_1_method_16_code 128 = .ok (.ireturn, 1) := by decide +kernel
set_option maxRecDepth 65536 in
set_option maxHeartbeats 40000000 in
theorem rm11n (l : Launch) (Z : State) (a0 : Array Value) (hw : ∀ d ∈ tables_1, d.before a0 Z = true) (ws : List Jvm.Cond) (r0 r1 k w0 em : Addr) (h0 : Heap) (n0 : Nat) (Z0 : n0 ≤ h0.size) (A0 : own_An Z h0 r0 k .null em) (A1 : own_An Z h0 r1 k (.ref w0) em) (Em : Exa Z h0 em "java/util/ImmutableCollections$MapN") (E1 : Exa Z h0 w0 "java/lang/Integer") :
    MetFree l (⟨"com/example/layered_mocks/layeredmocks/Answer", "equals", "(Ljava/lang/Object;)Z"⟩ : MethodName) (head1 (Jvm.Cond.code (⟨"com/example/layered_mocks/layeredmocks/Answer", "equals", "(Ljava/lang/Object;)Z"⟩ : MethodName) prog_1_method_16_code 3 (some .boolean) :: ws) ({ frames := 1, cells := 0, slots := 0, locals := 13 } : Room)) (fun aX UX => aX = #[(.ref r0), (.ref r1)] ∧ Z.Warmed39 UX.vm ∧ UX.heap = h0) (fun _ _ _ _ _ => True) (fun _ UX oX UX' => ∃ vX LX, oX = .returned vX ∧ Q11n Z  h0 n0 vX UX'.heap LX ∧ FrameEnd UX oX UX' LX ({ frames := 1, cells := 0, slots := 0, locals := 13 } : Room).cells ({ frames := 1, cells := 0, slots := 0, locals := 13 } : Room).slots) := by
  refine MetFree.of_bodySF (plainFor_of_name pn_com_example_layered_mocks_layeredmocks_Answer) hisR ?_
  intro p e s m args below meth c s₁ Bd hml0 hP hK
  obtain ⟨rfl, hZ, hh⟩ := hP
  have hx := Bd.exec
  have hby := Bd.bytes
  have hml : c.maxLocals = 3 := hml0
  have hown : s.vm.findClass "com/example/layered_mocks/layeredmocks/Answer" = some m.cls := findClass_of_methodNamed Bd.named
  have hnm := (name_of_methodNamed Bd.named Bd.method).1
  have X0 : Stand p l e ({ frames := 1, cells := 0, slots := 0, locals := 13 } : Room) s m #[(.ref r0), (.ref r1)] below meth c s₁ [] 0 0 := Stand.of_body Bd
  have e0 : s₁.heap = h0 := by rw [← hh, Bd.state]; rfl
  have N0 := Fr.nil n0
  show own_Comes p e below s ({ frames := 1, cells := 0, slots := 0, locals := 13 } : Room).cells ({ frames := 1, cells := 0, slots := 0, locals := 13 } : Room).slots (Q11n Z  h0 n0) _
  rw [show entryFrame m #[(.ref r0), (.ref r1)] 3 = mkF m 0 #[.val (.ref r0), .val (.ref r1), .unset] [] from ef_rm11n m r0 r1]
  show own_Comes p e below s _ _ _ (s₁.setTop (mkF m 0 #[.val (.ref r0), .val (.ref r1), .unset] []))
  refine own_by (fun _ kS => XS.aloadN X0.here hx rfl (hb hby d11_0) rfl rfl kS) ?_
  show own_Comes p e below s _ _ _ (s₁.setTop (mkF m 1 #[.val (.ref r0), .val (.ref r1), .unset] [(.ref r1)]))
  obtain ⟨T95, X95, e95, st95⟩ := instY X0 hx hZ hown (hw _ (List.mem_of_getElem? (i := 11) rfl)) e0 (Ins.self A1.1) (g := (mkF m 1 #[.val (.ref r0), .val (.ref r1), .unset] [(.ref r1)])) rfl rfl (hb hby d11_1)
  refine own_by st95 ?_
  show own_Comes p e below s _ _ _ (T95.setTop (mkF m 4 #[.val (.ref r0), .val (.ref r1), .unset] [(.int (1 : Int32))]))
  have hb96 : ¬ ((1 : Int32) = (0 : Int32)) := by decide
  refine own_by (fun _ kS => XS.ifNo X95.here hx rfl (hb hby d11_4) rfl ((if0 _ _).trans (feq hb96).1) kS) ?_
  show own_Comes p e below s _ _ _ (T95.setTop (mkF m 7 #[.val (.ref r0), .val (.ref r1), .unset] []))
  refine own_by (fun _ kS => XS.aloadN X95.here hx rfl (hb hby d11_7) rfl rfl kS) ?_
  show own_Comes p e below s _ _ _ (T95.setTop (mkF m 8 #[.val (.ref r0), .val (.ref r1), .unset] [(.ref r1)]))
  obtain ⟨T97, X97, e97, st97⟩ := castY X95 hx hZ hown (hw _ (List.mem_of_getElem? (i := 11) rfl)) e95 (Ins.self A1.1) (g := (mkF m 8 #[.val (.ref r0), .val (.ref r1), .unset] [(.ref r1)])) rfl rfl (hb hby d11_8)
  refine own_by st97 ?_
  show own_Comes p e below s _ _ _ (T97.setTop (mkF m 11 #[.val (.ref r0), .val (.ref r1), .unset] [(.ref r1)]))
  refine own_by (fun _ kS => XS.astoreN X97.here hx rfl (hb hby d11_11) rfl rfl (l' := #[.val (.ref r0), .val (.ref r1), .val (.ref r1)]) rfl kS) ?_
  show own_Comes p e below s _ _ _ (T97.setTop (mkF m 12 #[.val (.ref r0), .val (.ref r1), .val (.ref r1)] []))
  refine own_by (fun _ kS => XS.aloadN X97.here hx rfl (hb hby d11_12) rfl rfl kS) ?_
  show own_Comes p e below s _ _ _ (T97.setTop (mkF m 13 #[.val (.ref r0), .val (.ref r1), .val (.ref r1)] [(.ref r0)]))
  obtain ⟨T98, X98, e98, st98⟩ := getF X97 hx hZ hown (host := "") (Or.inl (hw _ (List.mem_of_getElem? (i := 31) rfl))) Via.refl e97 A0.2.1 (g := (mkF m 13 #[.val (.ref r0), .val (.ref r1), .val (.ref r1)] [(.ref r0)])) rfl rfl (hb hby d11_13)
  refine own_by st98 ?_
  show own_Comes p e below s _ _ _ (T98.setTop (mkF m 16 #[.val (.ref r0), .val (.ref r1), .val (.ref r1)] [(.ref k)]))
  refine own_by (fun _ kS => XS.aloadN X98.here hx rfl (hb hby d11_16) rfl rfl kS) ?_
  show own_Comes p e below s _ _ _ (T98.setTop (mkF m 17 #[.val (.ref r0), .val (.ref r1), .val (.ref r1)] [(.ref r1), (.ref k)]))
  obtain ⟨T99, X99, e99, st99⟩ := getF X98 hx hZ hown (host := "") (Or.inl (hw _ (List.mem_of_getElem? (i := 31) rfl))) Via.refl e98 A1.2.1 (g := (mkF m 17 #[.val (.ref r0), .val (.ref r1), .val (.ref r1)] [(.ref r1), (.ref k)])) rfl rfl (hb hby d11_17)
  refine own_by st99 ?_
  show own_Comes p e below s _ _ _ (T99.setTop (mkF m 20 #[.val (.ref r0), .val (.ref r1), .val (.ref r1)] [(.ref k), (.ref k)]))
  refine own_by (fun _ kS => Jvm.RoadKit.acmp (g := (mkF m 20 #[.val (.ref r0), .val (.ref r1), .val (.ref r1)] [(.ref k), (.ref k)])) X99 hx rfl rfl rfl (pc0 := 20) (pc' := 23) (same := true) rfl (hb hby d11_20) rfl (decide_eq_true rfl) (by decide) (by decide) kS) ?_
  show own_Comes p e below s _ _ _ (T99.setTop (mkF m 23 #[.val (.ref r0), .val (.ref r1), .val (.ref r1)] []))
  refine own_by (fun _ kS => XS.aloadN X99.here hx rfl (hb hby d11_23) rfl rfl kS) ?_
  show own_Comes p e below s _ _ _ (T99.setTop (mkF m 24 #[.val (.ref r0), .val (.ref r1), .val (.ref r1)] [(.ref r0)]))
  obtain ⟨T100, X100, e100, st100⟩ := getF X99 hx hZ hown (host := "") (Or.inl (hw _ (List.mem_of_getElem? (i := 33) rfl))) Via.refl e99 A0.2.2.1 (g := (mkF m 24 #[.val (.ref r0), .val (.ref r1), .val (.ref r1)] [(.ref r0)])) rfl rfl (hb hby d11_24)
  refine own_by st100 ?_
  show own_Comes p e below s _ _ _ (T100.setTop (mkF m 27 #[.val (.ref r0), .val (.ref r1), .val (.ref r1)] [.null]))
  refine own_by (fun _ kS => XS.aloadN X100.here hx rfl (hb hby d11_27) rfl rfl kS) ?_
  show own_Comes p e below s _ _ _ (T100.setTop (mkF m 28 #[.val (.ref r0), .val (.ref r1), .val (.ref r1)] [(.ref r1), .null]))
  obtain ⟨T101, X101, e101, st101⟩ := getF X100 hx hZ hown (host := "") (Or.inl (hw _ (List.mem_of_getElem? (i := 33) rfl))) Via.refl e100 A1.2.2.1 (g := (mkF m 28 #[.val (.ref r0), .val (.ref r1), .val (.ref r1)] [(.ref r1), .null])) rfl rfl (hb hby d11_28)
  refine own_by st101 ?_
  show own_Comes p e below s _ _ _ (T101.setTop (mkF m 31 #[.val (.ref r0), .val (.ref r1), .val (.ref r1)] [(.ref w0), .null]))
  obtain ⟨_, _, ⟨T102, L102, k102, n102⟩, -, X102, ⟨Lc102, hQ102, l102, y102, z102⟩, st102⟩ := Jvm.LawKit.callS X101 hx (y := (⟨"java/util/Objects", "equals", "(Ljava/lang/Object;Ljava/lang/Object;)Z"⟩ : MethodName)) hown (mvT hZ (hw _ (List.mem_of_getElem? (i := 74) rfl))) (mvT hZ (hw _ (List.mem_of_getElem? (i := 75) rfl))) (mvT hZ (hw _ (List.mem_of_getElem? (i := 76) rfl))) (mvT hZ (hw _ (List.mem_of_getElem? (i := 77) rfl))) (by decide) (backOf (W := 0) (rm12nr l Z a0 hw [] w0 h0 n0 Z0 ) hZ (hw _ (List.mem_of_getElem? (i := 77) rfl)) (hw _ (List.mem_of_getElem? (i := 76) rfl)) (by decide) (by decide)) (g := (mkF m 31 #[.val (.ref r0), .val (.ref r1), .val (.ref r1)] [(.ref w0), .null])) rfl (by rw [hml]; rfl) (argsL := [.null, (.ref w0)]) (rest := []) (lenOf pd__Ljava_lang_Object_Ljava_lang_Object__Z_508 rfl) rfl (by show 2 * 0 + _ ≤ _; exact Nat.le_of_eq rfl) (hb hby d11_31) (fun _ _ => ⟨rfl, e101, (by decide : 0 + 0 ≤ _), (by decide : 0 + 0 ≤ _)⟩)
  dsimp only [Pt.U, Pt.locs, Pt.cells, Pt.slots] at X102 l102 y102 z102 st102 hQ102
  subst l102 y102 z102
  obtain ⟨rfl, N102q, e102q⟩ := hQ102
  have N102 := Fr.app N0 N102q
  refine own_by st102 ?_
  have e102 : T102.heap = h0 := e102q
  show own_Comes p e below s _ _ _ (T102.setTop (mkF m 34 #[.val (.ref r0), .val (.ref r1), .val (.ref r1)] [(.int (0 : Int32))]))
  have hb103 : (0 : Int32) = (0 : Int32) := by decide
  refine own_by (fun _ kS => XS.ifYes X102.here hx rfl (pc0 := 34) (pc' := 127) rfl (hb hby d11_34) rfl ((if0 _ _).trans (teq hb103).1) (by decide) (by decide) kS) ?_
  show own_Comes p e below s _ _ _ (T102.setTop (mkF m 127 #[.val (.ref r0), .val (.ref r1), .val (.ref r1)] []))
  refine own_by (fun _ kS => XS.iconst X102.here hx rfl (hb hby d11_127) kS) ?_
  show own_Comes p e below s _ _ _ (T102.setTop (mkF m 128 #[.val (.ref r0), .val (.ref r1), .val (.ref r1)] [(.int (0 : Int32))]))
  refine own_ret X102 (v := some (.int (0 : Int32))) (fun h => by rw [Bd.returns] at h; cases h) Bd.notSynchronized (by decide) (by decide) ?_ (fun fs hr => retN X102 hx (t := .boolean) Bd.returns (by simp) (hb hby d11_128) hr)
  rw [e102]; exact ⟨rfl, N102, rfl⟩
def Q11i (Z : State) (x0 x1 : Int32) (h0 : Heap) (n0 : Nat) (v : Option Value) (h : Heap) (L : List Loc) : Prop := ∃ z : Int32, v = some (.int z) ∧ Fr n0 L ∧ h = h0 ∧ ((z = 1 ∧ x0 = x1) ∨ (z = 0 ∧ ¬ x0 = x1))
theorem ef_rm11i (m : MethodId) (x0 : Addr) (x1 : Addr) : entryFrame m #[(.ref x0), (.ref x1)] 3 = mkF m 0 #[.val (.ref x0), .val (.ref x1), .unset] [] := by first | (simp [entryFrame, mkF, argsToLocals, Value.category]; done) | rfl
theorem d11_37 : decode prog_1_method_16_code 37 = .ok (.aload_n 0, 1) := by decide +kernel
theorem d11_38 : decode prog_1_method_16_code 38 = .ok (.getfield 26, 3) := by decide +kernel
theorem d11_41 : decode prog_1_method_16_code 41 = .ok (.aload_n 2, 1) := by decide +kernel
theorem d11_42 : decode prog_1_method_16_code 42 = .ok (.getfield 26, 3) := by decide +kernel
theorem d11_45 : decode prog_1_method_16_code 45 = .ok (.invokestatic 151, 3) := by decide +kernel
theorem d11_48 : decode prog_1_method_16_code 48 = .ok (.ifCond .eq 79, 3) := by decide +kernel
theorem d11_51 : decode prog_1_method_16_code 51 = .ok (.aload_n 0, 1) := by decide +kernel
theorem d11_52 : decode prog_1_method_16_code 52 = .ok (.getfield 30, 3) := by decide +kernel
theorem d11_55 : decode prog_1_method_16_code 55 = .ok (.aload_n 2, 1) := by decide +kernel
theorem d11_56 : decode prog_1_method_16_code 56 = .ok (.getfield 30, 3) := by decide +kernel
theorem d11_59 : decode prog_1_method_16_code 59 = .ok (.invokestatic 151, 3) := by decide +kernel
theorem d11_62 : decode prog_1_method_16_code 62 = .ok (.ifCond .eq 65, 3) := by decide +kernel
theorem d11_65 : decode prog_1_method_16_code 65 = .ok (.aload_n 0, 1) := by decide +kernel
theorem d11_66 : decode prog_1_method_16_code 66 = .ok (.getfield 34, 3) := by decide +kernel
theorem d11_69 : decode prog_1_method_16_code 69 = .ok (.aload_n 2, 1) := by decide +kernel
theorem d11_70 : decode prog_1_method_16_code 70 = .ok (.getfield 34, 3) := by decide +kernel
theorem d11_73 : decode prog_1_method_16_code 73 = .ok (.invokestatic 151, 3) := by decide +kernel
theorem d11_76 : decode prog_1_method_16_code 76 = .ok (.ifCond .eq 51, 3) := by decide +kernel
theorem d11_79 : decode prog_1_method_16_code 79 = .ok (.aload_n 0, 1) := by decide +kernel
theorem d11_80 : decode prog_1_method_16_code 80 = .ok (.getfield 37, 3) := by decide +kernel
theorem d11_83 : decode prog_1_method_16_code 83 = .ok (.aload_n 2, 1) := by decide +kernel
theorem d11_84 : decode prog_1_method_16_code 84 = .ok (.getfield 37, 3) := by decide +kernel
theorem d11_87 : decode prog_1_method_16_code 87 = .ok (.invokestatic 151, 3) := by decide +kernel
theorem d11_90 : decode prog_1_method_16_code 90 = .ok (.ifCond .eq 37, 3) := by decide +kernel
theorem d11_93 : decode prog_1_method_16_code 93 = .ok (.aload_n 0, 1) := by decide +kernel
theorem d11_94 : decode prog_1_method_16_code 94 = .ok (.getfield 40, 3) := by decide +kernel
theorem d11_97 : decode prog_1_method_16_code 97 = .ok (.aload_n 2, 1) := by decide +kernel
theorem d11_98 : decode prog_1_method_16_code 98 = .ok (.getfield 40, 3) := by decide +kernel
theorem d11_101 : decode prog_1_method_16_code 101 = .ok (.invokeinterface 157 2, 5) := by decide +kernel
theorem d11_106 : decode prog_1_method_16_code 106 = .ok (.ifCond .eq 21, 3) := by decide +kernel
theorem d11_109 : decode prog_1_method_16_code 109 = .ok (.aload_n 0, 1) := by decide +kernel
theorem d11_110 : decode prog_1_method_16_code 110 = .ok (.getfield 44, 3) := by decide +kernel
theorem d11_113 : decode prog_1_method_16_code 113 = .ok (.aload_n 2, 1) := by decide +kernel
theorem d11_114 : decode prog_1_method_16_code 114 = .ok (.getfield 44, 3) := by decide +kernel
theorem d11_117 : decode prog_1_method_16_code 117 = .ok (.invokestatic 151, 3) := by decide +kernel
theorem d11_120 : decode prog_1_method_16_code 120 = .ok (.ifCond .eq 7, 3) := by decide +kernel
theorem d11_123 : decode prog_1_method_16_code 123 = .ok (.iconst 1, 1) := by decide +kernel
theorem d11_124 : decode prog_1_method_16_code 124 = .ok (.goto 4, 3) := by decide +kernel
set_option maxRecDepth 65536 in
set_option maxHeartbeats 40000000 in
theorem rm11i (l : Launch) (Z : State) (a0 : Array Value) (hw : ∀ d ∈ tables_1, d.before a0 Z = true) (ws : List Jvm.Cond) (r0 r1 k v0 w0 em : Addr) (x0 x1 : Int32) (h0 : Heap) (n0 : Nat) (Z0 : n0 ≤ h0.size) (A0 : own_An Z h0 r0 k (.ref v0) em) (A1 : own_An Z h0 r1 k (.ref w0) em) (Em : Exa Z h0 em "java/util/ImmutableCollections$MapN") (E1 : Exa Z h0 w0 "java/lang/Integer") (E0 : Exa Z h0 v0 "java/lang/Integer") (F0 : Fld Z h0 v0 "java/lang/Integer" "value" "I" (.int x0)) (F1 : Fld Z h0 w0 "java/lang/Integer" "value" "I" (.int x1)) :
    MetFree l (⟨"com/example/layered_mocks/layeredmocks/Answer", "equals", "(Ljava/lang/Object;)Z"⟩ : MethodName) (head1 (Jvm.Cond.code (⟨"com/example/layered_mocks/layeredmocks/Answer", "equals", "(Ljava/lang/Object;)Z"⟩ : MethodName) prog_1_method_16_code 3 (some .boolean) :: ws) ({ frames := 3, cells := 0, slots := 0, locals := 39 } : Room)) (fun aX UX => aX = #[(.ref r0), (.ref r1)] ∧ Z.Warmed39 UX.vm ∧ UX.heap = h0) (fun _ _ _ _ _ => True) (fun _ UX oX UX' => ∃ vX LX, oX = .returned vX ∧ Q11i Z x0 x1 h0 n0 vX UX'.heap LX ∧ FrameEnd UX oX UX' LX ({ frames := 3, cells := 0, slots := 0, locals := 39 } : Room).cells ({ frames := 3, cells := 0, slots := 0, locals := 39 } : Room).slots) := by
  refine MetFree.of_bodySF (plainFor_of_name pn_com_example_layered_mocks_layeredmocks_Answer) hisR ?_
  intro p e s m args below meth c s₁ Bd hml0 hP hK
  obtain ⟨rfl, hZ, hh⟩ := hP
  have hx := Bd.exec
  have hby := Bd.bytes
  have hml : c.maxLocals = 3 := hml0
  have hown : s.vm.findClass "com/example/layered_mocks/layeredmocks/Answer" = some m.cls := findClass_of_methodNamed Bd.named
  have hnm := (name_of_methodNamed Bd.named Bd.method).1
  have X0 : Stand p l e ({ frames := 3, cells := 0, slots := 0, locals := 39 } : Room) s m #[(.ref r0), (.ref r1)] below meth c s₁ [] 0 0 := Stand.of_body Bd
  have e0 : s₁.heap = h0 := by rw [← hh, Bd.state]; rfl
  have N0 := Fr.nil n0
  show own_Comes p e below s ({ frames := 3, cells := 0, slots := 0, locals := 39 } : Room).cells ({ frames := 3, cells := 0, slots := 0, locals := 39 } : Room).slots (Q11i Z x0 x1 h0 n0) _
  rw [show entryFrame m #[(.ref r0), (.ref r1)] 3 = mkF m 0 #[.val (.ref r0), .val (.ref r1), .unset] [] from ef_rm11i m r0 r1]
  show own_Comes p e below s _ _ _ (s₁.setTop (mkF m 0 #[.val (.ref r0), .val (.ref r1), .unset] []))
  refine own_by (fun _ kS => XS.aloadN X0.here hx rfl (hb hby d11_0) rfl rfl kS) ?_
  show own_Comes p e below s _ _ _ (s₁.setTop (mkF m 1 #[.val (.ref r0), .val (.ref r1), .unset] [(.ref r1)]))
  obtain ⟨T104, X104, e104, st104⟩ := instY X0 hx hZ hown (hw _ (List.mem_of_getElem? (i := 11) rfl)) e0 (Ins.self A1.1) (g := (mkF m 1 #[.val (.ref r0), .val (.ref r1), .unset] [(.ref r1)])) rfl rfl (hb hby d11_1)
  refine own_by st104 ?_
  show own_Comes p e below s _ _ _ (T104.setTop (mkF m 4 #[.val (.ref r0), .val (.ref r1), .unset] [(.int (1 : Int32))]))
  have hb105 : ¬ ((1 : Int32) = (0 : Int32)) := by decide
  refine own_by (fun _ kS => XS.ifNo X104.here hx rfl (hb hby d11_4) rfl ((if0 _ _).trans (feq hb105).1) kS) ?_
  show own_Comes p e below s _ _ _ (T104.setTop (mkF m 7 #[.val (.ref r0), .val (.ref r1), .unset] []))
  refine own_by (fun _ kS => XS.aloadN X104.here hx rfl (hb hby d11_7) rfl rfl kS) ?_
  show own_Comes p e below s _ _ _ (T104.setTop (mkF m 8 #[.val (.ref r0), .val (.ref r1), .unset] [(.ref r1)]))
  obtain ⟨T106, X106, e106, st106⟩ := castY X104 hx hZ hown (hw _ (List.mem_of_getElem? (i := 11) rfl)) e104 (Ins.self A1.1) (g := (mkF m 8 #[.val (.ref r0), .val (.ref r1), .unset] [(.ref r1)])) rfl rfl (hb hby d11_8)
  refine own_by st106 ?_
  show own_Comes p e below s _ _ _ (T106.setTop (mkF m 11 #[.val (.ref r0), .val (.ref r1), .unset] [(.ref r1)]))
  refine own_by (fun _ kS => XS.astoreN X106.here hx rfl (hb hby d11_11) rfl rfl (l' := #[.val (.ref r0), .val (.ref r1), .val (.ref r1)]) rfl kS) ?_
  show own_Comes p e below s _ _ _ (T106.setTop (mkF m 12 #[.val (.ref r0), .val (.ref r1), .val (.ref r1)] []))
  refine own_by (fun _ kS => XS.aloadN X106.here hx rfl (hb hby d11_12) rfl rfl kS) ?_
  show own_Comes p e below s _ _ _ (T106.setTop (mkF m 13 #[.val (.ref r0), .val (.ref r1), .val (.ref r1)] [(.ref r0)]))
  obtain ⟨T107, X107, e107, st107⟩ := getF X106 hx hZ hown (host := "") (Or.inl (hw _ (List.mem_of_getElem? (i := 31) rfl))) Via.refl e106 A0.2.1 (g := (mkF m 13 #[.val (.ref r0), .val (.ref r1), .val (.ref r1)] [(.ref r0)])) rfl rfl (hb hby d11_13)
  refine own_by st107 ?_
  show own_Comes p e below s _ _ _ (T107.setTop (mkF m 16 #[.val (.ref r0), .val (.ref r1), .val (.ref r1)] [(.ref k)]))
  refine own_by (fun _ kS => XS.aloadN X107.here hx rfl (hb hby d11_16) rfl rfl kS) ?_
  show own_Comes p e below s _ _ _ (T107.setTop (mkF m 17 #[.val (.ref r0), .val (.ref r1), .val (.ref r1)] [(.ref r1), (.ref k)]))
  obtain ⟨T108, X108, e108, st108⟩ := getF X107 hx hZ hown (host := "") (Or.inl (hw _ (List.mem_of_getElem? (i := 31) rfl))) Via.refl e107 A1.2.1 (g := (mkF m 17 #[.val (.ref r0), .val (.ref r1), .val (.ref r1)] [(.ref r1), (.ref k)])) rfl rfl (hb hby d11_17)
  refine own_by st108 ?_
  show own_Comes p e below s _ _ _ (T108.setTop (mkF m 20 #[.val (.ref r0), .val (.ref r1), .val (.ref r1)] [(.ref k), (.ref k)]))
  refine own_by (fun _ kS => Jvm.RoadKit.acmp (g := (mkF m 20 #[.val (.ref r0), .val (.ref r1), .val (.ref r1)] [(.ref k), (.ref k)])) X108 hx rfl rfl rfl (pc0 := 20) (pc' := 23) (same := true) rfl (hb hby d11_20) rfl (decide_eq_true rfl) (by decide) (by decide) kS) ?_
  show own_Comes p e below s _ _ _ (T108.setTop (mkF m 23 #[.val (.ref r0), .val (.ref r1), .val (.ref r1)] []))
  refine own_by (fun _ kS => XS.aloadN X108.here hx rfl (hb hby d11_23) rfl rfl kS) ?_
  show own_Comes p e below s _ _ _ (T108.setTop (mkF m 24 #[.val (.ref r0), .val (.ref r1), .val (.ref r1)] [(.ref r0)]))
  obtain ⟨T109, X109, e109, st109⟩ := getF X108 hx hZ hown (host := "") (Or.inl (hw _ (List.mem_of_getElem? (i := 33) rfl))) Via.refl e108 A0.2.2.1 (g := (mkF m 24 #[.val (.ref r0), .val (.ref r1), .val (.ref r1)] [(.ref r0)])) rfl rfl (hb hby d11_24)
  refine own_by st109 ?_
  show own_Comes p e below s _ _ _ (T109.setTop (mkF m 27 #[.val (.ref r0), .val (.ref r1), .val (.ref r1)] [(.ref v0)]))
  refine own_by (fun _ kS => XS.aloadN X109.here hx rfl (hb hby d11_27) rfl rfl kS) ?_
  show own_Comes p e below s _ _ _ (T109.setTop (mkF m 28 #[.val (.ref r0), .val (.ref r1), .val (.ref r1)] [(.ref r1), (.ref v0)]))
  obtain ⟨T110, X110, e110, st110⟩ := getF X109 hx hZ hown (host := "") (Or.inl (hw _ (List.mem_of_getElem? (i := 33) rfl))) Via.refl e109 A1.2.2.1 (g := (mkF m 28 #[.val (.ref r0), .val (.ref r1), .val (.ref r1)] [(.ref r1), (.ref v0)])) rfl rfl (hb hby d11_28)
  refine own_by st110 ?_
  show own_Comes p e below s _ _ _ (T110.setTop (mkF m 31 #[.val (.ref r0), .val (.ref r1), .val (.ref r1)] [(.ref w0), (.ref v0)]))
  obtain ⟨_, _, ⟨T111, L111, k111, n111⟩, -, X111, ⟨Lc111, hQ111, l111, y111, z111⟩, st111⟩ := Jvm.LawKit.callS X110 hx (y := (⟨"java/util/Objects", "equals", "(Ljava/lang/Object;Ljava/lang/Object;)Z"⟩ : MethodName)) hown (mvT hZ (hw _ (List.mem_of_getElem? (i := 74) rfl))) (mvT hZ (hw _ (List.mem_of_getElem? (i := 75) rfl))) (mvT hZ (hw _ (List.mem_of_getElem? (i := 76) rfl))) (mvT hZ (hw _ (List.mem_of_getElem? (i := 77) rfl))) (by decide) (backOf (W := 0) (rm12i l Z a0 hw [] v0 w0 x0 x1 h0 n0 Z0 E0 F0 E1 F1) hZ (hw _ (List.mem_of_getElem? (i := 77) rfl)) (hw _ (List.mem_of_getElem? (i := 76) rfl)) (by decide) (by decide)) (g := (mkF m 31 #[.val (.ref r0), .val (.ref r1), .val (.ref r1)] [(.ref w0), (.ref v0)])) rfl (by rw [hml]; rfl) (argsL := [(.ref v0), (.ref w0)]) (rest := []) (lenOf pd__Ljava_lang_Object_Ljava_lang_Object__Z_508 rfl) rfl (by show 2 * 0 + _ ≤ _; exact Nat.le_of_eq rfl) (hb hby d11_31) (fun _ _ => ⟨rfl, e110, (by decide : 0 + 0 ≤ _), (by decide : 0 + 0 ≤ _)⟩)
  dsimp only [Pt.U, Pt.locs, Pt.cells, Pt.slots] at X111 l111 y111 z111 st111 hQ111
  subst l111 y111 z111
  obtain ⟨z111, rfl, N111q, e111q, hz111⟩ := hQ111
  have N111 := Fr.app N0 N111q
  refine own_by st111 ?_
  have e111 : T111.heap = h0 := e111q
  show own_Comes p e below s _ _ _ (T111.setTop (mkF m 34 #[.val (.ref r0), .val (.ref r1), .val (.ref r1)] [(.int z111)]))
  by_cases hq : z111 = (0 : Int32)
  · refine own_by (fun _ kS => XS.ifYes X111.here hx rfl (pc0 := 34) (pc' := 127) rfl (hb hby d11_34) rfl ((if0 _ _).trans (teq hq).1) (by decide) (by decide) kS) ?_
    show own_Comes p e below s _ _ _ (T111.setTop (mkF m 127 #[.val (.ref r0), .val (.ref r1), .val (.ref r1)] []))
    refine own_by (fun _ kS => XS.iconst X111.here hx rfl (hb hby d11_127) kS) ?_
    show own_Comes p e below s _ _ _ (T111.setTop (mkF m 128 #[.val (.ref r0), .val (.ref r1), .val (.ref r1)] [(.int (0 : Int32))]))
    have hne : ¬ x0 = x1 := hz111.elim (fun q => absurd (q.1.symm.trans hq) (by decide)) (fun q => q.2)
    refine own_ret X111 (v := some (.int (0 : Int32))) (fun h => by rw [Bd.returns] at h; cases h) Bd.notSynchronized (by decide) (by decide) ?_ (fun fs hr => retN X111 hx (t := .boolean) Bd.returns (by simp) (hb hby d11_128) hr)
    rw [e111]; exact ⟨_, rfl, N111, rfl, Or.inr ⟨rfl, hne⟩⟩
  · refine own_by (fun _ kS => XS.ifNo X111.here hx rfl (hb hby d11_34) rfl ((if0 _ _).trans (feq hq).1) kS) ?_
    show own_Comes p e below s _ _ _ (T111.setTop (mkF m 37 #[.val (.ref r0), .val (.ref r1), .val (.ref r1)] []))
    refine own_by (fun _ kS => XS.aloadN X111.here hx rfl (hb hby d11_37) rfl rfl kS) ?_
    show own_Comes p e below s _ _ _ (T111.setTop (mkF m 38 #[.val (.ref r0), .val (.ref r1), .val (.ref r1)] [(.ref r0)]))
    obtain ⟨T112, X112, e112, st112⟩ := getF X111 hx hZ hown (host := "") (Or.inl (hw _ (List.mem_of_getElem? (i := 35) rfl))) Via.refl e111 A0.2.2.2.1 (g := (mkF m 38 #[.val (.ref r0), .val (.ref r1), .val (.ref r1)] [(.ref r0)])) rfl rfl (hb hby d11_38)
    refine own_by st112 ?_
    show own_Comes p e below s _ _ _ (T112.setTop (mkF m 41 #[.val (.ref r0), .val (.ref r1), .val (.ref r1)] [.null]))
    refine own_by (fun _ kS => XS.aloadN X112.here hx rfl (hb hby d11_41) rfl rfl kS) ?_
    show own_Comes p e below s _ _ _ (T112.setTop (mkF m 42 #[.val (.ref r0), .val (.ref r1), .val (.ref r1)] [(.ref r1), .null]))
    obtain ⟨T113, X113, e113, st113⟩ := getF X112 hx hZ hown (host := "") (Or.inl (hw _ (List.mem_of_getElem? (i := 35) rfl))) Via.refl e112 A1.2.2.2.1 (g := (mkF m 42 #[.val (.ref r0), .val (.ref r1), .val (.ref r1)] [(.ref r1), .null])) rfl rfl (hb hby d11_42)
    refine own_by st113 ?_
    show own_Comes p e below s _ _ _ (T113.setTop (mkF m 45 #[.val (.ref r0), .val (.ref r1), .val (.ref r1)] [.null, .null]))
    obtain ⟨_, _, ⟨T114, L114, k114, n114⟩, -, X114, ⟨Lc114, hQ114, l114, y114, z114⟩, st114⟩ := Jvm.LawKit.callS X113 hx (y := (⟨"java/util/Objects", "equals", "(Ljava/lang/Object;Ljava/lang/Object;)Z"⟩ : MethodName)) hown (mvT hZ (hw _ (List.mem_of_getElem? (i := 74) rfl))) (mvT hZ (hw _ (List.mem_of_getElem? (i := 75) rfl))) (mvT hZ (hw _ (List.mem_of_getElem? (i := 76) rfl))) (mvT hZ (hw _ (List.mem_of_getElem? (i := 77) rfl))) (by decide) (backOf (W := 0) (rm12nn l Z a0 hw []  h0 n0 Z0) hZ (hw _ (List.mem_of_getElem? (i := 77) rfl)) (hw _ (List.mem_of_getElem? (i := 76) rfl)) (by decide) (by decide)) (g := (mkF m 45 #[.val (.ref r0), .val (.ref r1), .val (.ref r1)] [.null, .null])) rfl (by rw [hml]; rfl) (argsL := [.null, .null]) (rest := []) (lenOf pd__Ljava_lang_Object_Ljava_lang_Object__Z_508 rfl) rfl (by show 2 * 0 + _ ≤ _; exact Nat.le_of_eq rfl) (hb hby d11_45) (fun _ _ => ⟨rfl, e113, (by decide : 0 + 0 ≤ _), (by decide : 0 + 0 ≤ _)⟩)
    dsimp only [Pt.U, Pt.locs, Pt.cells, Pt.slots] at X114 l114 y114 z114 st114 hQ114
    subst l114 y114 z114
    obtain ⟨rfl, N114q, e114q⟩ := hQ114
    have N114 := Fr.app N111 N114q
    refine own_by st114 ?_
    have e114 : T114.heap = h0 := e114q
    show own_Comes p e below s _ _ _ (T114.setTop (mkF m 48 #[.val (.ref r0), .val (.ref r1), .val (.ref r1)] [(.int (1 : Int32))]))
    have hb115 : ¬ ((1 : Int32) = (0 : Int32)) := by decide
    refine own_by (fun _ kS => XS.ifNo X114.here hx rfl (hb hby d11_48) rfl ((if0 _ _).trans (feq hb115).1) kS) ?_
    show own_Comes p e below s _ _ _ (T114.setTop (mkF m 51 #[.val (.ref r0), .val (.ref r1), .val (.ref r1)] []))
    refine own_by (fun _ kS => XS.aloadN X114.here hx rfl (hb hby d11_51) rfl rfl kS) ?_
    show own_Comes p e below s _ _ _ (T114.setTop (mkF m 52 #[.val (.ref r0), .val (.ref r1), .val (.ref r1)] [(.ref r0)]))
    obtain ⟨T116, X116, e116, st116⟩ := getF X114 hx hZ hown (host := "") (Or.inl (hw _ (List.mem_of_getElem? (i := 37) rfl))) Via.refl e114 A0.2.2.2.2.1 (g := (mkF m 52 #[.val (.ref r0), .val (.ref r1), .val (.ref r1)] [(.ref r0)])) rfl rfl (hb hby d11_52)
    refine own_by st116 ?_
    show own_Comes p e below s _ _ _ (T116.setTop (mkF m 55 #[.val (.ref r0), .val (.ref r1), .val (.ref r1)] [.null]))
    refine own_by (fun _ kS => XS.aloadN X116.here hx rfl (hb hby d11_55) rfl rfl kS) ?_
    show own_Comes p e below s _ _ _ (T116.setTop (mkF m 56 #[.val (.ref r0), .val (.ref r1), .val (.ref r1)] [(.ref r1), .null]))
    obtain ⟨T117, X117, e117, st117⟩ := getF X116 hx hZ hown (host := "") (Or.inl (hw _ (List.mem_of_getElem? (i := 37) rfl))) Via.refl e116 A1.2.2.2.2.1 (g := (mkF m 56 #[.val (.ref r0), .val (.ref r1), .val (.ref r1)] [(.ref r1), .null])) rfl rfl (hb hby d11_56)
    refine own_by st117 ?_
    show own_Comes p e below s _ _ _ (T117.setTop (mkF m 59 #[.val (.ref r0), .val (.ref r1), .val (.ref r1)] [.null, .null]))
    obtain ⟨_, _, ⟨T118, L118, k118, n118⟩, -, X118, ⟨Lc118, hQ118, l118, y118, z118⟩, st118⟩ := Jvm.LawKit.callS X117 hx (y := (⟨"java/util/Objects", "equals", "(Ljava/lang/Object;Ljava/lang/Object;)Z"⟩ : MethodName)) hown (mvT hZ (hw _ (List.mem_of_getElem? (i := 74) rfl))) (mvT hZ (hw _ (List.mem_of_getElem? (i := 75) rfl))) (mvT hZ (hw _ (List.mem_of_getElem? (i := 76) rfl))) (mvT hZ (hw _ (List.mem_of_getElem? (i := 77) rfl))) (by decide) (backOf (W := 0) (rm12nn l Z a0 hw []  h0 n0 Z0) hZ (hw _ (List.mem_of_getElem? (i := 77) rfl)) (hw _ (List.mem_of_getElem? (i := 76) rfl)) (by decide) (by decide)) (g := (mkF m 59 #[.val (.ref r0), .val (.ref r1), .val (.ref r1)] [.null, .null])) rfl (by rw [hml]; rfl) (argsL := [.null, .null]) (rest := []) (lenOf pd__Ljava_lang_Object_Ljava_lang_Object__Z_508 rfl) rfl (by show 2 * 0 + _ ≤ _; exact Nat.le_of_eq rfl) (hb hby d11_59) (fun _ _ => ⟨rfl, e117, (by decide : 0 + 0 ≤ _), (by decide : 0 + 0 ≤ _)⟩)
    dsimp only [Pt.U, Pt.locs, Pt.cells, Pt.slots] at X118 l118 y118 z118 st118 hQ118
    subst l118 y118 z118
    obtain ⟨rfl, N118q, e118q⟩ := hQ118
    have N118 := Fr.app N114 N118q
    refine own_by st118 ?_
    have e118 : T118.heap = h0 := e118q
    show own_Comes p e below s _ _ _ (T118.setTop (mkF m 62 #[.val (.ref r0), .val (.ref r1), .val (.ref r1)] [(.int (1 : Int32))]))
    have hb119 : ¬ ((1 : Int32) = (0 : Int32)) := by decide
    refine own_by (fun _ kS => XS.ifNo X118.here hx rfl (hb hby d11_62) rfl ((if0 _ _).trans (feq hb119).1) kS) ?_
    show own_Comes p e below s _ _ _ (T118.setTop (mkF m 65 #[.val (.ref r0), .val (.ref r1), .val (.ref r1)] []))
    refine own_by (fun _ kS => XS.aloadN X118.here hx rfl (hb hby d11_65) rfl rfl kS) ?_
    show own_Comes p e below s _ _ _ (T118.setTop (mkF m 66 #[.val (.ref r0), .val (.ref r1), .val (.ref r1)] [(.ref r0)]))
    obtain ⟨T120, X120, e120, st120⟩ := getF X118 hx hZ hown (host := "") (Or.inl (hw _ (List.mem_of_getElem? (i := 39) rfl))) Via.refl e118 A0.2.2.2.2.2.1 (g := (mkF m 66 #[.val (.ref r0), .val (.ref r1), .val (.ref r1)] [(.ref r0)])) rfl rfl (hb hby d11_66)
    refine own_by st120 ?_
    show own_Comes p e below s _ _ _ (T120.setTop (mkF m 69 #[.val (.ref r0), .val (.ref r1), .val (.ref r1)] [.null]))
    refine own_by (fun _ kS => XS.aloadN X120.here hx rfl (hb hby d11_69) rfl rfl kS) ?_
    show own_Comes p e below s _ _ _ (T120.setTop (mkF m 70 #[.val (.ref r0), .val (.ref r1), .val (.ref r1)] [(.ref r1), .null]))
    obtain ⟨T121, X121, e121, st121⟩ := getF X120 hx hZ hown (host := "") (Or.inl (hw _ (List.mem_of_getElem? (i := 39) rfl))) Via.refl e120 A1.2.2.2.2.2.1 (g := (mkF m 70 #[.val (.ref r0), .val (.ref r1), .val (.ref r1)] [(.ref r1), .null])) rfl rfl (hb hby d11_70)
    refine own_by st121 ?_
    show own_Comes p e below s _ _ _ (T121.setTop (mkF m 73 #[.val (.ref r0), .val (.ref r1), .val (.ref r1)] [.null, .null]))
    obtain ⟨_, _, ⟨T122, L122, k122, n122⟩, -, X122, ⟨Lc122, hQ122, l122, y122, z122⟩, st122⟩ := Jvm.LawKit.callS X121 hx (y := (⟨"java/util/Objects", "equals", "(Ljava/lang/Object;Ljava/lang/Object;)Z"⟩ : MethodName)) hown (mvT hZ (hw _ (List.mem_of_getElem? (i := 74) rfl))) (mvT hZ (hw _ (List.mem_of_getElem? (i := 75) rfl))) (mvT hZ (hw _ (List.mem_of_getElem? (i := 76) rfl))) (mvT hZ (hw _ (List.mem_of_getElem? (i := 77) rfl))) (by decide) (backOf (W := 0) (rm12nn l Z a0 hw []  h0 n0 Z0) hZ (hw _ (List.mem_of_getElem? (i := 77) rfl)) (hw _ (List.mem_of_getElem? (i := 76) rfl)) (by decide) (by decide)) (g := (mkF m 73 #[.val (.ref r0), .val (.ref r1), .val (.ref r1)] [.null, .null])) rfl (by rw [hml]; rfl) (argsL := [.null, .null]) (rest := []) (lenOf pd__Ljava_lang_Object_Ljava_lang_Object__Z_508 rfl) rfl (by show 2 * 0 + _ ≤ _; exact Nat.le_of_eq rfl) (hb hby d11_73) (fun _ _ => ⟨rfl, e121, (by decide : 0 + 0 ≤ _), (by decide : 0 + 0 ≤ _)⟩)
    dsimp only [Pt.U, Pt.locs, Pt.cells, Pt.slots] at X122 l122 y122 z122 st122 hQ122
    subst l122 y122 z122
    obtain ⟨rfl, N122q, e122q⟩ := hQ122
    have N122 := Fr.app N118 N122q
    refine own_by st122 ?_
    have e122 : T122.heap = h0 := e122q
    show own_Comes p e below s _ _ _ (T122.setTop (mkF m 76 #[.val (.ref r0), .val (.ref r1), .val (.ref r1)] [(.int (1 : Int32))]))
    have hb123 : ¬ ((1 : Int32) = (0 : Int32)) := by decide
    refine own_by (fun _ kS => XS.ifNo X122.here hx rfl (hb hby d11_76) rfl ((if0 _ _).trans (feq hb123).1) kS) ?_
    show own_Comes p e below s _ _ _ (T122.setTop (mkF m 79 #[.val (.ref r0), .val (.ref r1), .val (.ref r1)] []))
    refine own_by (fun _ kS => XS.aloadN X122.here hx rfl (hb hby d11_79) rfl rfl kS) ?_
    show own_Comes p e below s _ _ _ (T122.setTop (mkF m 80 #[.val (.ref r0), .val (.ref r1), .val (.ref r1)] [(.ref r0)]))
    obtain ⟨T124, X124, e124, st124⟩ := getF X122 hx hZ hown (host := "") (Or.inl (hw _ (List.mem_of_getElem? (i := 41) rfl))) Via.refl e122 A0.2.2.2.2.2.2.1 (g := (mkF m 80 #[.val (.ref r0), .val (.ref r1), .val (.ref r1)] [(.ref r0)])) rfl rfl (hb hby d11_80)
    refine own_by st124 ?_
    show own_Comes p e below s _ _ _ (T124.setTop (mkF m 83 #[.val (.ref r0), .val (.ref r1), .val (.ref r1)] [.null]))
    refine own_by (fun _ kS => XS.aloadN X124.here hx rfl (hb hby d11_83) rfl rfl kS) ?_
    show own_Comes p e below s _ _ _ (T124.setTop (mkF m 84 #[.val (.ref r0), .val (.ref r1), .val (.ref r1)] [(.ref r1), .null]))
    obtain ⟨T125, X125, e125, st125⟩ := getF X124 hx hZ hown (host := "") (Or.inl (hw _ (List.mem_of_getElem? (i := 41) rfl))) Via.refl e124 A1.2.2.2.2.2.2.1 (g := (mkF m 84 #[.val (.ref r0), .val (.ref r1), .val (.ref r1)] [(.ref r1), .null])) rfl rfl (hb hby d11_84)
    refine own_by st125 ?_
    show own_Comes p e below s _ _ _ (T125.setTop (mkF m 87 #[.val (.ref r0), .val (.ref r1), .val (.ref r1)] [.null, .null]))
    obtain ⟨_, _, ⟨T126, L126, k126, n126⟩, -, X126, ⟨Lc126, hQ126, l126, y126, z126⟩, st126⟩ := Jvm.LawKit.callS X125 hx (y := (⟨"java/util/Objects", "equals", "(Ljava/lang/Object;Ljava/lang/Object;)Z"⟩ : MethodName)) hown (mvT hZ (hw _ (List.mem_of_getElem? (i := 74) rfl))) (mvT hZ (hw _ (List.mem_of_getElem? (i := 75) rfl))) (mvT hZ (hw _ (List.mem_of_getElem? (i := 76) rfl))) (mvT hZ (hw _ (List.mem_of_getElem? (i := 77) rfl))) (by decide) (backOf (W := 0) (rm12nn l Z a0 hw []  h0 n0 Z0) hZ (hw _ (List.mem_of_getElem? (i := 77) rfl)) (hw _ (List.mem_of_getElem? (i := 76) rfl)) (by decide) (by decide)) (g := (mkF m 87 #[.val (.ref r0), .val (.ref r1), .val (.ref r1)] [.null, .null])) rfl (by rw [hml]; rfl) (argsL := [.null, .null]) (rest := []) (lenOf pd__Ljava_lang_Object_Ljava_lang_Object__Z_508 rfl) rfl (by show 2 * 0 + _ ≤ _; exact Nat.le_of_eq rfl) (hb hby d11_87) (fun _ _ => ⟨rfl, e125, (by decide : 0 + 0 ≤ _), (by decide : 0 + 0 ≤ _)⟩)
    dsimp only [Pt.U, Pt.locs, Pt.cells, Pt.slots] at X126 l126 y126 z126 st126 hQ126
    subst l126 y126 z126
    obtain ⟨rfl, N126q, e126q⟩ := hQ126
    have N126 := Fr.app N122 N126q
    refine own_by st126 ?_
    have e126 : T126.heap = h0 := e126q
    show own_Comes p e below s _ _ _ (T126.setTop (mkF m 90 #[.val (.ref r0), .val (.ref r1), .val (.ref r1)] [(.int (1 : Int32))]))
    have hb127 : ¬ ((1 : Int32) = (0 : Int32)) := by decide
    refine own_by (fun _ kS => XS.ifNo X126.here hx rfl (hb hby d11_90) rfl ((if0 _ _).trans (feq hb127).1) kS) ?_
    show own_Comes p e below s _ _ _ (T126.setTop (mkF m 93 #[.val (.ref r0), .val (.ref r1), .val (.ref r1)] []))
    refine own_by (fun _ kS => XS.aloadN X126.here hx rfl (hb hby d11_93) rfl rfl kS) ?_
    show own_Comes p e below s _ _ _ (T126.setTop (mkF m 94 #[.val (.ref r0), .val (.ref r1), .val (.ref r1)] [(.ref r0)]))
    obtain ⟨T128, X128, e128, st128⟩ := getF X126 hx hZ hown (host := "") (Or.inl (hw _ (List.mem_of_getElem? (i := 43) rfl))) Via.refl e126 A0.2.2.2.2.2.2.2.1 (g := (mkF m 94 #[.val (.ref r0), .val (.ref r1), .val (.ref r1)] [(.ref r0)])) rfl rfl (hb hby d11_94)
    refine own_by st128 ?_
    show own_Comes p e below s _ _ _ (T128.setTop (mkF m 97 #[.val (.ref r0), .val (.ref r1), .val (.ref r1)] [(.ref em)]))
    refine own_by (fun _ kS => XS.aloadN X128.here hx rfl (hb hby d11_97) rfl rfl kS) ?_
    show own_Comes p e below s _ _ _ (T128.setTop (mkF m 98 #[.val (.ref r0), .val (.ref r1), .val (.ref r1)] [(.ref r1), (.ref em)]))
    obtain ⟨T129, X129, e129, st129⟩ := getF X128 hx hZ hown (host := "") (Or.inl (hw _ (List.mem_of_getElem? (i := 43) rfl))) Via.refl e128 A1.2.2.2.2.2.2.2.1 (g := (mkF m 98 #[.val (.ref r0), .val (.ref r1), .val (.ref r1)] [(.ref r1), (.ref em)])) rfl rfl (hb hby d11_98)
    refine own_by st129 ?_
    show own_Comes p e below s _ _ _ (T129.setTop (mkF m 101 #[.val (.ref r0), .val (.ref r1), .val (.ref r1)] [(.ref em), (.ref em)]))
    obtain ⟨cq130, kq130, q130a, q130b, q130c⟩ := isOf hZ e129 Em
    obtain ⟨_, _, ⟨T130, L130, k130, n130⟩, -, X130, ⟨Lc130, hQ130, l130, y130, z130⟩, st130⟩ := X129.interfaceBack hx (xi := (⟨"java/util/Map", "equals", "(Ljava/lang/Object;)Z"⟩ : MethodName)) (y := (⟨"java/util/AbstractMap", "equals", "(Ljava/lang/Object;)Z"⟩ : MethodName)) hown (mvT hZ (hw _ (List.mem_of_getElem? (i := 160) rfl))) (mvT hZ (hw _ (List.mem_of_getElem? (i := 161) rfl))) (mvT hZ (hw _ (List.mem_of_getElem? (i := 162) rfl))) (mvT hZ (hw _ (List.mem_of_getElem? (i := 163) rfl))) (mvT hZ (hw _ (List.mem_of_getElem? (i := 164) rfl))) (mvT hZ (hw _ (List.mem_of_getElem? (i := 165) rfl))) (mvT hZ (hw _ (List.mem_of_getElem? (i := 166) rfl))) (mvT hZ (hw _ (List.mem_of_getElem? (i := 167) rfl))) (by decide) (backOfWith (W := 0) (rm26 l Z a0 hw [] em h0 n0 Z0) hZ (hw _ (List.mem_of_getElem? (i := 169) rfl)) (hw _ (List.mem_of_getElem? (i := 168) rfl)) (by decide) (by decide)) q130a q130b q130c (g := (mkF m 101 #[.val (.ref r0), .val (.ref r1), .val (.ref r1)] [(.ref em), (.ref em)])) rfl (by rw [hml]; rfl) (Steps.refl _) (argsL := [(.ref em)]) (rest := []) (lenOf pd__Ljava_lang_Object__Z_838 rfl) rfl (by show 2 * 0 + _ ≤ _; exact Nat.le_of_eq rfl) (hb hby d11_101) (fun _ _ => ⟨rfl, e129, (by decide : 0 + 0 ≤ _), (by decide : 0 + 0 ≤ _)⟩)
    dsimp only [Pt.U, Pt.locs, Pt.cells, Pt.slots] at X130 l130 y130 z130 st130 hQ130
    subst l130 y130 z130
    obtain ⟨rfl, N130q, e130q⟩ := hQ130
    have N130 := Fr.app N126 N130q
    refine own_tr st130 ?_
    have e130 : T130.heap = h0 := e130q
    show own_Comes p e below s _ _ _ (T130.setTop (mkF m 106 #[.val (.ref r0), .val (.ref r1), .val (.ref r1)] [(.int (1 : Int32))]))
    have hb131 : ¬ ((1 : Int32) = (0 : Int32)) := by decide
    refine own_by (fun _ kS => XS.ifNo X130.here hx rfl (hb hby d11_106) rfl ((if0 _ _).trans (feq hb131).1) kS) ?_
    show own_Comes p e below s _ _ _ (T130.setTop (mkF m 109 #[.val (.ref r0), .val (.ref r1), .val (.ref r1)] []))
    refine own_by (fun _ kS => XS.aloadN X130.here hx rfl (hb hby d11_109) rfl rfl kS) ?_
    show own_Comes p e below s _ _ _ (T130.setTop (mkF m 110 #[.val (.ref r0), .val (.ref r1), .val (.ref r1)] [(.ref r0)]))
    obtain ⟨T132, X132, e132, st132⟩ := getF X130 hx hZ hown (host := "") (Or.inl (hw _ (List.mem_of_getElem? (i := 45) rfl))) Via.refl e130 A0.2.2.2.2.2.2.2.2 (g := (mkF m 110 #[.val (.ref r0), .val (.ref r1), .val (.ref r1)] [(.ref r0)])) rfl rfl (hb hby d11_110)
    refine own_by st132 ?_
    show own_Comes p e below s _ _ _ (T132.setTop (mkF m 113 #[.val (.ref r0), .val (.ref r1), .val (.ref r1)] [.null]))
    refine own_by (fun _ kS => XS.aloadN X132.here hx rfl (hb hby d11_113) rfl rfl kS) ?_
    show own_Comes p e below s _ _ _ (T132.setTop (mkF m 114 #[.val (.ref r0), .val (.ref r1), .val (.ref r1)] [(.ref r1), .null]))
    obtain ⟨T133, X133, e133, st133⟩ := getF X132 hx hZ hown (host := "") (Or.inl (hw _ (List.mem_of_getElem? (i := 45) rfl))) Via.refl e132 A1.2.2.2.2.2.2.2.2 (g := (mkF m 114 #[.val (.ref r0), .val (.ref r1), .val (.ref r1)] [(.ref r1), .null])) rfl rfl (hb hby d11_114)
    refine own_by st133 ?_
    show own_Comes p e below s _ _ _ (T133.setTop (mkF m 117 #[.val (.ref r0), .val (.ref r1), .val (.ref r1)] [.null, .null]))
    obtain ⟨_, _, ⟨T134, L134, k134, n134⟩, -, X134, ⟨Lc134, hQ134, l134, y134, z134⟩, st134⟩ := Jvm.LawKit.callS X133 hx (y := (⟨"java/util/Objects", "equals", "(Ljava/lang/Object;Ljava/lang/Object;)Z"⟩ : MethodName)) hown (mvT hZ (hw _ (List.mem_of_getElem? (i := 74) rfl))) (mvT hZ (hw _ (List.mem_of_getElem? (i := 75) rfl))) (mvT hZ (hw _ (List.mem_of_getElem? (i := 76) rfl))) (mvT hZ (hw _ (List.mem_of_getElem? (i := 77) rfl))) (by decide) (backOf (W := 0) (rm12nn l Z a0 hw []  h0 n0 Z0) hZ (hw _ (List.mem_of_getElem? (i := 77) rfl)) (hw _ (List.mem_of_getElem? (i := 76) rfl)) (by decide) (by decide)) (g := (mkF m 117 #[.val (.ref r0), .val (.ref r1), .val (.ref r1)] [.null, .null])) rfl (by rw [hml]; rfl) (argsL := [.null, .null]) (rest := []) (lenOf pd__Ljava_lang_Object_Ljava_lang_Object__Z_508 rfl) rfl (by show 2 * 0 + _ ≤ _; exact Nat.le_of_eq rfl) (hb hby d11_117) (fun _ _ => ⟨rfl, e133, (by decide : 0 + 0 ≤ _), (by decide : 0 + 0 ≤ _)⟩)
    dsimp only [Pt.U, Pt.locs, Pt.cells, Pt.slots] at X134 l134 y134 z134 st134 hQ134
    subst l134 y134 z134
    obtain ⟨rfl, N134q, e134q⟩ := hQ134
    have N134 := Fr.app N130 N134q
    refine own_by st134 ?_
    have e134 : T134.heap = h0 := e134q
    show own_Comes p e below s _ _ _ (T134.setTop (mkF m 120 #[.val (.ref r0), .val (.ref r1), .val (.ref r1)] [(.int (1 : Int32))]))
    have hb135 : ¬ ((1 : Int32) = (0 : Int32)) := by decide
    refine own_by (fun _ kS => XS.ifNo X134.here hx rfl (hb hby d11_120) rfl ((if0 _ _).trans (feq hb135).1) kS) ?_
    show own_Comes p e below s _ _ _ (T134.setTop (mkF m 123 #[.val (.ref r0), .val (.ref r1), .val (.ref r1)] []))
    refine own_by (fun _ kS => XS.iconst X134.here hx rfl (hb hby d11_123) kS) ?_
    show own_Comes p e below s _ _ _ (T134.setTop (mkF m 124 #[.val (.ref r0), .val (.ref r1), .val (.ref r1)] [(.int (1 : Int32))]))
    refine own_by (fun _ kS => XS.goto X134.here hx rfl (pc0 := 124) (pc' := 128) rfl (hb hby d11_124) (by decide) (by decide) kS) ?_
    show own_Comes p e below s _ _ _ (T134.setTop (mkF m 128 #[.val (.ref r0), .val (.ref r1), .val (.ref r1)] [(.int (1 : Int32))]))
    have heq : x0 = x1 := hz111.elim (fun q => q.2) (fun q => absurd q.1 hq)
    refine own_ret X134 (v := some (.int (1 : Int32))) (fun h => by rw [Bd.returns] at h; cases h) Bd.notSynchronized (by decide) (by decide) ?_ (fun fs hr => retN X134 hx (t := .boolean) Bd.returns (by simp) (hb hby d11_128) hr)
    rw [e134]; exact ⟨_, rfl, N134, rfl, Or.inl ⟨rfl, heq⟩⟩
def Q11l (Z : State)  (h0 : Heap) (n0 : Nat) (v : Option Value) (h : Heap) (L : List Loc) : Prop := v = some (.int (0 : Int32)) ∧ Fr n0 L ∧ h = h0
theorem ef_rm11l (m : MethodId) (x0 : Addr) (x1 : Addr) : entryFrame m #[(.ref x0), (.ref x1)] 3 = mkF m 0 #[.val (.ref x0), .val (.ref x1), .unset] [] := by first | (simp [entryFrame, mkF, argsToLocals, Value.category]; done) | rfl
set_option maxRecDepth 65536 in
set_option maxHeartbeats 40000000 in
theorem rm11l (l : Launch) (Z : State) (a0 : Array Value) (hw : ∀ d ∈ tables_1, d.before a0 Z = true) (ws : List Jvm.Cond) (r0 r1 k v0 w0 em : Addr) (h0 : Heap) (n0 : Nat) (Z0 : n0 ≤ h0.size) (A0 : own_An Z h0 r0 k (.ref v0) em) (A1 : own_An Z h0 r1 k (.ref w0) em) (Em : Exa Z h0 em "java/util/ImmutableCollections$MapN") (E1 : Exa Z h0 w0 "java/lang/Integer") (E0 : Exa Z h0 v0 "java/lang/Long") :
    MetFree l (⟨"com/example/layered_mocks/layeredmocks/Answer", "equals", "(Ljava/lang/Object;)Z"⟩ : MethodName) (head1 (Jvm.Cond.code (⟨"com/example/layered_mocks/layeredmocks/Answer", "equals", "(Ljava/lang/Object;)Z"⟩ : MethodName) prog_1_method_16_code 3 (some .boolean) :: ws) ({ frames := 2, cells := 0, slots := 0, locals := 26 } : Room)) (fun aX UX => aX = #[(.ref r0), (.ref r1)] ∧ Z.Warmed39 UX.vm ∧ UX.heap = h0) (fun _ _ _ _ _ => True) (fun _ UX oX UX' => ∃ vX LX, oX = .returned vX ∧ Q11l Z  h0 n0 vX UX'.heap LX ∧ FrameEnd UX oX UX' LX ({ frames := 2, cells := 0, slots := 0, locals := 26 } : Room).cells ({ frames := 2, cells := 0, slots := 0, locals := 26 } : Room).slots) := by
  refine MetFree.of_bodySF (plainFor_of_name pn_com_example_layered_mocks_layeredmocks_Answer) hisR ?_
  intro p e s m args below meth c s₁ Bd hml0 hP hK
  obtain ⟨rfl, hZ, hh⟩ := hP
  have hx := Bd.exec
  have hby := Bd.bytes
  have hml : c.maxLocals = 3 := hml0
  have hown : s.vm.findClass "com/example/layered_mocks/layeredmocks/Answer" = some m.cls := findClass_of_methodNamed Bd.named
  have hnm := (name_of_methodNamed Bd.named Bd.method).1
  have X0 : Stand p l e ({ frames := 2, cells := 0, slots := 0, locals := 26 } : Room) s m #[(.ref r0), (.ref r1)] below meth c s₁ [] 0 0 := Stand.of_body Bd
  have e0 : s₁.heap = h0 := by rw [← hh, Bd.state]; rfl
  have N0 := Fr.nil n0
  show own_Comes p e below s ({ frames := 2, cells := 0, slots := 0, locals := 26 } : Room).cells ({ frames := 2, cells := 0, slots := 0, locals := 26 } : Room).slots (Q11l Z  h0 n0) _
  rw [show entryFrame m #[(.ref r0), (.ref r1)] 3 = mkF m 0 #[.val (.ref r0), .val (.ref r1), .unset] [] from ef_rm11l m r0 r1]
  show own_Comes p e below s _ _ _ (s₁.setTop (mkF m 0 #[.val (.ref r0), .val (.ref r1), .unset] []))
  refine own_by (fun _ kS => XS.aloadN X0.here hx rfl (hb hby d11_0) rfl rfl kS) ?_
  show own_Comes p e below s _ _ _ (s₁.setTop (mkF m 1 #[.val (.ref r0), .val (.ref r1), .unset] [(.ref r1)]))
  obtain ⟨T136, X136, e136, st136⟩ := instY X0 hx hZ hown (hw _ (List.mem_of_getElem? (i := 11) rfl)) e0 (Ins.self A1.1) (g := (mkF m 1 #[.val (.ref r0), .val (.ref r1), .unset] [(.ref r1)])) rfl rfl (hb hby d11_1)
  refine own_by st136 ?_
  show own_Comes p e below s _ _ _ (T136.setTop (mkF m 4 #[.val (.ref r0), .val (.ref r1), .unset] [(.int (1 : Int32))]))
  have hb137 : ¬ ((1 : Int32) = (0 : Int32)) := by decide
  refine own_by (fun _ kS => XS.ifNo X136.here hx rfl (hb hby d11_4) rfl ((if0 _ _).trans (feq hb137).1) kS) ?_
  show own_Comes p e below s _ _ _ (T136.setTop (mkF m 7 #[.val (.ref r0), .val (.ref r1), .unset] []))
  refine own_by (fun _ kS => XS.aloadN X136.here hx rfl (hb hby d11_7) rfl rfl kS) ?_
  show own_Comes p e below s _ _ _ (T136.setTop (mkF m 8 #[.val (.ref r0), .val (.ref r1), .unset] [(.ref r1)]))
  obtain ⟨T138, X138, e138, st138⟩ := castY X136 hx hZ hown (hw _ (List.mem_of_getElem? (i := 11) rfl)) e136 (Ins.self A1.1) (g := (mkF m 8 #[.val (.ref r0), .val (.ref r1), .unset] [(.ref r1)])) rfl rfl (hb hby d11_8)
  refine own_by st138 ?_
  show own_Comes p e below s _ _ _ (T138.setTop (mkF m 11 #[.val (.ref r0), .val (.ref r1), .unset] [(.ref r1)]))
  refine own_by (fun _ kS => XS.astoreN X138.here hx rfl (hb hby d11_11) rfl rfl (l' := #[.val (.ref r0), .val (.ref r1), .val (.ref r1)]) rfl kS) ?_
  show own_Comes p e below s _ _ _ (T138.setTop (mkF m 12 #[.val (.ref r0), .val (.ref r1), .val (.ref r1)] []))
  refine own_by (fun _ kS => XS.aloadN X138.here hx rfl (hb hby d11_12) rfl rfl kS) ?_
  show own_Comes p e below s _ _ _ (T138.setTop (mkF m 13 #[.val (.ref r0), .val (.ref r1), .val (.ref r1)] [(.ref r0)]))
  obtain ⟨T139, X139, e139, st139⟩ := getF X138 hx hZ hown (host := "") (Or.inl (hw _ (List.mem_of_getElem? (i := 31) rfl))) Via.refl e138 A0.2.1 (g := (mkF m 13 #[.val (.ref r0), .val (.ref r1), .val (.ref r1)] [(.ref r0)])) rfl rfl (hb hby d11_13)
  refine own_by st139 ?_
  show own_Comes p e below s _ _ _ (T139.setTop (mkF m 16 #[.val (.ref r0), .val (.ref r1), .val (.ref r1)] [(.ref k)]))
  refine own_by (fun _ kS => XS.aloadN X139.here hx rfl (hb hby d11_16) rfl rfl kS) ?_
  show own_Comes p e below s _ _ _ (T139.setTop (mkF m 17 #[.val (.ref r0), .val (.ref r1), .val (.ref r1)] [(.ref r1), (.ref k)]))
  obtain ⟨T140, X140, e140, st140⟩ := getF X139 hx hZ hown (host := "") (Or.inl (hw _ (List.mem_of_getElem? (i := 31) rfl))) Via.refl e139 A1.2.1 (g := (mkF m 17 #[.val (.ref r0), .val (.ref r1), .val (.ref r1)] [(.ref r1), (.ref k)])) rfl rfl (hb hby d11_17)
  refine own_by st140 ?_
  show own_Comes p e below s _ _ _ (T140.setTop (mkF m 20 #[.val (.ref r0), .val (.ref r1), .val (.ref r1)] [(.ref k), (.ref k)]))
  refine own_by (fun _ kS => Jvm.RoadKit.acmp (g := (mkF m 20 #[.val (.ref r0), .val (.ref r1), .val (.ref r1)] [(.ref k), (.ref k)])) X140 hx rfl rfl rfl (pc0 := 20) (pc' := 23) (same := true) rfl (hb hby d11_20) rfl (decide_eq_true rfl) (by decide) (by decide) kS) ?_
  show own_Comes p e below s _ _ _ (T140.setTop (mkF m 23 #[.val (.ref r0), .val (.ref r1), .val (.ref r1)] []))
  refine own_by (fun _ kS => XS.aloadN X140.here hx rfl (hb hby d11_23) rfl rfl kS) ?_
  show own_Comes p e below s _ _ _ (T140.setTop (mkF m 24 #[.val (.ref r0), .val (.ref r1), .val (.ref r1)] [(.ref r0)]))
  obtain ⟨T141, X141, e141, st141⟩ := getF X140 hx hZ hown (host := "") (Or.inl (hw _ (List.mem_of_getElem? (i := 33) rfl))) Via.refl e140 A0.2.2.1 (g := (mkF m 24 #[.val (.ref r0), .val (.ref r1), .val (.ref r1)] [(.ref r0)])) rfl rfl (hb hby d11_24)
  refine own_by st141 ?_
  show own_Comes p e below s _ _ _ (T141.setTop (mkF m 27 #[.val (.ref r0), .val (.ref r1), .val (.ref r1)] [(.ref v0)]))
  refine own_by (fun _ kS => XS.aloadN X141.here hx rfl (hb hby d11_27) rfl rfl kS) ?_
  show own_Comes p e below s _ _ _ (T141.setTop (mkF m 28 #[.val (.ref r0), .val (.ref r1), .val (.ref r1)] [(.ref r1), (.ref v0)]))
  obtain ⟨T142, X142, e142, st142⟩ := getF X141 hx hZ hown (host := "") (Or.inl (hw _ (List.mem_of_getElem? (i := 33) rfl))) Via.refl e141 A1.2.2.1 (g := (mkF m 28 #[.val (.ref r0), .val (.ref r1), .val (.ref r1)] [(.ref r1), (.ref v0)])) rfl rfl (hb hby d11_28)
  refine own_by st142 ?_
  show own_Comes p e below s _ _ _ (T142.setTop (mkF m 31 #[.val (.ref r0), .val (.ref r1), .val (.ref r1)] [(.ref w0), (.ref v0)]))
  obtain ⟨_, _, ⟨T143, L143, k143, n143⟩, -, X143, ⟨Lc143, hQ143, l143, y143, z143⟩, st143⟩ := Jvm.LawKit.callS X142 hx (y := (⟨"java/util/Objects", "equals", "(Ljava/lang/Object;Ljava/lang/Object;)Z"⟩ : MethodName)) hown (mvT hZ (hw _ (List.mem_of_getElem? (i := 74) rfl))) (mvT hZ (hw _ (List.mem_of_getElem? (i := 75) rfl))) (mvT hZ (hw _ (List.mem_of_getElem? (i := 76) rfl))) (mvT hZ (hw _ (List.mem_of_getElem? (i := 77) rfl))) (by decide) (backOf (W := 0) (rm12l l Z a0 hw [] v0 w0 h0 n0 Z0 E0 E1) hZ (hw _ (List.mem_of_getElem? (i := 77) rfl)) (hw _ (List.mem_of_getElem? (i := 76) rfl)) (by decide) (by decide)) (g := (mkF m 31 #[.val (.ref r0), .val (.ref r1), .val (.ref r1)] [(.ref w0), (.ref v0)])) rfl (by rw [hml]; rfl) (argsL := [(.ref v0), (.ref w0)]) (rest := []) (lenOf pd__Ljava_lang_Object_Ljava_lang_Object__Z_508 rfl) rfl (by show 2 * 0 + _ ≤ _; exact Nat.le_of_eq rfl) (hb hby d11_31) (fun _ _ => ⟨rfl, e142, (by decide : 0 + 0 ≤ _), (by decide : 0 + 0 ≤ _)⟩)
  dsimp only [Pt.U, Pt.locs, Pt.cells, Pt.slots] at X143 l143 y143 z143 st143 hQ143
  subst l143 y143 z143
  obtain ⟨rfl, N143q, e143q⟩ := hQ143
  have N143 := Fr.app N0 N143q
  refine own_by st143 ?_
  have e143 : T143.heap = h0 := e143q
  show own_Comes p e below s _ _ _ (T143.setTop (mkF m 34 #[.val (.ref r0), .val (.ref r1), .val (.ref r1)] [(.int (0 : Int32))]))
  have hb144 : (0 : Int32) = (0 : Int32) := by decide
  refine own_by (fun _ kS => XS.ifYes X143.here hx rfl (pc0 := 34) (pc' := 127) rfl (hb hby d11_34) rfl ((if0 _ _).trans (teq hb144).1) (by decide) (by decide) kS) ?_
  show own_Comes p e below s _ _ _ (T143.setTop (mkF m 127 #[.val (.ref r0), .val (.ref r1), .val (.ref r1)] []))
  refine own_by (fun _ kS => XS.iconst X143.here hx rfl (hb hby d11_127) kS) ?_
  show own_Comes p e below s _ _ _ (T143.setTop (mkF m 128 #[.val (.ref r0), .val (.ref r1), .val (.ref r1)] [(.int (0 : Int32))]))
  refine own_ret X143 (v := some (.int (0 : Int32))) (fun h => by rw [Bd.returns] at h; cases h) Bd.notSynchronized (by decide) (by decide) ?_ (fun fs hr => retN X143 hx (t := .boolean) Bd.returns (by simp) (hb hby d11_128) hr)
  rw [e143]; exact ⟨rfl, N143, rfl⟩
def Q11s (Z : State)  (h0 : Heap) (n0 : Nat) (v : Option Value) (h : Heap) (L : List Loc) : Prop := v = some (.int (0 : Int32)) ∧ Fr n0 L ∧ h = h0
theorem ef_rm11s (m : MethodId) (x0 : Addr) (x1 : Addr) : entryFrame m #[(.ref x0), (.ref x1)] 3 = mkF m 0 #[.val (.ref x0), .val (.ref x1), .unset] [] := by first | (simp [entryFrame, mkF, argsToLocals, Value.category]; done) | rfl
set_option maxRecDepth 65536 in
set_option maxHeartbeats 40000000 in
theorem rm11s (l : Launch) (Z : State) (a0 : Array Value) (hw : ∀ d ∈ tables_1, d.before a0 Z = true) (ws : List Jvm.Cond) (r0 r1 k v0 w0 em : Addr) (h0 : Heap) (n0 : Nat) (Z0 : n0 ≤ h0.size) (A0 : own_An Z h0 r0 k (.ref v0) em) (A1 : own_An Z h0 r1 k (.ref w0) em) (Em : Exa Z h0 em "java/util/ImmutableCollections$MapN") (E1 : Exa Z h0 w0 "java/lang/Integer") (E0 : Exa Z h0 v0 "java/lang/String") :
    MetFree l (⟨"com/example/layered_mocks/layeredmocks/Answer", "equals", "(Ljava/lang/Object;)Z"⟩ : MethodName) (head1 (Jvm.Cond.code (⟨"com/example/layered_mocks/layeredmocks/Answer", "equals", "(Ljava/lang/Object;)Z"⟩ : MethodName) prog_1_method_16_code 3 (some .boolean) :: ws) ({ frames := 2, cells := 0, slots := 0, locals := 27 } : Room)) (fun aX UX => aX = #[(.ref r0), (.ref r1)] ∧ Z.Warmed39 UX.vm ∧ UX.heap = h0) (fun _ _ _ _ _ => True) (fun _ UX oX UX' => ∃ vX LX, oX = .returned vX ∧ Q11s Z  h0 n0 vX UX'.heap LX ∧ FrameEnd UX oX UX' LX ({ frames := 2, cells := 0, slots := 0, locals := 27 } : Room).cells ({ frames := 2, cells := 0, slots := 0, locals := 27 } : Room).slots) := by
  refine MetFree.of_bodySF (plainFor_of_name pn_com_example_layered_mocks_layeredmocks_Answer) hisR ?_
  intro p e s m args below meth c s₁ Bd hml0 hP hK
  obtain ⟨rfl, hZ, hh⟩ := hP
  have hx := Bd.exec
  have hby := Bd.bytes
  have hml : c.maxLocals = 3 := hml0
  have hown : s.vm.findClass "com/example/layered_mocks/layeredmocks/Answer" = some m.cls := findClass_of_methodNamed Bd.named
  have hnm := (name_of_methodNamed Bd.named Bd.method).1
  have X0 : Stand p l e ({ frames := 2, cells := 0, slots := 0, locals := 27 } : Room) s m #[(.ref r0), (.ref r1)] below meth c s₁ [] 0 0 := Stand.of_body Bd
  have e0 : s₁.heap = h0 := by rw [← hh, Bd.state]; rfl
  have N0 := Fr.nil n0
  show own_Comes p e below s ({ frames := 2, cells := 0, slots := 0, locals := 27 } : Room).cells ({ frames := 2, cells := 0, slots := 0, locals := 27 } : Room).slots (Q11s Z  h0 n0) _
  rw [show entryFrame m #[(.ref r0), (.ref r1)] 3 = mkF m 0 #[.val (.ref r0), .val (.ref r1), .unset] [] from ef_rm11s m r0 r1]
  show own_Comes p e below s _ _ _ (s₁.setTop (mkF m 0 #[.val (.ref r0), .val (.ref r1), .unset] []))
  refine own_by (fun _ kS => XS.aloadN X0.here hx rfl (hb hby d11_0) rfl rfl kS) ?_
  show own_Comes p e below s _ _ _ (s₁.setTop (mkF m 1 #[.val (.ref r0), .val (.ref r1), .unset] [(.ref r1)]))
  obtain ⟨T145, X145, e145, st145⟩ := instY X0 hx hZ hown (hw _ (List.mem_of_getElem? (i := 11) rfl)) e0 (Ins.self A1.1) (g := (mkF m 1 #[.val (.ref r0), .val (.ref r1), .unset] [(.ref r1)])) rfl rfl (hb hby d11_1)
  refine own_by st145 ?_
  show own_Comes p e below s _ _ _ (T145.setTop (mkF m 4 #[.val (.ref r0), .val (.ref r1), .unset] [(.int (1 : Int32))]))
  have hb146 : ¬ ((1 : Int32) = (0 : Int32)) := by decide
  refine own_by (fun _ kS => XS.ifNo X145.here hx rfl (hb hby d11_4) rfl ((if0 _ _).trans (feq hb146).1) kS) ?_
  show own_Comes p e below s _ _ _ (T145.setTop (mkF m 7 #[.val (.ref r0), .val (.ref r1), .unset] []))
  refine own_by (fun _ kS => XS.aloadN X145.here hx rfl (hb hby d11_7) rfl rfl kS) ?_
  show own_Comes p e below s _ _ _ (T145.setTop (mkF m 8 #[.val (.ref r0), .val (.ref r1), .unset] [(.ref r1)]))
  obtain ⟨T147, X147, e147, st147⟩ := castY X145 hx hZ hown (hw _ (List.mem_of_getElem? (i := 11) rfl)) e145 (Ins.self A1.1) (g := (mkF m 8 #[.val (.ref r0), .val (.ref r1), .unset] [(.ref r1)])) rfl rfl (hb hby d11_8)
  refine own_by st147 ?_
  show own_Comes p e below s _ _ _ (T147.setTop (mkF m 11 #[.val (.ref r0), .val (.ref r1), .unset] [(.ref r1)]))
  refine own_by (fun _ kS => XS.astoreN X147.here hx rfl (hb hby d11_11) rfl rfl (l' := #[.val (.ref r0), .val (.ref r1), .val (.ref r1)]) rfl kS) ?_
  show own_Comes p e below s _ _ _ (T147.setTop (mkF m 12 #[.val (.ref r0), .val (.ref r1), .val (.ref r1)] []))
  refine own_by (fun _ kS => XS.aloadN X147.here hx rfl (hb hby d11_12) rfl rfl kS) ?_
  show own_Comes p e below s _ _ _ (T147.setTop (mkF m 13 #[.val (.ref r0), .val (.ref r1), .val (.ref r1)] [(.ref r0)]))
  obtain ⟨T148, X148, e148, st148⟩ := getF X147 hx hZ hown (host := "") (Or.inl (hw _ (List.mem_of_getElem? (i := 31) rfl))) Via.refl e147 A0.2.1 (g := (mkF m 13 #[.val (.ref r0), .val (.ref r1), .val (.ref r1)] [(.ref r0)])) rfl rfl (hb hby d11_13)
  refine own_by st148 ?_
  show own_Comes p e below s _ _ _ (T148.setTop (mkF m 16 #[.val (.ref r0), .val (.ref r1), .val (.ref r1)] [(.ref k)]))
  refine own_by (fun _ kS => XS.aloadN X148.here hx rfl (hb hby d11_16) rfl rfl kS) ?_
  show own_Comes p e below s _ _ _ (T148.setTop (mkF m 17 #[.val (.ref r0), .val (.ref r1), .val (.ref r1)] [(.ref r1), (.ref k)]))
  obtain ⟨T149, X149, e149, st149⟩ := getF X148 hx hZ hown (host := "") (Or.inl (hw _ (List.mem_of_getElem? (i := 31) rfl))) Via.refl e148 A1.2.1 (g := (mkF m 17 #[.val (.ref r0), .val (.ref r1), .val (.ref r1)] [(.ref r1), (.ref k)])) rfl rfl (hb hby d11_17)
  refine own_by st149 ?_
  show own_Comes p e below s _ _ _ (T149.setTop (mkF m 20 #[.val (.ref r0), .val (.ref r1), .val (.ref r1)] [(.ref k), (.ref k)]))
  refine own_by (fun _ kS => Jvm.RoadKit.acmp (g := (mkF m 20 #[.val (.ref r0), .val (.ref r1), .val (.ref r1)] [(.ref k), (.ref k)])) X149 hx rfl rfl rfl (pc0 := 20) (pc' := 23) (same := true) rfl (hb hby d11_20) rfl (decide_eq_true rfl) (by decide) (by decide) kS) ?_
  show own_Comes p e below s _ _ _ (T149.setTop (mkF m 23 #[.val (.ref r0), .val (.ref r1), .val (.ref r1)] []))
  refine own_by (fun _ kS => XS.aloadN X149.here hx rfl (hb hby d11_23) rfl rfl kS) ?_
  show own_Comes p e below s _ _ _ (T149.setTop (mkF m 24 #[.val (.ref r0), .val (.ref r1), .val (.ref r1)] [(.ref r0)]))
  obtain ⟨T150, X150, e150, st150⟩ := getF X149 hx hZ hown (host := "") (Or.inl (hw _ (List.mem_of_getElem? (i := 33) rfl))) Via.refl e149 A0.2.2.1 (g := (mkF m 24 #[.val (.ref r0), .val (.ref r1), .val (.ref r1)] [(.ref r0)])) rfl rfl (hb hby d11_24)
  refine own_by st150 ?_
  show own_Comes p e below s _ _ _ (T150.setTop (mkF m 27 #[.val (.ref r0), .val (.ref r1), .val (.ref r1)] [(.ref v0)]))
  refine own_by (fun _ kS => XS.aloadN X150.here hx rfl (hb hby d11_27) rfl rfl kS) ?_
  show own_Comes p e below s _ _ _ (T150.setTop (mkF m 28 #[.val (.ref r0), .val (.ref r1), .val (.ref r1)] [(.ref r1), (.ref v0)]))
  obtain ⟨T151, X151, e151, st151⟩ := getF X150 hx hZ hown (host := "") (Or.inl (hw _ (List.mem_of_getElem? (i := 33) rfl))) Via.refl e150 A1.2.2.1 (g := (mkF m 28 #[.val (.ref r0), .val (.ref r1), .val (.ref r1)] [(.ref r1), (.ref v0)])) rfl rfl (hb hby d11_28)
  refine own_by st151 ?_
  show own_Comes p e below s _ _ _ (T151.setTop (mkF m 31 #[.val (.ref r0), .val (.ref r1), .val (.ref r1)] [(.ref w0), (.ref v0)]))
  obtain ⟨_, _, ⟨T152, L152, k152, n152⟩, -, X152, ⟨Lc152, hQ152, l152, y152, z152⟩, st152⟩ := Jvm.LawKit.callS X151 hx (y := (⟨"java/util/Objects", "equals", "(Ljava/lang/Object;Ljava/lang/Object;)Z"⟩ : MethodName)) hown (mvT hZ (hw _ (List.mem_of_getElem? (i := 74) rfl))) (mvT hZ (hw _ (List.mem_of_getElem? (i := 75) rfl))) (mvT hZ (hw _ (List.mem_of_getElem? (i := 76) rfl))) (mvT hZ (hw _ (List.mem_of_getElem? (i := 77) rfl))) (by decide) (backOf (W := 0) (rm12s l Z a0 hw [] v0 w0 h0 n0 Z0 E0 E1) hZ (hw _ (List.mem_of_getElem? (i := 77) rfl)) (hw _ (List.mem_of_getElem? (i := 76) rfl)) (by decide) (by decide)) (g := (mkF m 31 #[.val (.ref r0), .val (.ref r1), .val (.ref r1)] [(.ref w0), (.ref v0)])) rfl (by rw [hml]; rfl) (argsL := [(.ref v0), (.ref w0)]) (rest := []) (lenOf pd__Ljava_lang_Object_Ljava_lang_Object__Z_508 rfl) rfl (by show 2 * 0 + _ ≤ _; exact Nat.le_of_eq rfl) (hb hby d11_31) (fun _ _ => ⟨rfl, e151, (by decide : 0 + 0 ≤ _), (by decide : 0 + 0 ≤ _)⟩)
  dsimp only [Pt.U, Pt.locs, Pt.cells, Pt.slots] at X152 l152 y152 z152 st152 hQ152
  subst l152 y152 z152
  obtain ⟨rfl, N152q, e152q⟩ := hQ152
  have N152 := Fr.app N0 N152q
  refine own_by st152 ?_
  have e152 : T152.heap = h0 := e152q
  show own_Comes p e below s _ _ _ (T152.setTop (mkF m 34 #[.val (.ref r0), .val (.ref r1), .val (.ref r1)] [(.int (0 : Int32))]))
  have hb153 : (0 : Int32) = (0 : Int32) := by decide
  refine own_by (fun _ kS => XS.ifYes X152.here hx rfl (pc0 := 34) (pc' := 127) rfl (hb hby d11_34) rfl ((if0 _ _).trans (teq hb153).1) (by decide) (by decide) kS) ?_
  show own_Comes p e below s _ _ _ (T152.setTop (mkF m 127 #[.val (.ref r0), .val (.ref r1), .val (.ref r1)] []))
  refine own_by (fun _ kS => XS.iconst X152.here hx rfl (hb hby d11_127) kS) ?_
  show own_Comes p e below s _ _ _ (T152.setTop (mkF m 128 #[.val (.ref r0), .val (.ref r1), .val (.ref r1)] [(.int (0 : Int32))]))
  refine own_ret X152 (v := some (.int (0 : Int32))) (fun h => by rw [Bd.returns] at h; cases h) Bd.notSynchronized (by decide) (by decide) ?_ (fun fs hr => retN X152 hx (t := .boolean) Bd.returns (by simp) (hb hby d11_128) hr)
  rw [e152]; exact ⟨rfl, N152, rfl⟩
def Q0 (Z : State) (h0 : Heap) (n0 : Nat) (v : Option Value) (h : Heap) (L : List Loc) : Prop := v = some (.int (1 : Int32)) ∧ Fr n0 L
theorem ef_rm0 (m : MethodId) (x0 : Int32) (x1 : Int32) (x2 : Int32) (x3 : Int64) (x4 : Int32) : entryFrame m #[(.int x0), (.int x1), (.int x2), (.long x3), (.int x4)] maxLocals = mkF m 0 #[.val (.int x0), .val (.int x1), .val (.int x2), .val (.long x3), .second, .val (.int x4), .unset, .unset, .unset, .unset, .unset, .unset] [] := by first | (simp [entryFrame, mkF, argsToLocals, Value.category, maxLocals]; done) | rfl
theorem pn_com_example_layered_mocks_layeredmocks_AnswerValuePinLaw : plainName "com/example/layered_mocks/layeredmocks/AnswerValuePinLaw" = true := by first | (simp [plainName, overriddenIn]; done) | decide +kernel
theorem pd__I_Ljava_lang_Integer__940 : parseMethodDescriptor "(I)Ljava/lang/Integer;" = some ⟨[.int], some (.object "java/lang/Integer")⟩ := by decide +kernel
theorem pd__Ljava_lang_Object__Lcom_example_layered_mocks_layeredmocks_Answer__438 : parseMethodDescriptor "(Ljava/lang/Object;)Lcom/example/layered_mocks/layeredmocks/Answer;" = some ⟨[(.object "java/lang/Object")], some (.object "com/example/layered_mocks/layeredmocks/Answer")⟩ := by decide +kernel
theorem pd___Lcom_example_layered_mocks_layeredmocks_Answer_Kind__197 : parseMethodDescriptor "()Lcom/example/layered_mocks/layeredmocks/Answer$Kind;" = some ⟨[], some (.object "com/example/layered_mocks/layeredmocks/Answer$Kind")⟩ := by decide +kernel
theorem pd___Ljava_lang_Object__748 : parseMethodDescriptor "()Ljava/lang/Object;" = some ⟨[], some (.object "java/lang/Object")⟩ := by decide +kernel
theorem pd___Ljava_lang_Throwable__88 : parseMethodDescriptor "()Ljava/lang/Throwable;" = some ⟨[], some (.object "java/lang/Throwable")⟩ := by decide +kernel
theorem pd___Ljava_time_Duration__3 : parseMethodDescriptor "()Ljava/time/Duration;" = some ⟨[], some (.object "java/time/Duration")⟩ := by decide +kernel
theorem pd__J_Ljava_lang_Long__623 : parseMethodDescriptor "(J)Ljava/lang/Long;" = some ⟨[.long], some (.object "java/lang/Long")⟩ := by decide +kernel
theorem pd___C_V_325 : parseMethodDescriptor "([C)V" = some ⟨[(.array .char)], none⟩ := by decide +kernel
set_option maxRecDepth 65536 in
set_option maxHeartbeats 40000000 in
theorem rm0 (l : Launch) (Z : State) (a0 : Array Value) (hw : ∀ d ∈ tables_1, d.before a0 Z = true) (ws : List Jvm.Cond) (p0 p1 p2 : Int32) (q3 : Int64) (p4 : Int32) (ca la em k : Addr) (cc cl : Cell) (zc : Int32) (h0 : Heap) (n0 : Nat) (Z0 : n0 ≤ h0.size) (O0 : Old Z n0 h0) (Sh : Sta Z Z.heap "java/lang/Integer$IntegerCache" "high" "I" (.int (127 : Int32))) (Sc : Sta Z Z.heap "java/lang/Integer$IntegerCache" "cache" "[Ljava/lang/Integer;" (.ref ca)) (Bx : Bxs Z ca cc "java/lang/Integer" "I" (256 : Int32) (fun j => .int (j - (128 : Int32)))) (Sl : Sta Z Z.heap "java/lang/Long$LongCache" "cache" "[Ljava/lang/Long;" (.ref la)) (Bl : Bxs Z la cl "java/lang/Long" "J" (256 : Int32) (fun j => .long (j - (128 : Int32)).toInt64)) (Se : Sta Z Z.heap "java/util/ImmutableCollections" "EMPTY_MAP" "Ljava/util/ImmutableCollections$MapN;" (.ref em)) (Em : Exa Z Z.heap em "java/util/ImmutableCollections$MapN") (Sk : Sta Z Z.heap "com/example/layered_mocks/layeredmocks/Answer$Kind" "VALUE" "Lcom/example/layered_mocks/layeredmocks/Answer$Kind;" (.ref k)) (Sz : Sta Z Z.heap "java/lang/String" "COMPACT_STRINGS" "Z" (.int zc)) (hzc : ¬ zc = 0) :
    MetFree l x (head1 (Jvm.Cond.code x code maxLocals ret :: ws) room_1) (fun aX UX => aX = #[(.int p0), (.int p1), (.int p2), (.long q3), (.int p4)] ∧ Z.Warmed39 UX.vm ∧ UX.heap = h0) (fun _ _ _ _ _ => True) (fun _ UX oX UX' => ∃ vX LX, oX = .returned vX ∧ Q0 Z  h0 n0 vX UX'.heap LX ∧ FrameEnd UX oX UX' LX room_1.cells room_1.slots) := by
  refine MetFree.of_bodySF (plainFor_of_name pn_com_example_layered_mocks_layeredmocks_AnswerValuePinLaw) hisR ?_
  intro p e s m args below meth c s₁ Bd hml0 hP hK
  obtain ⟨rfl, hZ, hh⟩ := hP
  have hx := Bd.exec
  have hby := Bd.bytes
  have hml : c.maxLocals = 12 := hml0
  have hown : s.vm.findClass "com/example/layered_mocks/layeredmocks/AnswerValuePinLaw" = some m.cls := findClass_of_methodNamed Bd.named
  have hnm := (name_of_methodNamed Bd.named Bd.method).1
  have X0 : Stand p l e room_1 s m #[(.int p0), (.int p1), (.int p2), (.long q3), (.int p4)] below meth c s₁ [] 0 0 := Stand.of_body Bd
  have e0 : s₁.heap = h0 := by rw [← hh, Bd.state]; rfl
  have N0 := Fr.nil n0
  show own_Comes p e below s room_1.cells room_1.slots (Q0 Z  h0 n0) _
  rw [show entryFrame m #[(.int p0), (.int p1), (.int p2), (.long q3), (.int p4)] maxLocals = mkF m 0 #[.val (.int p0), .val (.int p1), .val (.int p2), .val (.long q3), .second, .val (.int p4), .unset, .unset, .unset, .unset, .unset, .unset] [] from ef_rm0 m p0 p1 p2 q3 p4]
  show own_Comes p e below s _ _ _ (s₁.setTop (mkF m 0 #[.val (.int p0), .val (.int p1), .val (.int p2), .val (.long q3), .second, .val (.int p4), .unset, .unset, .unset, .unset, .unset, .unset] []))
  refine own_by (fun _ kS => XS.iloadN X0.here hx rfl (hb hby at_0) rfl kS) ?_
  show own_Comes p e below s _ _ _ (s₁.setTop (mkF m 1 #[.val (.int p0), .val (.int p1), .val (.int p2), .val (.long q3), .second, .val (.int p4), .unset, .unset, .unset, .unset, .unset, .unset] [(.int p0)]))
  refine own_by (fun _ kS => XS.iconst X0.here hx rfl (hb hby at_1) kS) ?_
  show own_Comes p e below s _ _ _ (s₁.setTop (mkF m 2 #[.val (.int p0), .val (.int p1), .val (.int p2), .val (.long q3), .second, .val (.int p4), .unset, .unset, .unset, .unset, .unset, .unset] [(.int (3 : Int32)), (.int p0)]))
  refine own_by (fun _ kS => XS.iand X0.here hx rfl (hb hby at_2) rfl kS) ?_
  show own_Comes p e below s _ _ _ (s₁.setTop (mkF m 3 #[.val (.int p0), .val (.int p1), .val (.int p2), .val (.long q3), .second, .val (.int p4), .unset, .unset, .unset, .unset, .unset, .unset] [(.int (p0 &&& (3 : Int32)))]))
  refine own_by (fun _ kS => XS.istore X0.here hx rfl (hb hby at_3) rfl (l' := #[.val (.int p0), .val (.int p1), .val (.int p2), .val (.long q3), .second, .val (.int p4), .val (.int (p0 &&& (3 : Int32))), .unset, .unset, .unset, .unset, .unset]) rfl kS) ?_
  show own_Comes p e below s _ _ _ (s₁.setTop (mkF m 5 #[.val (.int p0), .val (.int p1), .val (.int p2), .val (.long q3), .second, .val (.int p4), .val (.int (p0 &&& (3 : Int32))), .unset, .unset, .unset, .unset, .unset] []))
  refine own_by (fun _ kS => XS.iload X0.here hx rfl (hb hby at_5) rfl kS) ?_
  show own_Comes p e below s _ _ _ (s₁.setTop (mkF m 7 #[.val (.int p0), .val (.int p1), .val (.int p2), .val (.long q3), .second, .val (.int p4), .val (.int (p0 &&& (3 : Int32))), .unset, .unset, .unset, .unset, .unset] [(.int (p0 &&& (3 : Int32)))]))
  by_cases hm0 : (p0 &&& (3 : Int32)) = (0 : Int32)
  · refine own_by (fun _ kS => XS.ifNo X0.here hx rfl (hb hby at_7) rfl ((if0 _ _).trans (teq hm0).2) kS) ?_
    show own_Comes p e below s _ _ _ (s₁.setTop (mkF m 10 #[.val (.int p0), .val (.int p1), .val (.int p2), .val (.long q3), .second, .val (.int p4), .val (.int (p0 &&& (3 : Int32))), .unset, .unset, .unset, .unset, .unset] []))
    refine own_by (fun _ kS => XS.aconstNull X0.here hx rfl (hb hby at_10) kS) ?_
    show own_Comes p e below s _ _ _ (s₁.setTop (mkF m 11 #[.val (.int p0), .val (.int p1), .val (.int p2), .val (.long q3), .second, .val (.int p4), .val (.int (p0 &&& (3 : Int32))), .unset, .unset, .unset, .unset, .unset] [.null]))
    refine own_by (fun _ kS => XS.astore X0.here hx rfl (hb hby at_11) rfl rfl (l' := #[.val (.int p0), .val (.int p1), .val (.int p2), .val (.long q3), .second, .val (.int p4), .val (.int (p0 &&& (3 : Int32))), .val .null, .unset, .unset, .unset, .unset]) rfl kS) ?_
    show own_Comes p e below s _ _ _ (s₁.setTop (mkF m 13 #[.val (.int p0), .val (.int p1), .val (.int p2), .val (.long q3), .second, .val (.int p4), .val (.int (p0 &&& (3 : Int32))), .val .null, .unset, .unset, .unset, .unset] []))
    refine own_by (fun _ kS => XS.goto X0.here hx rfl (pc0 := 13) (pc' := 85) rfl (hb hby at_13) (by decide) (by decide) kS) ?_
    show own_Comes p e below s _ _ _ (s₁.setTop (mkF m 85 #[.val (.int p0), .val (.int p1), .val (.int p2), .val (.long q3), .second, .val (.int p4), .val (.int (p0 &&& (3 : Int32))), .val .null, .unset, .unset, .unset, .unset] []))
    refine own_by (fun _ kS => XS.iloadN X0.here hx rfl (hb hby at_85) rfl kS) ?_
    show own_Comes p e below s _ _ _ (s₁.setTop (mkF m 86 #[.val (.int p0), .val (.int p1), .val (.int p2), .val (.long q3), .second, .val (.int p4), .val (.int (p0 &&& (3 : Int32))), .val .null, .unset, .unset, .unset, .unset] [(.int p2)]))
    obtain ⟨_, _, ⟨T154, L154, k154, n154⟩, -, X154, ⟨Lc154, hQ154, l154, y154, z154⟩, st154⟩ := Jvm.LawKit.callS X0 hx (y := (⟨"java/lang/Integer", "valueOf", "(I)Ljava/lang/Integer;"⟩ : MethodName)) hown (mvT hZ (hw _ (List.mem_of_getElem? (i := 0) rfl))) (mvT hZ (hw _ (List.mem_of_getElem? (i := 1) rfl))) (mvT hZ (hw _ (List.mem_of_getElem? (i := 2) rfl))) (mvT hZ (hw _ (List.mem_of_getElem? (i := 3) rfl))) (by decide) (backOf (W := 0) (rm1 l Z a0 hw [] p2 ca cc h0 n0 Z0 O0 Sh Sc Bx) hZ (hw _ (List.mem_of_getElem? (i := 3) rfl)) (hw _ (List.mem_of_getElem? (i := 2) rfl)) (by decide) (by decide)) (g := (mkF m 86 #[.val (.int p0), .val (.int p1), .val (.int p2), .val (.long q3), .second, .val (.int p4), .val (.int (p0 &&& (3 : Int32))), .val .null, .unset, .unset, .unset, .unset] [(.int p2)])) rfl (by rw [hml]; rfl) (argsL := [(.int p2)]) (rest := []) (lenOf pd__I_Ljava_lang_Integer__940 rfl) rfl (by show 2 * 0 + _ ≤ _; exact Nat.le_of_eq rfl) (hb hby at_86) (fun _ _ => ⟨rfl, e0, (by decide : 0 + 1 ≤ _), (by decide : 0 + 1 ≤ _)⟩)
    dsimp only [Pt.U, Pt.locs, Pt.cells, Pt.slots] at X154 l154 y154 z154 st154 hQ154
    subst l154 y154 z154
    obtain ⟨a154, rfl, N154q, E154, Eb154, Fb154⟩ := hQ154
    have N154 := Fr.app N0 N154q
    refine own_by st154 ?_
    show own_Comes p e below s _ _ _ (T154.setTop (mkF m 89 #[.val (.int p0), .val (.int p1), .val (.int p2), .val (.long q3), .second, .val (.int p4), .val (.int (p0 &&& (3 : Int32))), .val .null, .unset, .unset, .unset, .unset] [(.ref a154)]))
    refine own_by (fun _ kS => XS.astore X154.here hx rfl (hb hby at_89) rfl rfl (l' := #[.val (.int p0), .val (.int p1), .val (.int p2), .val (.long q3), .second, .val (.int p4), .val (.int (p0 &&& (3 : Int32))), .val .null, .val (.ref a154), .unset, .unset, .unset]) rfl kS) ?_
    show own_Comes p e below s _ _ _ (T154.setTop (mkF m 91 #[.val (.int p0), .val (.int p1), .val (.int p2), .val (.long q3), .second, .val (.int p4), .val (.int (p0 &&& (3 : Int32))), .val .null, .val (.ref a154), .unset, .unset, .unset] []))
    refine own_by (fun _ kS => XS.aload X154.here hx rfl (hb hby at_91) rfl rfl kS) ?_
    show own_Comes p e below s _ _ _ (T154.setTop (mkF m 93 #[.val (.int p0), .val (.int p1), .val (.int p2), .val (.long q3), .second, .val (.int p4), .val (.int (p0 &&& (3 : Int32))), .val .null, .val (.ref a154), .unset, .unset, .unset] [.null]))
    obtain ⟨_, _, ⟨T155, L155, k155, n155⟩, -, X155, ⟨Lc155, hQ155, l155, y155, z155⟩, st155⟩ := Jvm.LawKit.callS X154 hx (y := (⟨"com/example/layered_mocks/layeredmocks/Answer", "value", "(Ljava/lang/Object;)Lcom/example/layered_mocks/layeredmocks/Answer;"⟩ : MethodName)) hown (mvT hZ (hw _ (List.mem_of_getElem? (i := 7) rfl))) (mvT hZ (hw _ (List.mem_of_getElem? (i := 8) rfl))) (mvT hZ (hw _ (List.mem_of_getElem? (i := 9) rfl))) (mvT hZ (hw _ (List.mem_of_getElem? (i := 10) rfl))) (by decide) (backOf (W := 0) (rm2n l Z a0 hw [] k em T154.heap n0 (Nat.le_trans Z0 E154.1) (O0.ext E154) Se Sk) hZ (hw _ (List.mem_of_getElem? (i := 10) rfl)) (hw _ (List.mem_of_getElem? (i := 9) rfl)) (by decide) (by decide)) (g := (mkF m 93 #[.val (.int p0), .val (.int p1), .val (.int p2), .val (.long q3), .second, .val (.int p4), .val (.int (p0 &&& (3 : Int32))), .val .null, .val (.ref a154), .unset, .unset, .unset] [.null])) rfl (by rw [hml]; rfl) (argsL := [.null]) (rest := []) (lenOf pd__Ljava_lang_Object__Lcom_example_layered_mocks_layeredmocks_Answer__438 rfl) rfl (by show 2 * 0 + _ ≤ _; exact Nat.le_of_eq rfl) (hb hby at_93) (fun _ _ => ⟨rfl, rfl, (by decide : 1 + 1 ≤ _), (by decide : 1 + 8 ≤ _)⟩)
    dsimp only [Pt.U, Pt.locs, Pt.cells, Pt.slots] at X155 l155 y155 z155 st155 hQ155
    subst l155 y155 z155
    obtain ⟨a155, rfl, N155q, E155, A155⟩ := hQ155
    have N155 := Fr.app N154 N155q
    refine own_by st155 ?_
    show own_Comes p e below s _ _ _ (T155.setTop (mkF m 96 #[.val (.int p0), .val (.int p1), .val (.int p2), .val (.long q3), .second, .val (.int p4), .val (.int (p0 &&& (3 : Int32))), .val .null, .val (.ref a154), .unset, .unset, .unset] [(.ref a155)]))
    refine own_by (fun _ kS => XS.astore X155.here hx rfl (hb hby at_96) rfl rfl (l' := #[.val (.int p0), .val (.int p1), .val (.int p2), .val (.long q3), .second, .val (.int p4), .val (.int (p0 &&& (3 : Int32))), .val .null, .val (.ref a154), .val (.ref a155), .unset, .unset]) rfl kS) ?_
    show own_Comes p e below s _ _ _ (T155.setTop (mkF m 98 #[.val (.int p0), .val (.int p1), .val (.int p2), .val (.long q3), .second, .val (.int p4), .val (.int (p0 &&& (3 : Int32))), .val .null, .val (.ref a154), .val (.ref a155), .unset, .unset] []))
    refine own_by (fun _ kS => XS.aload X155.here hx rfl (hb hby at_98) rfl rfl kS) ?_
    show own_Comes p e below s _ _ _ (T155.setTop (mkF m 100 #[.val (.int p0), .val (.int p1), .val (.int p2), .val (.long q3), .second, .val (.int p4), .val (.int (p0 &&& (3 : Int32))), .val .null, .val (.ref a154), .val (.ref a155), .unset, .unset] [(.ref a154)]))
    obtain ⟨_, _, ⟨T156, L156, k156, n156⟩, -, X156, ⟨Lc156, hQ156, l156, y156, z156⟩, st156⟩ := Jvm.LawKit.callS X155 hx (y := (⟨"com/example/layered_mocks/layeredmocks/Answer", "value", "(Ljava/lang/Object;)Lcom/example/layered_mocks/layeredmocks/Answer;"⟩ : MethodName)) hown (mvT hZ (hw _ (List.mem_of_getElem? (i := 7) rfl))) (mvT hZ (hw _ (List.mem_of_getElem? (i := 8) rfl))) (mvT hZ (hw _ (List.mem_of_getElem? (i := 9) rfl))) (mvT hZ (hw _ (List.mem_of_getElem? (i := 10) rfl))) (by decide) (backOf (W := 0) (rm2r l Z a0 hw [] k a154 em T155.heap n0 (Nat.le_trans (Nat.le_trans Z0 E154.1) E155.1) ((O0.ext E154).ext E155) Se Sk) hZ (hw _ (List.mem_of_getElem? (i := 10) rfl)) (hw _ (List.mem_of_getElem? (i := 9) rfl)) (by decide) (by decide)) (g := (mkF m 100 #[.val (.int p0), .val (.int p1), .val (.int p2), .val (.long q3), .second, .val (.int p4), .val (.int (p0 &&& (3 : Int32))), .val .null, .val (.ref a154), .val (.ref a155), .unset, .unset] [(.ref a154)])) rfl (by rw [hml]; rfl) (argsL := [(.ref a154)]) (rest := []) (lenOf pd__Ljava_lang_Object__Lcom_example_layered_mocks_layeredmocks_Answer__438 rfl) rfl (by show 2 * 0 + _ ≤ _; exact Nat.le_of_eq rfl) (hb hby at_100) (fun _ _ => ⟨rfl, rfl, (by decide : 2 + 1 ≤ _), (by decide : 9 + 8 ≤ _)⟩)
    dsimp only [Pt.U, Pt.locs, Pt.cells, Pt.slots] at X156 l156 y156 z156 st156 hQ156
    subst l156 y156 z156
    obtain ⟨a156, rfl, N156q, E156, A156⟩ := hQ156
    have N156 := Fr.app N155 N156q
    refine own_by st156 ?_
    show own_Comes p e below s _ _ _ (T156.setTop (mkF m 103 #[.val (.int p0), .val (.int p1), .val (.int p2), .val (.long q3), .second, .val (.int p4), .val (.int (p0 &&& (3 : Int32))), .val .null, .val (.ref a154), .val (.ref a155), .unset, .unset] [(.ref a156)]))
    refine own_by (fun _ kS => XS.astore X156.here hx rfl (hb hby at_103) rfl rfl (l' := #[.val (.int p0), .val (.int p1), .val (.int p2), .val (.long q3), .second, .val (.int p4), .val (.int (p0 &&& (3 : Int32))), .val .null, .val (.ref a154), .val (.ref a155), .val (.ref a156), .unset]) rfl kS) ?_
    show own_Comes p e below s _ _ _ (T156.setTop (mkF m 105 #[.val (.int p0), .val (.int p1), .val (.int p2), .val (.long q3), .second, .val (.int p4), .val (.int (p0 &&& (3 : Int32))), .val .null, .val (.ref a154), .val (.ref a155), .val (.ref a156), .unset] []))
    refine own_by (fun _ kS => XS.iload X156.here hx rfl (hb hby at_105) rfl kS) ?_
    show own_Comes p e below s _ _ _ (T156.setTop (mkF m 107 #[.val (.int p0), .val (.int p1), .val (.int p2), .val (.long q3), .second, .val (.int p4), .val (.int (p0 &&& (3 : Int32))), .val .null, .val (.ref a154), .val (.ref a155), .val (.ref a156), .unset] [(.int (p0 &&& (3 : Int32)))]))
    refine own_by (fun _ kS => XS.iconst X156.here hx rfl (hb hby at_107) kS) ?_
    show own_Comes p e below s _ _ _ (T156.setTop (mkF m 108 #[.val (.int p0), .val (.int p1), .val (.int p2), .val (.long q3), .second, .val (.int p4), .val (.int (p0 &&& (3 : Int32))), .val .null, .val (.ref a154), .val (.ref a155), .val (.ref a156), .unset] [(.int (1 : Int32)), (.int (p0 &&& (3 : Int32)))]))
    have hb157 : ¬ ((p0 &&& (3 : Int32)) = (1 : Int32)) := fun q => absurd (hm0.symm.trans q) (by decide)
    refine own_by (fun _ kS => XS.icmpYes X156.here hx rfl (pc0 := 108) (pc' := 120) rfl (hb hby at_108) rfl (feq hb157).2 (by decide) (by decide) kS) ?_
    show own_Comes p e below s _ _ _ (T156.setTop (mkF m 120 #[.val (.int p0), .val (.int p1), .val (.int p2), .val (.long q3), .second, .val (.int p4), .val (.int (p0 &&& (3 : Int32))), .val .null, .val (.ref a154), .val (.ref a155), .val (.ref a156), .unset] []))
    refine own_by (fun _ kS => XS.iconst X156.here hx rfl (hb hby at_120) kS) ?_
    show own_Comes p e below s _ _ _ (T156.setTop (mkF m 121 #[.val (.int p0), .val (.int p1), .val (.int p2), .val (.long q3), .second, .val (.int p4), .val (.int (p0 &&& (3 : Int32))), .val .null, .val (.ref a154), .val (.ref a155), .val (.ref a156), .unset] [(.int (0 : Int32))]))
    refine own_by (fun _ kS => XS.istore X156.here hx rfl (hb hby at_121) rfl (l' := #[.val (.int p0), .val (.int p1), .val (.int p2), .val (.long q3), .second, .val (.int p4), .val (.int (p0 &&& (3 : Int32))), .val .null, .val (.ref a154), .val (.ref a155), .val (.ref a156), .val (.int (0 : Int32))]) rfl kS) ?_
    show own_Comes p e below s _ _ _ (T156.setTop (mkF m 123 #[.val (.int p0), .val (.int p1), .val (.int p2), .val (.long q3), .second, .val (.int p4), .val (.int (p0 &&& (3 : Int32))), .val .null, .val (.ref a154), .val (.ref a155), .val (.ref a156), .val (.int (0 : Int32))] []))
    refine own_by (fun _ kS => XS.aload X156.here hx rfl (hb hby at_123) rfl rfl kS) ?_
    show own_Comes p e below s _ _ _ (T156.setTop (mkF m 125 #[.val (.int p0), .val (.int p1), .val (.int p2), .val (.long q3), .second, .val (.int p4), .val (.int (p0 &&& (3 : Int32))), .val .null, .val (.ref a154), .val (.ref a155), .val (.ref a156), .val (.int (0 : Int32))] [(.ref a155)]))
    obtain ⟨cq158, kq158, q158a, q158b, q158c⟩ := isOf hZ rfl (A155.ext E156).1
    obtain ⟨_, _, ⟨T158, L158, k158, n158⟩, -, X158, ⟨Lc158, hQ158, l158, y158, z158⟩, st158⟩ := X156.virtualBack hx (y := (⟨"com/example/layered_mocks/layeredmocks/Answer", "kind", "()Lcom/example/layered_mocks/layeredmocks/Answer$Kind;"⟩ : MethodName)) (z := (⟨"com/example/layered_mocks/layeredmocks/Answer", "kind", "()Lcom/example/layered_mocks/layeredmocks/Answer$Kind;"⟩ : MethodName)) hown (mvT hZ (hw _ (List.mem_of_getElem? (i := 47) rfl))) (mvT hZ (hw _ (List.mem_of_getElem? (i := 48) rfl))) (notFace_of_selects (args := #[]) (mvT hZ (hw _ (List.mem_of_getElem? (i := 50) rfl)))) (mvT hZ (hw _ (List.mem_of_getElem? (i := 50) rfl))) (mvT hZ (hw _ (List.mem_of_getElem? (i := 49) rfl))) (by decide) (backOf (W := 0) (rm7 l Z a0 hw [] a155 (.ref k) T156.heap n0 (Nat.le_trans (Nat.le_trans (Nat.le_trans Z0 E154.1) E155.1) E156.1) (A155.ext E156).2.1 rfl) hZ (hw _ (List.mem_of_getElem? (i := 51) rfl)) (hw _ (List.mem_of_getElem? (i := 9) rfl)) (by decide) (by decide)) q158a q158c (g := (mkF m 125 #[.val (.int p0), .val (.int p1), .val (.int p2), .val (.long q3), .second, .val (.int p4), .val (.int (p0 &&& (3 : Int32))), .val .null, .val (.ref a154), .val (.ref a155), .val (.ref a156), .val (.int (0 : Int32))] [(.ref a155)])) rfl (by rw [hml]; rfl) (Steps.refl _) (argsL := []) (rest := []) (lenOf pd___Lcom_example_layered_mocks_layeredmocks_Answer_Kind__197 rfl) rfl (by show 2 * 0 + _ ≤ _; exact Nat.le_of_eq rfl) (hb hby at_125) (fun _ _ => ⟨rfl, rfl, (by decide : 3 + 0 ≤ _), (by decide : 17 + 0 ≤ _)⟩)
    dsimp only [Pt.U, Pt.locs, Pt.cells, Pt.slots] at X158 l158 y158 z158 st158 hQ158
    subst l158 y158 z158
    obtain ⟨rfl, N158q, e158q⟩ := hQ158
    have N158 := Fr.app N156 N158q
    refine own_tr st158 ?_
    have e158 : T158.heap = T156.heap := e158q
    show own_Comes p e below s _ _ _ (T158.setTop (mkF m 128 #[.val (.int p0), .val (.int p1), .val (.int p2), .val (.long q3), .second, .val (.int p4), .val (.int (p0 &&& (3 : Int32))), .val .null, .val (.ref a154), .val (.ref a155), .val (.ref a156), .val (.int (0 : Int32))] [(.ref k)]))
    obtain ⟨T159, X159, e159, st159⟩ := getS2 X158 hx hZ hown (host := "") (Or.inl (hw _ (List.mem_of_getElem? (i := 52) rfl))) Via.refl e158 (Sk.ext (((O0.ext E154).ext E155).ext E156).2) (g := (mkF m 128 #[.val (.int p0), .val (.int p1), .val (.int p2), .val (.long q3), .second, .val (.int p4), .val (.int (p0 &&& (3 : Int32))), .val .null, .val (.ref a154), .val (.ref a155), .val (.ref a156), .val (.int (0 : Int32))] [(.ref k)])) rfl (hb hby at_128)
    refine own_by st159 ?_
    show own_Comes p e below s _ _ _ (T159.setTop (mkF m 131 #[.val (.int p0), .val (.int p1), .val (.int p2), .val (.long q3), .second, .val (.int p4), .val (.int (p0 &&& (3 : Int32))), .val .null, .val (.ref a154), .val (.ref a155), .val (.ref a156), .val (.int (0 : Int32))] [(.ref k), (.ref k)]))
    refine own_by (fun _ kS => Jvm.RoadKit.acmp (g := (mkF m 131 #[.val (.int p0), .val (.int p1), .val (.int p2), .val (.long q3), .second, .val (.int p4), .val (.int (p0 &&& (3 : Int32))), .val .null, .val (.ref a154), .val (.ref a155), .val (.ref a156), .val (.int (0 : Int32))] [(.ref k), (.ref k)])) X159 hx rfl rfl rfl (pc0 := 131) (pc' := 134) (same := true) rfl (hb hby at_131) rfl (decide_eq_true rfl) (by decide) (by decide) kS) ?_
    show own_Comes p e below s _ _ _ (T159.setTop (mkF m 134 #[.val (.int p0), .val (.int p1), .val (.int p2), .val (.long q3), .second, .val (.int p4), .val (.int (p0 &&& (3 : Int32))), .val .null, .val (.ref a154), .val (.ref a155), .val (.ref a156), .val (.int (0 : Int32))] []))
    refine own_by (fun _ kS => XS.aload X159.here hx rfl (hb hby at_134) rfl rfl kS) ?_
    show own_Comes p e below s _ _ _ (T159.setTop (mkF m 136 #[.val (.int p0), .val (.int p1), .val (.int p2), .val (.long q3), .second, .val (.int p4), .val (.int (p0 &&& (3 : Int32))), .val .null, .val (.ref a154), .val (.ref a155), .val (.ref a156), .val (.int (0 : Int32))] [(.ref a155)]))
    obtain ⟨cq160, kq160, q160a, q160b, q160c⟩ := isOf hZ e159 (A155.ext E156).1
    obtain ⟨_, _, ⟨T160, L160, k160, n160⟩, -, X160, ⟨Lc160, hQ160, l160, y160, z160⟩, st160⟩ := X159.virtualBack hx (y := (⟨"com/example/layered_mocks/layeredmocks/Answer", "result", "()Ljava/lang/Object;"⟩ : MethodName)) (z := (⟨"com/example/layered_mocks/layeredmocks/Answer", "result", "()Ljava/lang/Object;"⟩ : MethodName)) hown (mvT hZ (hw _ (List.mem_of_getElem? (i := 53) rfl))) (mvT hZ (hw _ (List.mem_of_getElem? (i := 54) rfl))) (notFace_of_selects (args := #[]) (mvT hZ (hw _ (List.mem_of_getElem? (i := 56) rfl)))) (mvT hZ (hw _ (List.mem_of_getElem? (i := 56) rfl))) (mvT hZ (hw _ (List.mem_of_getElem? (i := 55) rfl))) (by decide) (backOf (W := 0) (rm8 l Z a0 hw [] a155 .null T156.heap n0 (Nat.le_trans (Nat.le_trans (Nat.le_trans Z0 E154.1) E155.1) E156.1) (A155.ext E156).2.2.1 rfl) hZ (hw _ (List.mem_of_getElem? (i := 57) rfl)) (hw _ (List.mem_of_getElem? (i := 9) rfl)) (by decide) (by decide)) q160a q160c (g := (mkF m 136 #[.val (.int p0), .val (.int p1), .val (.int p2), .val (.long q3), .second, .val (.int p4), .val (.int (p0 &&& (3 : Int32))), .val .null, .val (.ref a154), .val (.ref a155), .val (.ref a156), .val (.int (0 : Int32))] [(.ref a155)])) rfl (by rw [hml]; rfl) (Steps.refl _) (argsL := []) (rest := []) (lenOf pd___Ljava_lang_Object__748 rfl) rfl (by show 2 * 0 + _ ≤ _; exact Nat.le_of_eq rfl) (hb hby at_136) (fun _ _ => ⟨rfl, e159, (by decide : 3 + 0 ≤ _), (by decide : 17 + 0 ≤ _)⟩)
    dsimp only [Pt.U, Pt.locs, Pt.cells, Pt.slots] at X160 l160 y160 z160 st160 hQ160
    subst l160 y160 z160
    obtain ⟨rfl, N160q, e160q⟩ := hQ160
    have N160 := Fr.app N158 N160q
    refine own_tr st160 ?_
    have e160 : T160.heap = T156.heap := e160q
    show own_Comes p e below s _ _ _ (T160.setTop (mkF m 139 #[.val (.int p0), .val (.int p1), .val (.int p2), .val (.long q3), .second, .val (.int p4), .val (.int (p0 &&& (3 : Int32))), .val .null, .val (.ref a154), .val (.ref a155), .val (.ref a156), .val (.int (0 : Int32))] [.null]))
    refine own_by (fun _ kS => XS.aload X160.here hx rfl (hb hby at_139) rfl rfl kS) ?_
    show own_Comes p e below s _ _ _ (T160.setTop (mkF m 141 #[.val (.int p0), .val (.int p1), .val (.int p2), .val (.long q3), .second, .val (.int p4), .val (.int (p0 &&& (3 : Int32))), .val .null, .val (.ref a154), .val (.ref a155), .val (.ref a156), .val (.int (0 : Int32))] [.null, .null]))
    refine own_by (fun _ kS => Jvm.RoadKit.acmp (g := (mkF m 141 #[.val (.int p0), .val (.int p1), .val (.int p2), .val (.long q3), .second, .val (.int p4), .val (.int (p0 &&& (3 : Int32))), .val .null, .val (.ref a154), .val (.ref a155), .val (.ref a156), .val (.int (0 : Int32))] [.null, .null])) X160 hx rfl rfl rfl (pc0 := 141) (pc' := 144) (same := true) rfl (hb hby at_141) rfl (decide_eq_true rfl) (by decide) (by decide) kS) ?_
    show own_Comes p e below s _ _ _ (T160.setTop (mkF m 144 #[.val (.int p0), .val (.int p1), .val (.int p2), .val (.long q3), .second, .val (.int p4), .val (.int (p0 &&& (3 : Int32))), .val .null, .val (.ref a154), .val (.ref a155), .val (.ref a156), .val (.int (0 : Int32))] []))
    refine own_by (fun _ kS => XS.aload X160.here hx rfl (hb hby at_144) rfl rfl kS) ?_
    show own_Comes p e below s _ _ _ (T160.setTop (mkF m 146 #[.val (.int p0), .val (.int p1), .val (.int p2), .val (.long q3), .second, .val (.int p4), .val (.int (p0 &&& (3 : Int32))), .val .null, .val (.ref a154), .val (.ref a155), .val (.ref a156), .val (.int (0 : Int32))] [(.ref a155)]))
    obtain ⟨cq161, kq161, q161a, q161b, q161c⟩ := isOf hZ e160 (A155.ext E156).1
    obtain ⟨_, _, ⟨T161, L161, k161, n161⟩, -, X161, ⟨Lc161, hQ161, l161, y161, z161⟩, st161⟩ := X160.virtualBack hx (y := (⟨"com/example/layered_mocks/layeredmocks/Answer", "failure", "()Ljava/lang/Throwable;"⟩ : MethodName)) (z := (⟨"com/example/layered_mocks/layeredmocks/Answer", "failure", "()Ljava/lang/Throwable;"⟩ : MethodName)) hown (mvT hZ (hw _ (List.mem_of_getElem? (i := 58) rfl))) (mvT hZ (hw _ (List.mem_of_getElem? (i := 59) rfl))) (notFace_of_selects (args := #[]) (mvT hZ (hw _ (List.mem_of_getElem? (i := 61) rfl)))) (mvT hZ (hw _ (List.mem_of_getElem? (i := 61) rfl))) (mvT hZ (hw _ (List.mem_of_getElem? (i := 60) rfl))) (by decide) (backOf (W := 0) (rm9 l Z a0 hw [] a155 .null T156.heap n0 (Nat.le_trans (Nat.le_trans (Nat.le_trans Z0 E154.1) E155.1) E156.1) (A155.ext E156).2.2.2.1 rfl) hZ (hw _ (List.mem_of_getElem? (i := 62) rfl)) (hw _ (List.mem_of_getElem? (i := 9) rfl)) (by decide) (by decide)) q161a q161c (g := (mkF m 146 #[.val (.int p0), .val (.int p1), .val (.int p2), .val (.long q3), .second, .val (.int p4), .val (.int (p0 &&& (3 : Int32))), .val .null, .val (.ref a154), .val (.ref a155), .val (.ref a156), .val (.int (0 : Int32))] [(.ref a155)])) rfl (by rw [hml]; rfl) (Steps.refl _) (argsL := []) (rest := []) (lenOf pd___Ljava_lang_Throwable__88 rfl) rfl (by show 2 * 0 + _ ≤ _; exact Nat.le_of_eq rfl) (hb hby at_146) (fun _ _ => ⟨rfl, e160, (by decide : 3 + 0 ≤ _), (by decide : 17 + 0 ≤ _)⟩)
    dsimp only [Pt.U, Pt.locs, Pt.cells, Pt.slots] at X161 l161 y161 z161 st161 hQ161
    subst l161 y161 z161
    obtain ⟨rfl, N161q, e161q⟩ := hQ161
    have N161 := Fr.app N160 N161q
    refine own_tr st161 ?_
    have e161 : T161.heap = T156.heap := e161q
    show own_Comes p e below s _ _ _ (T161.setTop (mkF m 149 #[.val (.int p0), .val (.int p1), .val (.int p2), .val (.long q3), .second, .val (.int p4), .val (.int (p0 &&& (3 : Int32))), .val .null, .val (.ref a154), .val (.ref a155), .val (.ref a156), .val (.int (0 : Int32))] [.null]))
    refine own_by (fun _ kS => XS.ifnonnullNo X161.here hx rfl (hb hby at_149) rfl kS) ?_
    show own_Comes p e below s _ _ _ (T161.setTop (mkF m 152 #[.val (.int p0), .val (.int p1), .val (.int p2), .val (.long q3), .second, .val (.int p4), .val (.int (p0 &&& (3 : Int32))), .val .null, .val (.ref a154), .val (.ref a155), .val (.ref a156), .val (.int (0 : Int32))] []))
    refine own_by (fun _ kS => XS.aload X161.here hx rfl (hb hby at_152) rfl rfl kS) ?_
    show own_Comes p e below s _ _ _ (T161.setTop (mkF m 154 #[.val (.int p0), .val (.int p1), .val (.int p2), .val (.long q3), .second, .val (.int p4), .val (.int (p0 &&& (3 : Int32))), .val .null, .val (.ref a154), .val (.ref a155), .val (.ref a156), .val (.int (0 : Int32))] [(.ref a155)]))
    obtain ⟨cq162, kq162, q162a, q162b, q162c⟩ := isOf hZ e161 (A155.ext E156).1
    obtain ⟨_, _, ⟨T162, L162, k162, n162⟩, -, X162, ⟨Lc162, hQ162, l162, y162, z162⟩, st162⟩ := X161.virtualBack hx (y := (⟨"com/example/layered_mocks/layeredmocks/Answer", "delay", "()Ljava/time/Duration;"⟩ : MethodName)) (z := (⟨"com/example/layered_mocks/layeredmocks/Answer", "delay", "()Ljava/time/Duration;"⟩ : MethodName)) hown (mvT hZ (hw _ (List.mem_of_getElem? (i := 63) rfl))) (mvT hZ (hw _ (List.mem_of_getElem? (i := 64) rfl))) (notFace_of_selects (args := #[]) (mvT hZ (hw _ (List.mem_of_getElem? (i := 66) rfl)))) (mvT hZ (hw _ (List.mem_of_getElem? (i := 66) rfl))) (mvT hZ (hw _ (List.mem_of_getElem? (i := 65) rfl))) (by decide) (backOf (W := 0) (rm10 l Z a0 hw [] a155 .null T156.heap n0 (Nat.le_trans (Nat.le_trans (Nat.le_trans Z0 E154.1) E155.1) E156.1) (A155.ext E156).2.2.2.2.2.2.2.2 rfl) hZ (hw _ (List.mem_of_getElem? (i := 67) rfl)) (hw _ (List.mem_of_getElem? (i := 9) rfl)) (by decide) (by decide)) q162a q162c (g := (mkF m 154 #[.val (.int p0), .val (.int p1), .val (.int p2), .val (.long q3), .second, .val (.int p4), .val (.int (p0 &&& (3 : Int32))), .val .null, .val (.ref a154), .val (.ref a155), .val (.ref a156), .val (.int (0 : Int32))] [(.ref a155)])) rfl (by rw [hml]; rfl) (Steps.refl _) (argsL := []) (rest := []) (lenOf pd___Ljava_time_Duration__3 rfl) rfl (by show 2 * 0 + _ ≤ _; exact Nat.le_of_eq rfl) (hb hby at_154) (fun _ _ => ⟨rfl, e161, (by decide : 3 + 0 ≤ _), (by decide : 17 + 0 ≤ _)⟩)
    dsimp only [Pt.U, Pt.locs, Pt.cells, Pt.slots] at X162 l162 y162 z162 st162 hQ162
    subst l162 y162 z162
    obtain ⟨rfl, N162q, e162q⟩ := hQ162
    have N162 := Fr.app N161 N162q
    refine own_tr st162 ?_
    have e162 : T162.heap = T156.heap := e162q
    show own_Comes p e below s _ _ _ (T162.setTop (mkF m 157 #[.val (.int p0), .val (.int p1), .val (.int p2), .val (.long q3), .second, .val (.int p4), .val (.int (p0 &&& (3 : Int32))), .val .null, .val (.ref a154), .val (.ref a155), .val (.ref a156), .val (.int (0 : Int32))] [.null]))
    refine own_by (fun _ kS => XS.ifnonnullNo X162.here hx rfl (hb hby at_157) rfl kS) ?_
    show own_Comes p e below s _ _ _ (T162.setTop (mkF m 160 #[.val (.int p0), .val (.int p1), .val (.int p2), .val (.long q3), .second, .val (.int p4), .val (.int (p0 &&& (3 : Int32))), .val .null, .val (.ref a154), .val (.ref a155), .val (.ref a156), .val (.int (0 : Int32))] []))
    refine own_by (fun _ kS => XS.aload X162.here hx rfl (hb hby at_160) rfl rfl kS) ?_
    show own_Comes p e below s _ _ _ (T162.setTop (mkF m 162 #[.val (.int p0), .val (.int p1), .val (.int p2), .val (.long q3), .second, .val (.int p4), .val (.int (p0 &&& (3 : Int32))), .val .null, .val (.ref a154), .val (.ref a155), .val (.ref a156), .val (.int (0 : Int32))] [(.ref a156)]))
    obtain ⟨cq163, kq163, q163a, q163b, q163c⟩ := isOf hZ e162 A156.1
    obtain ⟨_, _, ⟨T163, L163, k163, n163⟩, -, X163, ⟨Lc163, hQ163, l163, y163, z163⟩, st163⟩ := X162.virtualBack hx (y := (⟨"com/example/layered_mocks/layeredmocks/Answer", "result", "()Ljava/lang/Object;"⟩ : MethodName)) (z := (⟨"com/example/layered_mocks/layeredmocks/Answer", "result", "()Ljava/lang/Object;"⟩ : MethodName)) hown (mvT hZ (hw _ (List.mem_of_getElem? (i := 53) rfl))) (mvT hZ (hw _ (List.mem_of_getElem? (i := 54) rfl))) (notFace_of_selects (args := #[]) (mvT hZ (hw _ (List.mem_of_getElem? (i := 56) rfl)))) (mvT hZ (hw _ (List.mem_of_getElem? (i := 56) rfl))) (mvT hZ (hw _ (List.mem_of_getElem? (i := 55) rfl))) (by decide) (backOf (W := 0) (rm8 l Z a0 hw [] a156 (.ref a154) T156.heap n0 (Nat.le_trans (Nat.le_trans (Nat.le_trans Z0 E154.1) E155.1) E156.1) A156.2.2.1 rfl) hZ (hw _ (List.mem_of_getElem? (i := 57) rfl)) (hw _ (List.mem_of_getElem? (i := 9) rfl)) (by decide) (by decide)) q163a q163c (g := (mkF m 162 #[.val (.int p0), .val (.int p1), .val (.int p2), .val (.long q3), .second, .val (.int p4), .val (.int (p0 &&& (3 : Int32))), .val .null, .val (.ref a154), .val (.ref a155), .val (.ref a156), .val (.int (0 : Int32))] [(.ref a156)])) rfl (by rw [hml]; rfl) (Steps.refl _) (argsL := []) (rest := []) (lenOf pd___Ljava_lang_Object__748 rfl) rfl (by show 2 * 0 + _ ≤ _; exact Nat.le_of_eq rfl) (hb hby at_162) (fun _ _ => ⟨rfl, e162, (by decide : 3 + 0 ≤ _), (by decide : 17 + 0 ≤ _)⟩)
    dsimp only [Pt.U, Pt.locs, Pt.cells, Pt.slots] at X163 l163 y163 z163 st163 hQ163
    subst l163 y163 z163
    obtain ⟨rfl, N163q, e163q⟩ := hQ163
    have N163 := Fr.app N162 N163q
    refine own_tr st163 ?_
    have e163 : T163.heap = T156.heap := e163q
    show own_Comes p e below s _ _ _ (T163.setTop (mkF m 165 #[.val (.int p0), .val (.int p1), .val (.int p2), .val (.long q3), .second, .val (.int p4), .val (.int (p0 &&& (3 : Int32))), .val .null, .val (.ref a154), .val (.ref a155), .val (.ref a156), .val (.int (0 : Int32))] [(.ref a154)]))
    refine own_by (fun _ kS => XS.aload X163.here hx rfl (hb hby at_165) rfl rfl kS) ?_
    show own_Comes p e below s _ _ _ (T163.setTop (mkF m 167 #[.val (.int p0), .val (.int p1), .val (.int p2), .val (.long q3), .second, .val (.int p4), .val (.int (p0 &&& (3 : Int32))), .val .null, .val (.ref a154), .val (.ref a155), .val (.ref a156), .val (.int (0 : Int32))] [(.ref a154), (.ref a154)]))
    refine own_by (fun _ kS => Jvm.RoadKit.acmp (g := (mkF m 167 #[.val (.int p0), .val (.int p1), .val (.int p2), .val (.long q3), .second, .val (.int p4), .val (.int (p0 &&& (3 : Int32))), .val .null, .val (.ref a154), .val (.ref a155), .val (.ref a156), .val (.int (0 : Int32))] [(.ref a154), (.ref a154)])) X163 hx rfl rfl rfl (pc0 := 167) (pc' := 170) (same := true) rfl (hb hby at_167) rfl (decide_eq_true rfl) (by decide) (by decide) kS) ?_
    show own_Comes p e below s _ _ _ (T163.setTop (mkF m 170 #[.val (.int p0), .val (.int p1), .val (.int p2), .val (.long q3), .second, .val (.int p4), .val (.int (p0 &&& (3 : Int32))), .val .null, .val (.ref a154), .val (.ref a155), .val (.ref a156), .val (.int (0 : Int32))] []))
    refine own_by (fun _ kS => XS.aload X163.here hx rfl (hb hby at_170) rfl rfl kS) ?_
    show own_Comes p e below s _ _ _ (T163.setTop (mkF m 172 #[.val (.int p0), .val (.int p1), .val (.int p2), .val (.long q3), .second, .val (.int p4), .val (.int (p0 &&& (3 : Int32))), .val .null, .val (.ref a154), .val (.ref a155), .val (.ref a156), .val (.int (0 : Int32))] [(.ref a155)]))
    refine own_by (fun _ kS => XS.aload X163.here hx rfl (hb hby at_172) rfl rfl kS) ?_
    show own_Comes p e below s _ _ _ (T163.setTop (mkF m 174 #[.val (.int p0), .val (.int p1), .val (.int p2), .val (.long q3), .second, .val (.int p4), .val (.int (p0 &&& (3 : Int32))), .val .null, .val (.ref a154), .val (.ref a155), .val (.ref a156), .val (.int (0 : Int32))] [(.ref a156), (.ref a155)]))
    obtain ⟨cq164, kq164, q164a, q164b, q164c⟩ := isOf hZ e163 (A155.ext E156).1
    obtain ⟨_, _, ⟨T164, L164, k164, n164⟩, -, X164, ⟨Lc164, hQ164, l164, y164, z164⟩, st164⟩ := X163.virtualBack hx (y := (⟨"com/example/layered_mocks/layeredmocks/Answer", "equals", "(Ljava/lang/Object;)Z"⟩ : MethodName)) (z := (⟨"com/example/layered_mocks/layeredmocks/Answer", "equals", "(Ljava/lang/Object;)Z"⟩ : MethodName)) hown (mvT hZ (hw _ (List.mem_of_getElem? (i := 68) rfl))) (mvT hZ (hw _ (List.mem_of_getElem? (i := 69) rfl))) (notFace_of_selects (args := #[]) (mvT hZ (hw _ (List.mem_of_getElem? (i := 71) rfl)))) (mvT hZ (hw _ (List.mem_of_getElem? (i := 71) rfl))) (mvT hZ (hw _ (List.mem_of_getElem? (i := 70) rfl))) (by decide) (backOf (W := 0) (rm11n l Z a0 hw [] a155 a156 k a154 em T156.heap n0 (Nat.le_trans (Nat.le_trans (Nat.le_trans Z0 E154.1) E155.1) E156.1) (A155.ext E156) A156 (Em.ext (((O0.ext E154).ext E155).ext E156).2) ((Eb154.ext E155).ext E156)) hZ (hw _ (List.mem_of_getElem? (i := 72) rfl)) (hw _ (List.mem_of_getElem? (i := 9) rfl)) (by decide) (by decide)) q164a q164c (g := (mkF m 174 #[.val (.int p0), .val (.int p1), .val (.int p2), .val (.long q3), .second, .val (.int p4), .val (.int (p0 &&& (3 : Int32))), .val .null, .val (.ref a154), .val (.ref a155), .val (.ref a156), .val (.int (0 : Int32))] [(.ref a156), (.ref a155)])) rfl (by rw [hml]; rfl) (Steps.refl _) (argsL := [(.ref a156)]) (rest := []) (lenOf pd__Ljava_lang_Object__Z_838 rfl) rfl (by show 2 * 0 + _ ≤ _; exact Nat.le_of_eq rfl) (hb hby at_174) (fun _ _ => ⟨rfl, e163, (by decide : 3 + 0 ≤ _), (by decide : 17 + 0 ≤ _)⟩)
    dsimp only [Pt.U, Pt.locs, Pt.cells, Pt.slots] at X164 l164 y164 z164 st164 hQ164
    subst l164 y164 z164
    obtain ⟨rfl, N164q, e164q⟩ := hQ164
    have N164 := Fr.app N163 N164q
    refine own_tr st164 ?_
    have e164 : T164.heap = T156.heap := e164q
    show own_Comes p e below s _ _ _ (T164.setTop (mkF m 177 #[.val (.int p0), .val (.int p1), .val (.int p2), .val (.long q3), .second, .val (.int p4), .val (.int (p0 &&& (3 : Int32))), .val .null, .val (.ref a154), .val (.ref a155), .val (.ref a156), .val (.int (0 : Int32))] [(.int (0 : Int32))]))
    refine own_by (fun _ kS => XS.iload X164.here hx rfl (hb hby at_177) rfl kS) ?_
    show own_Comes p e below s _ _ _ (T164.setTop (mkF m 179 #[.val (.int p0), .val (.int p1), .val (.int p2), .val (.long q3), .second, .val (.int p4), .val (.int (p0 &&& (3 : Int32))), .val .null, .val (.ref a154), .val (.ref a155), .val (.ref a156), .val (.int (0 : Int32))] [(.int (0 : Int32)), (.int (0 : Int32))]))
    have hb165 : (0 : Int32) = (0 : Int32) := by decide
    refine own_by (fun _ kS => XS.icmpNo X164.here hx rfl (hb hby at_179) rfl (teq hb165).2 kS) ?_
    show own_Comes p e below s _ _ _ (T164.setTop (mkF m 182 #[.val (.int p0), .val (.int p1), .val (.int p2), .val (.long q3), .second, .val (.int p4), .val (.int (p0 &&& (3 : Int32))), .val .null, .val (.ref a154), .val (.ref a155), .val (.ref a156), .val (.int (0 : Int32))] []))
    refine own_by (fun _ kS => XS.iconst X164.here hx rfl (hb hby at_182) kS) ?_
    show own_Comes p e below s _ _ _ (T164.setTop (mkF m 183 #[.val (.int p0), .val (.int p1), .val (.int p2), .val (.long q3), .second, .val (.int p4), .val (.int (p0 &&& (3 : Int32))), .val .null, .val (.ref a154), .val (.ref a155), .val (.ref a156), .val (.int (0 : Int32))] [(.int (1 : Int32))]))
    refine own_by (fun _ kS => XS.goto X164.here hx rfl (pc0 := 183) (pc' := 187) rfl (hb hby at_183) (by decide) (by decide) kS) ?_
    show own_Comes p e below s _ _ _ (T164.setTop (mkF m 187 #[.val (.int p0), .val (.int p1), .val (.int p2), .val (.long q3), .second, .val (.int p4), .val (.int (p0 &&& (3 : Int32))), .val .null, .val (.ref a154), .val (.ref a155), .val (.ref a156), .val (.int (0 : Int32))] [(.int (1 : Int32))]))
    refine own_ret X164 (v := some (.int (1 : Int32))) (fun h => by rw [Bd.returns] at h; cases h) Bd.notSynchronized (by decide) (by decide) ?_ (fun fs hr => retN X164 hx (t := .boolean) Bd.returns (by simp) (hb hby at_187) hr)
    rw [e164]; exact ⟨rfl, N164⟩
  · refine own_by (fun _ kS => XS.ifYes X0.here hx rfl (pc0 := 7) (pc' := 16) rfl (hb hby at_7) rfl ((if0 _ _).trans (feq hm0).2) (by decide) (by decide) kS) ?_
    show own_Comes p e below s _ _ _ (s₁.setTop (mkF m 16 #[.val (.int p0), .val (.int p1), .val (.int p2), .val (.long q3), .second, .val (.int p4), .val (.int (p0 &&& (3 : Int32))), .unset, .unset, .unset, .unset, .unset] []))
    refine own_by (fun _ kS => XS.iload X0.here hx rfl (hb hby at_16) rfl kS) ?_
    show own_Comes p e below s _ _ _ (s₁.setTop (mkF m 18 #[.val (.int p0), .val (.int p1), .val (.int p2), .val (.long q3), .second, .val (.int p4), .val (.int (p0 &&& (3 : Int32))), .unset, .unset, .unset, .unset, .unset] [(.int (p0 &&& (3 : Int32)))]))
    refine own_by (fun _ kS => XS.iconst X0.here hx rfl (hb hby at_18) kS) ?_
    show own_Comes p e below s _ _ _ (s₁.setTop (mkF m 19 #[.val (.int p0), .val (.int p1), .val (.int p2), .val (.long q3), .second, .val (.int p4), .val (.int (p0 &&& (3 : Int32))), .unset, .unset, .unset, .unset, .unset] [(.int (1 : Int32)), (.int (p0 &&& (3 : Int32)))]))
    by_cases hm1 : (p0 &&& (3 : Int32)) = (1 : Int32)
    · refine own_by (fun _ kS => XS.icmpNo X0.here hx rfl (hb hby at_19) rfl (teq hm1).2 kS) ?_
      show own_Comes p e below s _ _ _ (s₁.setTop (mkF m 22 #[.val (.int p0), .val (.int p1), .val (.int p2), .val (.long q3), .second, .val (.int p4), .val (.int (p0 &&& (3 : Int32))), .unset, .unset, .unset, .unset, .unset] []))
      refine own_by (fun _ kS => XS.iloadN X0.here hx rfl (hb hby at_22) rfl kS) ?_
      show own_Comes p e below s _ _ _ (s₁.setTop (mkF m 23 #[.val (.int p0), .val (.int p1), .val (.int p2), .val (.long q3), .second, .val (.int p4), .val (.int (p0 &&& (3 : Int32))), .unset, .unset, .unset, .unset, .unset] [(.int p1)]))
      obtain ⟨_, _, ⟨T166, L166, k166, n166⟩, -, X166, ⟨Lc166, hQ166, l166, y166, z166⟩, st166⟩ := Jvm.LawKit.callS X0 hx (y := (⟨"java/lang/Integer", "valueOf", "(I)Ljava/lang/Integer;"⟩ : MethodName)) hown (mvT hZ (hw _ (List.mem_of_getElem? (i := 0) rfl))) (mvT hZ (hw _ (List.mem_of_getElem? (i := 1) rfl))) (mvT hZ (hw _ (List.mem_of_getElem? (i := 2) rfl))) (mvT hZ (hw _ (List.mem_of_getElem? (i := 3) rfl))) (by decide) (backOf (W := 0) (rm1 l Z a0 hw [] p1 ca cc h0 n0 Z0 O0 Sh Sc Bx) hZ (hw _ (List.mem_of_getElem? (i := 3) rfl)) (hw _ (List.mem_of_getElem? (i := 2) rfl)) (by decide) (by decide)) (g := (mkF m 23 #[.val (.int p0), .val (.int p1), .val (.int p2), .val (.long q3), .second, .val (.int p4), .val (.int (p0 &&& (3 : Int32))), .unset, .unset, .unset, .unset, .unset] [(.int p1)])) rfl (by rw [hml]; rfl) (argsL := [(.int p1)]) (rest := []) (lenOf pd__I_Ljava_lang_Integer__940 rfl) rfl (by show 2 * 0 + _ ≤ _; exact Nat.le_of_eq rfl) (hb hby at_23) (fun _ _ => ⟨rfl, e0, (by decide : 0 + 1 ≤ _), (by decide : 0 + 1 ≤ _)⟩)
      dsimp only [Pt.U, Pt.locs, Pt.cells, Pt.slots] at X166 l166 y166 z166 st166 hQ166
      subst l166 y166 z166
      obtain ⟨a166, rfl, N166q, E166, Eb166, Fb166⟩ := hQ166
      have N166 := Fr.app N0 N166q
      refine own_by st166 ?_
      show own_Comes p e below s _ _ _ (T166.setTop (mkF m 26 #[.val (.int p0), .val (.int p1), .val (.int p2), .val (.long q3), .second, .val (.int p4), .val (.int (p0 &&& (3 : Int32))), .unset, .unset, .unset, .unset, .unset] [(.ref a166)]))
      refine own_by (fun _ kS => XS.astore X166.here hx rfl (hb hby at_26) rfl rfl (l' := #[.val (.int p0), .val (.int p1), .val (.int p2), .val (.long q3), .second, .val (.int p4), .val (.int (p0 &&& (3 : Int32))), .val (.ref a166), .unset, .unset, .unset, .unset]) rfl kS) ?_
      show own_Comes p e below s _ _ _ (T166.setTop (mkF m 28 #[.val (.int p0), .val (.int p1), .val (.int p2), .val (.long q3), .second, .val (.int p4), .val (.int (p0 &&& (3 : Int32))), .val (.ref a166), .unset, .unset, .unset, .unset] []))
      refine own_by (fun _ kS => XS.goto X166.here hx rfl (pc0 := 28) (pc' := 85) rfl (hb hby at_28) (by decide) (by decide) kS) ?_
      show own_Comes p e below s _ _ _ (T166.setTop (mkF m 85 #[.val (.int p0), .val (.int p1), .val (.int p2), .val (.long q3), .second, .val (.int p4), .val (.int (p0 &&& (3 : Int32))), .val (.ref a166), .unset, .unset, .unset, .unset] []))
      refine own_by (fun _ kS => XS.iloadN X166.here hx rfl (hb hby at_85) rfl kS) ?_
      show own_Comes p e below s _ _ _ (T166.setTop (mkF m 86 #[.val (.int p0), .val (.int p1), .val (.int p2), .val (.long q3), .second, .val (.int p4), .val (.int (p0 &&& (3 : Int32))), .val (.ref a166), .unset, .unset, .unset, .unset] [(.int p2)]))
      obtain ⟨_, _, ⟨T167, L167, k167, n167⟩, -, X167, ⟨Lc167, hQ167, l167, y167, z167⟩, st167⟩ := Jvm.LawKit.callS X166 hx (y := (⟨"java/lang/Integer", "valueOf", "(I)Ljava/lang/Integer;"⟩ : MethodName)) hown (mvT hZ (hw _ (List.mem_of_getElem? (i := 0) rfl))) (mvT hZ (hw _ (List.mem_of_getElem? (i := 1) rfl))) (mvT hZ (hw _ (List.mem_of_getElem? (i := 2) rfl))) (mvT hZ (hw _ (List.mem_of_getElem? (i := 3) rfl))) (by decide) (backOf (W := 0) (rm1 l Z a0 hw [] p2 ca cc T166.heap n0 (Nat.le_trans Z0 E166.1) (O0.ext E166) Sh Sc Bx) hZ (hw _ (List.mem_of_getElem? (i := 3) rfl)) (hw _ (List.mem_of_getElem? (i := 2) rfl)) (by decide) (by decide)) (g := (mkF m 86 #[.val (.int p0), .val (.int p1), .val (.int p2), .val (.long q3), .second, .val (.int p4), .val (.int (p0 &&& (3 : Int32))), .val (.ref a166), .unset, .unset, .unset, .unset] [(.int p2)])) rfl (by rw [hml]; rfl) (argsL := [(.int p2)]) (rest := []) (lenOf pd__I_Ljava_lang_Integer__940 rfl) rfl (by show 2 * 0 + _ ≤ _; exact Nat.le_of_eq rfl) (hb hby at_86) (fun _ _ => ⟨rfl, rfl, (by decide : 1 + 1 ≤ _), (by decide : 1 + 1 ≤ _)⟩)
      dsimp only [Pt.U, Pt.locs, Pt.cells, Pt.slots] at X167 l167 y167 z167 st167 hQ167
      subst l167 y167 z167
      obtain ⟨a167, rfl, N167q, E167, Eb167, Fb167⟩ := hQ167
      have N167 := Fr.app N166 N167q
      refine own_by st167 ?_
      show own_Comes p e below s _ _ _ (T167.setTop (mkF m 89 #[.val (.int p0), .val (.int p1), .val (.int p2), .val (.long q3), .second, .val (.int p4), .val (.int (p0 &&& (3 : Int32))), .val (.ref a166), .unset, .unset, .unset, .unset] [(.ref a167)]))
      refine own_by (fun _ kS => XS.astore X167.here hx rfl (hb hby at_89) rfl rfl (l' := #[.val (.int p0), .val (.int p1), .val (.int p2), .val (.long q3), .second, .val (.int p4), .val (.int (p0 &&& (3 : Int32))), .val (.ref a166), .val (.ref a167), .unset, .unset, .unset]) rfl kS) ?_
      show own_Comes p e below s _ _ _ (T167.setTop (mkF m 91 #[.val (.int p0), .val (.int p1), .val (.int p2), .val (.long q3), .second, .val (.int p4), .val (.int (p0 &&& (3 : Int32))), .val (.ref a166), .val (.ref a167), .unset, .unset, .unset] []))
      refine own_by (fun _ kS => XS.aload X167.here hx rfl (hb hby at_91) rfl rfl kS) ?_
      show own_Comes p e below s _ _ _ (T167.setTop (mkF m 93 #[.val (.int p0), .val (.int p1), .val (.int p2), .val (.long q3), .second, .val (.int p4), .val (.int (p0 &&& (3 : Int32))), .val (.ref a166), .val (.ref a167), .unset, .unset, .unset] [(.ref a166)]))
      obtain ⟨_, _, ⟨T168, L168, k168, n168⟩, -, X168, ⟨Lc168, hQ168, l168, y168, z168⟩, st168⟩ := Jvm.LawKit.callS X167 hx (y := (⟨"com/example/layered_mocks/layeredmocks/Answer", "value", "(Ljava/lang/Object;)Lcom/example/layered_mocks/layeredmocks/Answer;"⟩ : MethodName)) hown (mvT hZ (hw _ (List.mem_of_getElem? (i := 7) rfl))) (mvT hZ (hw _ (List.mem_of_getElem? (i := 8) rfl))) (mvT hZ (hw _ (List.mem_of_getElem? (i := 9) rfl))) (mvT hZ (hw _ (List.mem_of_getElem? (i := 10) rfl))) (by decide) (backOf (W := 0) (rm2r l Z a0 hw [] k a166 em T167.heap n0 (Nat.le_trans (Nat.le_trans Z0 E166.1) E167.1) ((O0.ext E166).ext E167) Se Sk) hZ (hw _ (List.mem_of_getElem? (i := 10) rfl)) (hw _ (List.mem_of_getElem? (i := 9) rfl)) (by decide) (by decide)) (g := (mkF m 93 #[.val (.int p0), .val (.int p1), .val (.int p2), .val (.long q3), .second, .val (.int p4), .val (.int (p0 &&& (3 : Int32))), .val (.ref a166), .val (.ref a167), .unset, .unset, .unset] [(.ref a166)])) rfl (by rw [hml]; rfl) (argsL := [(.ref a166)]) (rest := []) (lenOf pd__Ljava_lang_Object__Lcom_example_layered_mocks_layeredmocks_Answer__438 rfl) rfl (by show 2 * 0 + _ ≤ _; exact Nat.le_of_eq rfl) (hb hby at_93) (fun _ _ => ⟨rfl, rfl, (by decide : 2 + 1 ≤ _), (by decide : 2 + 8 ≤ _)⟩)
      dsimp only [Pt.U, Pt.locs, Pt.cells, Pt.slots] at X168 l168 y168 z168 st168 hQ168
      subst l168 y168 z168
      obtain ⟨a168, rfl, N168q, E168, A168⟩ := hQ168
      have N168 := Fr.app N167 N168q
      refine own_by st168 ?_
      show own_Comes p e below s _ _ _ (T168.setTop (mkF m 96 #[.val (.int p0), .val (.int p1), .val (.int p2), .val (.long q3), .second, .val (.int p4), .val (.int (p0 &&& (3 : Int32))), .val (.ref a166), .val (.ref a167), .unset, .unset, .unset] [(.ref a168)]))
      refine own_by (fun _ kS => XS.astore X168.here hx rfl (hb hby at_96) rfl rfl (l' := #[.val (.int p0), .val (.int p1), .val (.int p2), .val (.long q3), .second, .val (.int p4), .val (.int (p0 &&& (3 : Int32))), .val (.ref a166), .val (.ref a167), .val (.ref a168), .unset, .unset]) rfl kS) ?_
      show own_Comes p e below s _ _ _ (T168.setTop (mkF m 98 #[.val (.int p0), .val (.int p1), .val (.int p2), .val (.long q3), .second, .val (.int p4), .val (.int (p0 &&& (3 : Int32))), .val (.ref a166), .val (.ref a167), .val (.ref a168), .unset, .unset] []))
      refine own_by (fun _ kS => XS.aload X168.here hx rfl (hb hby at_98) rfl rfl kS) ?_
      show own_Comes p e below s _ _ _ (T168.setTop (mkF m 100 #[.val (.int p0), .val (.int p1), .val (.int p2), .val (.long q3), .second, .val (.int p4), .val (.int (p0 &&& (3 : Int32))), .val (.ref a166), .val (.ref a167), .val (.ref a168), .unset, .unset] [(.ref a167)]))
      obtain ⟨_, _, ⟨T169, L169, k169, n169⟩, -, X169, ⟨Lc169, hQ169, l169, y169, z169⟩, st169⟩ := Jvm.LawKit.callS X168 hx (y := (⟨"com/example/layered_mocks/layeredmocks/Answer", "value", "(Ljava/lang/Object;)Lcom/example/layered_mocks/layeredmocks/Answer;"⟩ : MethodName)) hown (mvT hZ (hw _ (List.mem_of_getElem? (i := 7) rfl))) (mvT hZ (hw _ (List.mem_of_getElem? (i := 8) rfl))) (mvT hZ (hw _ (List.mem_of_getElem? (i := 9) rfl))) (mvT hZ (hw _ (List.mem_of_getElem? (i := 10) rfl))) (by decide) (backOf (W := 0) (rm2r l Z a0 hw [] k a167 em T168.heap n0 (Nat.le_trans (Nat.le_trans (Nat.le_trans Z0 E166.1) E167.1) E168.1) (((O0.ext E166).ext E167).ext E168) Se Sk) hZ (hw _ (List.mem_of_getElem? (i := 10) rfl)) (hw _ (List.mem_of_getElem? (i := 9) rfl)) (by decide) (by decide)) (g := (mkF m 100 #[.val (.int p0), .val (.int p1), .val (.int p2), .val (.long q3), .second, .val (.int p4), .val (.int (p0 &&& (3 : Int32))), .val (.ref a166), .val (.ref a167), .val (.ref a168), .unset, .unset] [(.ref a167)])) rfl (by rw [hml]; rfl) (argsL := [(.ref a167)]) (rest := []) (lenOf pd__Ljava_lang_Object__Lcom_example_layered_mocks_layeredmocks_Answer__438 rfl) rfl (by show 2 * 0 + _ ≤ _; exact Nat.le_of_eq rfl) (hb hby at_100) (fun _ _ => ⟨rfl, rfl, (by decide : 3 + 1 ≤ _), (by decide : 10 + 8 ≤ _)⟩)
      dsimp only [Pt.U, Pt.locs, Pt.cells, Pt.slots] at X169 l169 y169 z169 st169 hQ169
      subst l169 y169 z169
      obtain ⟨a169, rfl, N169q, E169, A169⟩ := hQ169
      have N169 := Fr.app N168 N169q
      refine own_by st169 ?_
      show own_Comes p e below s _ _ _ (T169.setTop (mkF m 103 #[.val (.int p0), .val (.int p1), .val (.int p2), .val (.long q3), .second, .val (.int p4), .val (.int (p0 &&& (3 : Int32))), .val (.ref a166), .val (.ref a167), .val (.ref a168), .unset, .unset] [(.ref a169)]))
      refine own_by (fun _ kS => XS.astore X169.here hx rfl (hb hby at_103) rfl rfl (l' := #[.val (.int p0), .val (.int p1), .val (.int p2), .val (.long q3), .second, .val (.int p4), .val (.int (p0 &&& (3 : Int32))), .val (.ref a166), .val (.ref a167), .val (.ref a168), .val (.ref a169), .unset]) rfl kS) ?_
      show own_Comes p e below s _ _ _ (T169.setTop (mkF m 105 #[.val (.int p0), .val (.int p1), .val (.int p2), .val (.long q3), .second, .val (.int p4), .val (.int (p0 &&& (3 : Int32))), .val (.ref a166), .val (.ref a167), .val (.ref a168), .val (.ref a169), .unset] []))
      refine own_by (fun _ kS => XS.iload X169.here hx rfl (hb hby at_105) rfl kS) ?_
      show own_Comes p e below s _ _ _ (T169.setTop (mkF m 107 #[.val (.int p0), .val (.int p1), .val (.int p2), .val (.long q3), .second, .val (.int p4), .val (.int (p0 &&& (3 : Int32))), .val (.ref a166), .val (.ref a167), .val (.ref a168), .val (.ref a169), .unset] [(.int (p0 &&& (3 : Int32)))]))
      refine own_by (fun _ kS => XS.iconst X169.here hx rfl (hb hby at_107) kS) ?_
      show own_Comes p e below s _ _ _ (T169.setTop (mkF m 108 #[.val (.int p0), .val (.int p1), .val (.int p2), .val (.long q3), .second, .val (.int p4), .val (.int (p0 &&& (3 : Int32))), .val (.ref a166), .val (.ref a167), .val (.ref a168), .val (.ref a169), .unset] [(.int (1 : Int32)), (.int (p0 &&& (3 : Int32)))]))
      refine own_by (fun _ kS => XS.icmpNo X169.here hx rfl (hb hby at_108) rfl (teq hm1).2 kS) ?_
      show own_Comes p e below s _ _ _ (T169.setTop (mkF m 111 #[.val (.int p0), .val (.int p1), .val (.int p2), .val (.long q3), .second, .val (.int p4), .val (.int (p0 &&& (3 : Int32))), .val (.ref a166), .val (.ref a167), .val (.ref a168), .val (.ref a169), .unset] []))
      refine own_by (fun _ kS => XS.iloadN X169.here hx rfl (hb hby at_111) rfl kS) ?_
      show own_Comes p e below s _ _ _ (T169.setTop (mkF m 112 #[.val (.int p0), .val (.int p1), .val (.int p2), .val (.long q3), .second, .val (.int p4), .val (.int (p0 &&& (3 : Int32))), .val (.ref a166), .val (.ref a167), .val (.ref a168), .val (.ref a169), .unset] [(.int p1)]))
      refine own_by (fun _ kS => XS.iloadN X169.here hx rfl (hb hby at_112) rfl kS) ?_
      show own_Comes p e below s _ _ _ (T169.setTop (mkF m 113 #[.val (.int p0), .val (.int p1), .val (.int p2), .val (.long q3), .second, .val (.int p4), .val (.int (p0 &&& (3 : Int32))), .val (.ref a166), .val (.ref a167), .val (.ref a168), .val (.ref a169), .unset] [(.int p2), (.int p1)]))
      by_cases hab : p1 = p2
      · refine own_by (fun _ kS => XS.icmpNo X169.here hx rfl (hb hby at_113) rfl (teq hab).2 kS) ?_
        show own_Comes p e below s _ _ _ (T169.setTop (mkF m 116 #[.val (.int p0), .val (.int p1), .val (.int p2), .val (.long q3), .second, .val (.int p4), .val (.int (p0 &&& (3 : Int32))), .val (.ref a166), .val (.ref a167), .val (.ref a168), .val (.ref a169), .unset] []))
        refine own_by (fun _ kS => XS.iconst X169.here hx rfl (hb hby at_116) kS) ?_
        show own_Comes p e below s _ _ _ (T169.setTop (mkF m 117 #[.val (.int p0), .val (.int p1), .val (.int p2), .val (.long q3), .second, .val (.int p4), .val (.int (p0 &&& (3 : Int32))), .val (.ref a166), .val (.ref a167), .val (.ref a168), .val (.ref a169), .unset] [(.int (1 : Int32))]))
        refine own_by (fun _ kS => XS.goto X169.here hx rfl (pc0 := 117) (pc' := 121) rfl (hb hby at_117) (by decide) (by decide) kS) ?_
        show own_Comes p e below s _ _ _ (T169.setTop (mkF m 121 #[.val (.int p0), .val (.int p1), .val (.int p2), .val (.long q3), .second, .val (.int p4), .val (.int (p0 &&& (3 : Int32))), .val (.ref a166), .val (.ref a167), .val (.ref a168), .val (.ref a169), .unset] [(.int (1 : Int32))]))
        refine own_by (fun _ kS => XS.istore X169.here hx rfl (hb hby at_121) rfl (l' := #[.val (.int p0), .val (.int p1), .val (.int p2), .val (.long q3), .second, .val (.int p4), .val (.int (p0 &&& (3 : Int32))), .val (.ref a166), .val (.ref a167), .val (.ref a168), .val (.ref a169), .val (.int (1 : Int32))]) rfl kS) ?_
        show own_Comes p e below s _ _ _ (T169.setTop (mkF m 123 #[.val (.int p0), .val (.int p1), .val (.int p2), .val (.long q3), .second, .val (.int p4), .val (.int (p0 &&& (3 : Int32))), .val (.ref a166), .val (.ref a167), .val (.ref a168), .val (.ref a169), .val (.int (1 : Int32))] []))
        refine own_by (fun _ kS => XS.aload X169.here hx rfl (hb hby at_123) rfl rfl kS) ?_
        show own_Comes p e below s _ _ _ (T169.setTop (mkF m 125 #[.val (.int p0), .val (.int p1), .val (.int p2), .val (.long q3), .second, .val (.int p4), .val (.int (p0 &&& (3 : Int32))), .val (.ref a166), .val (.ref a167), .val (.ref a168), .val (.ref a169), .val (.int (1 : Int32))] [(.ref a168)]))
        obtain ⟨cq170, kq170, q170a, q170b, q170c⟩ := isOf hZ rfl (A168.ext E169).1
        obtain ⟨_, _, ⟨T170, L170, k170, n170⟩, -, X170, ⟨Lc170, hQ170, l170, y170, z170⟩, st170⟩ := X169.virtualBack hx (y := (⟨"com/example/layered_mocks/layeredmocks/Answer", "kind", "()Lcom/example/layered_mocks/layeredmocks/Answer$Kind;"⟩ : MethodName)) (z := (⟨"com/example/layered_mocks/layeredmocks/Answer", "kind", "()Lcom/example/layered_mocks/layeredmocks/Answer$Kind;"⟩ : MethodName)) hown (mvT hZ (hw _ (List.mem_of_getElem? (i := 47) rfl))) (mvT hZ (hw _ (List.mem_of_getElem? (i := 48) rfl))) (notFace_of_selects (args := #[]) (mvT hZ (hw _ (List.mem_of_getElem? (i := 50) rfl)))) (mvT hZ (hw _ (List.mem_of_getElem? (i := 50) rfl))) (mvT hZ (hw _ (List.mem_of_getElem? (i := 49) rfl))) (by decide) (backOf (W := 0) (rm7 l Z a0 hw [] a168 (.ref k) T169.heap n0 (Nat.le_trans (Nat.le_trans (Nat.le_trans (Nat.le_trans Z0 E166.1) E167.1) E168.1) E169.1) (A168.ext E169).2.1 rfl) hZ (hw _ (List.mem_of_getElem? (i := 51) rfl)) (hw _ (List.mem_of_getElem? (i := 9) rfl)) (by decide) (by decide)) q170a q170c (g := (mkF m 125 #[.val (.int p0), .val (.int p1), .val (.int p2), .val (.long q3), .second, .val (.int p4), .val (.int (p0 &&& (3 : Int32))), .val (.ref a166), .val (.ref a167), .val (.ref a168), .val (.ref a169), .val (.int (1 : Int32))] [(.ref a168)])) rfl (by rw [hml]; rfl) (Steps.refl _) (argsL := []) (rest := []) (lenOf pd___Lcom_example_layered_mocks_layeredmocks_Answer_Kind__197 rfl) rfl (by show 2 * 0 + _ ≤ _; exact Nat.le_of_eq rfl) (hb hby at_125) (fun _ _ => ⟨rfl, rfl, (by decide : 4 + 0 ≤ _), (by decide : 18 + 0 ≤ _)⟩)
        dsimp only [Pt.U, Pt.locs, Pt.cells, Pt.slots] at X170 l170 y170 z170 st170 hQ170
        subst l170 y170 z170
        obtain ⟨rfl, N170q, e170q⟩ := hQ170
        have N170 := Fr.app N169 N170q
        refine own_tr st170 ?_
        have e170 : T170.heap = T169.heap := e170q
        show own_Comes p e below s _ _ _ (T170.setTop (mkF m 128 #[.val (.int p0), .val (.int p1), .val (.int p2), .val (.long q3), .second, .val (.int p4), .val (.int (p0 &&& (3 : Int32))), .val (.ref a166), .val (.ref a167), .val (.ref a168), .val (.ref a169), .val (.int (1 : Int32))] [(.ref k)]))
        obtain ⟨T171, X171, e171, st171⟩ := getS2 X170 hx hZ hown (host := "") (Or.inl (hw _ (List.mem_of_getElem? (i := 52) rfl))) Via.refl e170 (Sk.ext ((((O0.ext E166).ext E167).ext E168).ext E169).2) (g := (mkF m 128 #[.val (.int p0), .val (.int p1), .val (.int p2), .val (.long q3), .second, .val (.int p4), .val (.int (p0 &&& (3 : Int32))), .val (.ref a166), .val (.ref a167), .val (.ref a168), .val (.ref a169), .val (.int (1 : Int32))] [(.ref k)])) rfl (hb hby at_128)
        refine own_by st171 ?_
        show own_Comes p e below s _ _ _ (T171.setTop (mkF m 131 #[.val (.int p0), .val (.int p1), .val (.int p2), .val (.long q3), .second, .val (.int p4), .val (.int (p0 &&& (3 : Int32))), .val (.ref a166), .val (.ref a167), .val (.ref a168), .val (.ref a169), .val (.int (1 : Int32))] [(.ref k), (.ref k)]))
        refine own_by (fun _ kS => Jvm.RoadKit.acmp (g := (mkF m 131 #[.val (.int p0), .val (.int p1), .val (.int p2), .val (.long q3), .second, .val (.int p4), .val (.int (p0 &&& (3 : Int32))), .val (.ref a166), .val (.ref a167), .val (.ref a168), .val (.ref a169), .val (.int (1 : Int32))] [(.ref k), (.ref k)])) X171 hx rfl rfl rfl (pc0 := 131) (pc' := 134) (same := true) rfl (hb hby at_131) rfl (decide_eq_true rfl) (by decide) (by decide) kS) ?_
        show own_Comes p e below s _ _ _ (T171.setTop (mkF m 134 #[.val (.int p0), .val (.int p1), .val (.int p2), .val (.long q3), .second, .val (.int p4), .val (.int (p0 &&& (3 : Int32))), .val (.ref a166), .val (.ref a167), .val (.ref a168), .val (.ref a169), .val (.int (1 : Int32))] []))
        refine own_by (fun _ kS => XS.aload X171.here hx rfl (hb hby at_134) rfl rfl kS) ?_
        show own_Comes p e below s _ _ _ (T171.setTop (mkF m 136 #[.val (.int p0), .val (.int p1), .val (.int p2), .val (.long q3), .second, .val (.int p4), .val (.int (p0 &&& (3 : Int32))), .val (.ref a166), .val (.ref a167), .val (.ref a168), .val (.ref a169), .val (.int (1 : Int32))] [(.ref a168)]))
        obtain ⟨cq172, kq172, q172a, q172b, q172c⟩ := isOf hZ e171 (A168.ext E169).1
        obtain ⟨_, _, ⟨T172, L172, k172, n172⟩, -, X172, ⟨Lc172, hQ172, l172, y172, z172⟩, st172⟩ := X171.virtualBack hx (y := (⟨"com/example/layered_mocks/layeredmocks/Answer", "result", "()Ljava/lang/Object;"⟩ : MethodName)) (z := (⟨"com/example/layered_mocks/layeredmocks/Answer", "result", "()Ljava/lang/Object;"⟩ : MethodName)) hown (mvT hZ (hw _ (List.mem_of_getElem? (i := 53) rfl))) (mvT hZ (hw _ (List.mem_of_getElem? (i := 54) rfl))) (notFace_of_selects (args := #[]) (mvT hZ (hw _ (List.mem_of_getElem? (i := 56) rfl)))) (mvT hZ (hw _ (List.mem_of_getElem? (i := 56) rfl))) (mvT hZ (hw _ (List.mem_of_getElem? (i := 55) rfl))) (by decide) (backOf (W := 0) (rm8 l Z a0 hw [] a168 (.ref a166) T169.heap n0 (Nat.le_trans (Nat.le_trans (Nat.le_trans (Nat.le_trans Z0 E166.1) E167.1) E168.1) E169.1) (A168.ext E169).2.2.1 rfl) hZ (hw _ (List.mem_of_getElem? (i := 57) rfl)) (hw _ (List.mem_of_getElem? (i := 9) rfl)) (by decide) (by decide)) q172a q172c (g := (mkF m 136 #[.val (.int p0), .val (.int p1), .val (.int p2), .val (.long q3), .second, .val (.int p4), .val (.int (p0 &&& (3 : Int32))), .val (.ref a166), .val (.ref a167), .val (.ref a168), .val (.ref a169), .val (.int (1 : Int32))] [(.ref a168)])) rfl (by rw [hml]; rfl) (Steps.refl _) (argsL := []) (rest := []) (lenOf pd___Ljava_lang_Object__748 rfl) rfl (by show 2 * 0 + _ ≤ _; exact Nat.le_of_eq rfl) (hb hby at_136) (fun _ _ => ⟨rfl, e171, (by decide : 4 + 0 ≤ _), (by decide : 18 + 0 ≤ _)⟩)
        dsimp only [Pt.U, Pt.locs, Pt.cells, Pt.slots] at X172 l172 y172 z172 st172 hQ172
        subst l172 y172 z172
        obtain ⟨rfl, N172q, e172q⟩ := hQ172
        have N172 := Fr.app N170 N172q
        refine own_tr st172 ?_
        have e172 : T172.heap = T169.heap := e172q
        show own_Comes p e below s _ _ _ (T172.setTop (mkF m 139 #[.val (.int p0), .val (.int p1), .val (.int p2), .val (.long q3), .second, .val (.int p4), .val (.int (p0 &&& (3 : Int32))), .val (.ref a166), .val (.ref a167), .val (.ref a168), .val (.ref a169), .val (.int (1 : Int32))] [(.ref a166)]))
        refine own_by (fun _ kS => XS.aload X172.here hx rfl (hb hby at_139) rfl rfl kS) ?_
        show own_Comes p e below s _ _ _ (T172.setTop (mkF m 141 #[.val (.int p0), .val (.int p1), .val (.int p2), .val (.long q3), .second, .val (.int p4), .val (.int (p0 &&& (3 : Int32))), .val (.ref a166), .val (.ref a167), .val (.ref a168), .val (.ref a169), .val (.int (1 : Int32))] [(.ref a166), (.ref a166)]))
        refine own_by (fun _ kS => Jvm.RoadKit.acmp (g := (mkF m 141 #[.val (.int p0), .val (.int p1), .val (.int p2), .val (.long q3), .second, .val (.int p4), .val (.int (p0 &&& (3 : Int32))), .val (.ref a166), .val (.ref a167), .val (.ref a168), .val (.ref a169), .val (.int (1 : Int32))] [(.ref a166), (.ref a166)])) X172 hx rfl rfl rfl (pc0 := 141) (pc' := 144) (same := true) rfl (hb hby at_141) rfl (decide_eq_true rfl) (by decide) (by decide) kS) ?_
        show own_Comes p e below s _ _ _ (T172.setTop (mkF m 144 #[.val (.int p0), .val (.int p1), .val (.int p2), .val (.long q3), .second, .val (.int p4), .val (.int (p0 &&& (3 : Int32))), .val (.ref a166), .val (.ref a167), .val (.ref a168), .val (.ref a169), .val (.int (1 : Int32))] []))
        refine own_by (fun _ kS => XS.aload X172.here hx rfl (hb hby at_144) rfl rfl kS) ?_
        show own_Comes p e below s _ _ _ (T172.setTop (mkF m 146 #[.val (.int p0), .val (.int p1), .val (.int p2), .val (.long q3), .second, .val (.int p4), .val (.int (p0 &&& (3 : Int32))), .val (.ref a166), .val (.ref a167), .val (.ref a168), .val (.ref a169), .val (.int (1 : Int32))] [(.ref a168)]))
        obtain ⟨cq173, kq173, q173a, q173b, q173c⟩ := isOf hZ e172 (A168.ext E169).1
        obtain ⟨_, _, ⟨T173, L173, k173, n173⟩, -, X173, ⟨Lc173, hQ173, l173, y173, z173⟩, st173⟩ := X172.virtualBack hx (y := (⟨"com/example/layered_mocks/layeredmocks/Answer", "failure", "()Ljava/lang/Throwable;"⟩ : MethodName)) (z := (⟨"com/example/layered_mocks/layeredmocks/Answer", "failure", "()Ljava/lang/Throwable;"⟩ : MethodName)) hown (mvT hZ (hw _ (List.mem_of_getElem? (i := 58) rfl))) (mvT hZ (hw _ (List.mem_of_getElem? (i := 59) rfl))) (notFace_of_selects (args := #[]) (mvT hZ (hw _ (List.mem_of_getElem? (i := 61) rfl)))) (mvT hZ (hw _ (List.mem_of_getElem? (i := 61) rfl))) (mvT hZ (hw _ (List.mem_of_getElem? (i := 60) rfl))) (by decide) (backOf (W := 0) (rm9 l Z a0 hw [] a168 .null T169.heap n0 (Nat.le_trans (Nat.le_trans (Nat.le_trans (Nat.le_trans Z0 E166.1) E167.1) E168.1) E169.1) (A168.ext E169).2.2.2.1 rfl) hZ (hw _ (List.mem_of_getElem? (i := 62) rfl)) (hw _ (List.mem_of_getElem? (i := 9) rfl)) (by decide) (by decide)) q173a q173c (g := (mkF m 146 #[.val (.int p0), .val (.int p1), .val (.int p2), .val (.long q3), .second, .val (.int p4), .val (.int (p0 &&& (3 : Int32))), .val (.ref a166), .val (.ref a167), .val (.ref a168), .val (.ref a169), .val (.int (1 : Int32))] [(.ref a168)])) rfl (by rw [hml]; rfl) (Steps.refl _) (argsL := []) (rest := []) (lenOf pd___Ljava_lang_Throwable__88 rfl) rfl (by show 2 * 0 + _ ≤ _; exact Nat.le_of_eq rfl) (hb hby at_146) (fun _ _ => ⟨rfl, e172, (by decide : 4 + 0 ≤ _), (by decide : 18 + 0 ≤ _)⟩)
        dsimp only [Pt.U, Pt.locs, Pt.cells, Pt.slots] at X173 l173 y173 z173 st173 hQ173
        subst l173 y173 z173
        obtain ⟨rfl, N173q, e173q⟩ := hQ173
        have N173 := Fr.app N172 N173q
        refine own_tr st173 ?_
        have e173 : T173.heap = T169.heap := e173q
        show own_Comes p e below s _ _ _ (T173.setTop (mkF m 149 #[.val (.int p0), .val (.int p1), .val (.int p2), .val (.long q3), .second, .val (.int p4), .val (.int (p0 &&& (3 : Int32))), .val (.ref a166), .val (.ref a167), .val (.ref a168), .val (.ref a169), .val (.int (1 : Int32))] [.null]))
        refine own_by (fun _ kS => XS.ifnonnullNo X173.here hx rfl (hb hby at_149) rfl kS) ?_
        show own_Comes p e below s _ _ _ (T173.setTop (mkF m 152 #[.val (.int p0), .val (.int p1), .val (.int p2), .val (.long q3), .second, .val (.int p4), .val (.int (p0 &&& (3 : Int32))), .val (.ref a166), .val (.ref a167), .val (.ref a168), .val (.ref a169), .val (.int (1 : Int32))] []))
        refine own_by (fun _ kS => XS.aload X173.here hx rfl (hb hby at_152) rfl rfl kS) ?_
        show own_Comes p e below s _ _ _ (T173.setTop (mkF m 154 #[.val (.int p0), .val (.int p1), .val (.int p2), .val (.long q3), .second, .val (.int p4), .val (.int (p0 &&& (3 : Int32))), .val (.ref a166), .val (.ref a167), .val (.ref a168), .val (.ref a169), .val (.int (1 : Int32))] [(.ref a168)]))
        obtain ⟨cq174, kq174, q174a, q174b, q174c⟩ := isOf hZ e173 (A168.ext E169).1
        obtain ⟨_, _, ⟨T174, L174, k174, n174⟩, -, X174, ⟨Lc174, hQ174, l174, y174, z174⟩, st174⟩ := X173.virtualBack hx (y := (⟨"com/example/layered_mocks/layeredmocks/Answer", "delay", "()Ljava/time/Duration;"⟩ : MethodName)) (z := (⟨"com/example/layered_mocks/layeredmocks/Answer", "delay", "()Ljava/time/Duration;"⟩ : MethodName)) hown (mvT hZ (hw _ (List.mem_of_getElem? (i := 63) rfl))) (mvT hZ (hw _ (List.mem_of_getElem? (i := 64) rfl))) (notFace_of_selects (args := #[]) (mvT hZ (hw _ (List.mem_of_getElem? (i := 66) rfl)))) (mvT hZ (hw _ (List.mem_of_getElem? (i := 66) rfl))) (mvT hZ (hw _ (List.mem_of_getElem? (i := 65) rfl))) (by decide) (backOf (W := 0) (rm10 l Z a0 hw [] a168 .null T169.heap n0 (Nat.le_trans (Nat.le_trans (Nat.le_trans (Nat.le_trans Z0 E166.1) E167.1) E168.1) E169.1) (A168.ext E169).2.2.2.2.2.2.2.2 rfl) hZ (hw _ (List.mem_of_getElem? (i := 67) rfl)) (hw _ (List.mem_of_getElem? (i := 9) rfl)) (by decide) (by decide)) q174a q174c (g := (mkF m 154 #[.val (.int p0), .val (.int p1), .val (.int p2), .val (.long q3), .second, .val (.int p4), .val (.int (p0 &&& (3 : Int32))), .val (.ref a166), .val (.ref a167), .val (.ref a168), .val (.ref a169), .val (.int (1 : Int32))] [(.ref a168)])) rfl (by rw [hml]; rfl) (Steps.refl _) (argsL := []) (rest := []) (lenOf pd___Ljava_time_Duration__3 rfl) rfl (by show 2 * 0 + _ ≤ _; exact Nat.le_of_eq rfl) (hb hby at_154) (fun _ _ => ⟨rfl, e173, (by decide : 4 + 0 ≤ _), (by decide : 18 + 0 ≤ _)⟩)
        dsimp only [Pt.U, Pt.locs, Pt.cells, Pt.slots] at X174 l174 y174 z174 st174 hQ174
        subst l174 y174 z174
        obtain ⟨rfl, N174q, e174q⟩ := hQ174
        have N174 := Fr.app N173 N174q
        refine own_tr st174 ?_
        have e174 : T174.heap = T169.heap := e174q
        show own_Comes p e below s _ _ _ (T174.setTop (mkF m 157 #[.val (.int p0), .val (.int p1), .val (.int p2), .val (.long q3), .second, .val (.int p4), .val (.int (p0 &&& (3 : Int32))), .val (.ref a166), .val (.ref a167), .val (.ref a168), .val (.ref a169), .val (.int (1 : Int32))] [.null]))
        refine own_by (fun _ kS => XS.ifnonnullNo X174.here hx rfl (hb hby at_157) rfl kS) ?_
        show own_Comes p e below s _ _ _ (T174.setTop (mkF m 160 #[.val (.int p0), .val (.int p1), .val (.int p2), .val (.long q3), .second, .val (.int p4), .val (.int (p0 &&& (3 : Int32))), .val (.ref a166), .val (.ref a167), .val (.ref a168), .val (.ref a169), .val (.int (1 : Int32))] []))
        refine own_by (fun _ kS => XS.aload X174.here hx rfl (hb hby at_160) rfl rfl kS) ?_
        show own_Comes p e below s _ _ _ (T174.setTop (mkF m 162 #[.val (.int p0), .val (.int p1), .val (.int p2), .val (.long q3), .second, .val (.int p4), .val (.int (p0 &&& (3 : Int32))), .val (.ref a166), .val (.ref a167), .val (.ref a168), .val (.ref a169), .val (.int (1 : Int32))] [(.ref a169)]))
        obtain ⟨cq175, kq175, q175a, q175b, q175c⟩ := isOf hZ e174 A169.1
        obtain ⟨_, _, ⟨T175, L175, k175, n175⟩, -, X175, ⟨Lc175, hQ175, l175, y175, z175⟩, st175⟩ := X174.virtualBack hx (y := (⟨"com/example/layered_mocks/layeredmocks/Answer", "result", "()Ljava/lang/Object;"⟩ : MethodName)) (z := (⟨"com/example/layered_mocks/layeredmocks/Answer", "result", "()Ljava/lang/Object;"⟩ : MethodName)) hown (mvT hZ (hw _ (List.mem_of_getElem? (i := 53) rfl))) (mvT hZ (hw _ (List.mem_of_getElem? (i := 54) rfl))) (notFace_of_selects (args := #[]) (mvT hZ (hw _ (List.mem_of_getElem? (i := 56) rfl)))) (mvT hZ (hw _ (List.mem_of_getElem? (i := 56) rfl))) (mvT hZ (hw _ (List.mem_of_getElem? (i := 55) rfl))) (by decide) (backOf (W := 0) (rm8 l Z a0 hw [] a169 (.ref a167) T169.heap n0 (Nat.le_trans (Nat.le_trans (Nat.le_trans (Nat.le_trans Z0 E166.1) E167.1) E168.1) E169.1) A169.2.2.1 rfl) hZ (hw _ (List.mem_of_getElem? (i := 57) rfl)) (hw _ (List.mem_of_getElem? (i := 9) rfl)) (by decide) (by decide)) q175a q175c (g := (mkF m 162 #[.val (.int p0), .val (.int p1), .val (.int p2), .val (.long q3), .second, .val (.int p4), .val (.int (p0 &&& (3 : Int32))), .val (.ref a166), .val (.ref a167), .val (.ref a168), .val (.ref a169), .val (.int (1 : Int32))] [(.ref a169)])) rfl (by rw [hml]; rfl) (Steps.refl _) (argsL := []) (rest := []) (lenOf pd___Ljava_lang_Object__748 rfl) rfl (by show 2 * 0 + _ ≤ _; exact Nat.le_of_eq rfl) (hb hby at_162) (fun _ _ => ⟨rfl, e174, (by decide : 4 + 0 ≤ _), (by decide : 18 + 0 ≤ _)⟩)
        dsimp only [Pt.U, Pt.locs, Pt.cells, Pt.slots] at X175 l175 y175 z175 st175 hQ175
        subst l175 y175 z175
        obtain ⟨rfl, N175q, e175q⟩ := hQ175
        have N175 := Fr.app N174 N175q
        refine own_tr st175 ?_
        have e175 : T175.heap = T169.heap := e175q
        show own_Comes p e below s _ _ _ (T175.setTop (mkF m 165 #[.val (.int p0), .val (.int p1), .val (.int p2), .val (.long q3), .second, .val (.int p4), .val (.int (p0 &&& (3 : Int32))), .val (.ref a166), .val (.ref a167), .val (.ref a168), .val (.ref a169), .val (.int (1 : Int32))] [(.ref a167)]))
        refine own_by (fun _ kS => XS.aload X175.here hx rfl (hb hby at_165) rfl rfl kS) ?_
        show own_Comes p e below s _ _ _ (T175.setTop (mkF m 167 #[.val (.int p0), .val (.int p1), .val (.int p2), .val (.long q3), .second, .val (.int p4), .val (.int (p0 &&& (3 : Int32))), .val (.ref a166), .val (.ref a167), .val (.ref a168), .val (.ref a169), .val (.int (1 : Int32))] [(.ref a167), (.ref a167)]))
        refine own_by (fun _ kS => Jvm.RoadKit.acmp (g := (mkF m 167 #[.val (.int p0), .val (.int p1), .val (.int p2), .val (.long q3), .second, .val (.int p4), .val (.int (p0 &&& (3 : Int32))), .val (.ref a166), .val (.ref a167), .val (.ref a168), .val (.ref a169), .val (.int (1 : Int32))] [(.ref a167), (.ref a167)])) X175 hx rfl rfl rfl (pc0 := 167) (pc' := 170) (same := true) rfl (hb hby at_167) rfl (decide_eq_true rfl) (by decide) (by decide) kS) ?_
        show own_Comes p e below s _ _ _ (T175.setTop (mkF m 170 #[.val (.int p0), .val (.int p1), .val (.int p2), .val (.long q3), .second, .val (.int p4), .val (.int (p0 &&& (3 : Int32))), .val (.ref a166), .val (.ref a167), .val (.ref a168), .val (.ref a169), .val (.int (1 : Int32))] []))
        refine own_by (fun _ kS => XS.aload X175.here hx rfl (hb hby at_170) rfl rfl kS) ?_
        show own_Comes p e below s _ _ _ (T175.setTop (mkF m 172 #[.val (.int p0), .val (.int p1), .val (.int p2), .val (.long q3), .second, .val (.int p4), .val (.int (p0 &&& (3 : Int32))), .val (.ref a166), .val (.ref a167), .val (.ref a168), .val (.ref a169), .val (.int (1 : Int32))] [(.ref a168)]))
        refine own_by (fun _ kS => XS.aload X175.here hx rfl (hb hby at_172) rfl rfl kS) ?_
        show own_Comes p e below s _ _ _ (T175.setTop (mkF m 174 #[.val (.int p0), .val (.int p1), .val (.int p2), .val (.long q3), .second, .val (.int p4), .val (.int (p0 &&& (3 : Int32))), .val (.ref a166), .val (.ref a167), .val (.ref a168), .val (.ref a169), .val (.int (1 : Int32))] [(.ref a169), (.ref a168)]))
        obtain ⟨cq176, kq176, q176a, q176b, q176c⟩ := isOf hZ e175 (A168.ext E169).1
        obtain ⟨_, _, ⟨T176, L176, k176, n176⟩, -, X176, ⟨Lc176, hQ176, l176, y176, z176⟩, st176⟩ := X175.virtualBack hx (y := (⟨"com/example/layered_mocks/layeredmocks/Answer", "equals", "(Ljava/lang/Object;)Z"⟩ : MethodName)) (z := (⟨"com/example/layered_mocks/layeredmocks/Answer", "equals", "(Ljava/lang/Object;)Z"⟩ : MethodName)) hown (mvT hZ (hw _ (List.mem_of_getElem? (i := 68) rfl))) (mvT hZ (hw _ (List.mem_of_getElem? (i := 69) rfl))) (notFace_of_selects (args := #[]) (mvT hZ (hw _ (List.mem_of_getElem? (i := 71) rfl)))) (mvT hZ (hw _ (List.mem_of_getElem? (i := 71) rfl))) (mvT hZ (hw _ (List.mem_of_getElem? (i := 70) rfl))) (by decide) (backOf (W := 0) (rm11i l Z a0 hw [] a168 a169 k a166 a167 em p1 p2 T169.heap n0 (Nat.le_trans (Nat.le_trans (Nat.le_trans (Nat.le_trans Z0 E166.1) E167.1) E168.1) E169.1) (A168.ext E169) A169 (Em.ext ((((O0.ext E166).ext E167).ext E168).ext E169).2) ((Eb167.ext E168).ext E169) (((Eb166.ext E167).ext E168).ext E169) (((Fb166.ext E167).ext E168).ext E169) ((Fb167.ext E168).ext E169)) hZ (hw _ (List.mem_of_getElem? (i := 72) rfl)) (hw _ (List.mem_of_getElem? (i := 9) rfl)) (by decide) (by decide)) q176a q176c (g := (mkF m 174 #[.val (.int p0), .val (.int p1), .val (.int p2), .val (.long q3), .second, .val (.int p4), .val (.int (p0 &&& (3 : Int32))), .val (.ref a166), .val (.ref a167), .val (.ref a168), .val (.ref a169), .val (.int (1 : Int32))] [(.ref a169), (.ref a168)])) rfl (by rw [hml]; rfl) (Steps.refl _) (argsL := [(.ref a169)]) (rest := []) (lenOf pd__Ljava_lang_Object__Z_838 rfl) rfl (by show 2 * 0 + _ ≤ _; exact Nat.le_of_eq rfl) (hb hby at_174) (fun _ _ => ⟨rfl, e175, (by decide : 4 + 0 ≤ _), (by decide : 18 + 0 ≤ _)⟩)
        dsimp only [Pt.U, Pt.locs, Pt.cells, Pt.slots] at X176 l176 y176 z176 st176 hQ176
        subst l176 y176 z176
        obtain ⟨z176, rfl, N176q, e176q, hz176⟩ := hQ176
        have N176 := Fr.app N175 N176q
        refine own_tr st176 ?_
        have e176 : T176.heap = T169.heap := e176q
        show own_Comes p e below s _ _ _ (T176.setTop (mkF m 177 #[.val (.int p0), .val (.int p1), .val (.int p2), .val (.long q3), .second, .val (.int p4), .val (.int (p0 &&& (3 : Int32))), .val (.ref a166), .val (.ref a167), .val (.ref a168), .val (.ref a169), .val (.int (1 : Int32))] [(.int z176)]))
        refine own_by (fun _ kS => XS.iload X176.here hx rfl (hb hby at_177) rfl kS) ?_
        show own_Comes p e below s _ _ _ (T176.setTop (mkF m 179 #[.val (.int p0), .val (.int p1), .val (.int p2), .val (.long q3), .second, .val (.int p4), .val (.int (p0 &&& (3 : Int32))), .val (.ref a166), .val (.ref a167), .val (.ref a168), .val (.ref a169), .val (.int (1 : Int32))] [(.int (1 : Int32)), (.int z176)]))
        have hb177 : z176 = (1 : Int32) := hz176.elim (fun q => q.1) (fun q => absurd hab q.2)
        refine own_by (fun _ kS => XS.icmpNo X176.here hx rfl (hb hby at_179) rfl (teq hb177).2 kS) ?_
        show own_Comes p e below s _ _ _ (T176.setTop (mkF m 182 #[.val (.int p0), .val (.int p1), .val (.int p2), .val (.long q3), .second, .val (.int p4), .val (.int (p0 &&& (3 : Int32))), .val (.ref a166), .val (.ref a167), .val (.ref a168), .val (.ref a169), .val (.int (1 : Int32))] []))
        refine own_by (fun _ kS => XS.iconst X176.here hx rfl (hb hby at_182) kS) ?_
        show own_Comes p e below s _ _ _ (T176.setTop (mkF m 183 #[.val (.int p0), .val (.int p1), .val (.int p2), .val (.long q3), .second, .val (.int p4), .val (.int (p0 &&& (3 : Int32))), .val (.ref a166), .val (.ref a167), .val (.ref a168), .val (.ref a169), .val (.int (1 : Int32))] [(.int (1 : Int32))]))
        refine own_by (fun _ kS => XS.goto X176.here hx rfl (pc0 := 183) (pc' := 187) rfl (hb hby at_183) (by decide) (by decide) kS) ?_
        show own_Comes p e below s _ _ _ (T176.setTop (mkF m 187 #[.val (.int p0), .val (.int p1), .val (.int p2), .val (.long q3), .second, .val (.int p4), .val (.int (p0 &&& (3 : Int32))), .val (.ref a166), .val (.ref a167), .val (.ref a168), .val (.ref a169), .val (.int (1 : Int32))] [(.int (1 : Int32))]))
        refine own_ret X176 (v := some (.int (1 : Int32))) (fun h => by rw [Bd.returns] at h; cases h) Bd.notSynchronized (by decide) (by decide) ?_ (fun fs hr => retN X176 hx (t := .boolean) Bd.returns (by simp) (hb hby at_187) hr)
        rw [e176]; exact ⟨rfl, N176⟩
      · refine own_by (fun _ kS => XS.icmpYes X169.here hx rfl (pc0 := 113) (pc' := 120) rfl (hb hby at_113) rfl (feq hab).2 (by decide) (by decide) kS) ?_
        show own_Comes p e below s _ _ _ (T169.setTop (mkF m 120 #[.val (.int p0), .val (.int p1), .val (.int p2), .val (.long q3), .second, .val (.int p4), .val (.int (p0 &&& (3 : Int32))), .val (.ref a166), .val (.ref a167), .val (.ref a168), .val (.ref a169), .unset] []))
        refine own_by (fun _ kS => XS.iconst X169.here hx rfl (hb hby at_120) kS) ?_
        show own_Comes p e below s _ _ _ (T169.setTop (mkF m 121 #[.val (.int p0), .val (.int p1), .val (.int p2), .val (.long q3), .second, .val (.int p4), .val (.int (p0 &&& (3 : Int32))), .val (.ref a166), .val (.ref a167), .val (.ref a168), .val (.ref a169), .unset] [(.int (0 : Int32))]))
        refine own_by (fun _ kS => XS.istore X169.here hx rfl (hb hby at_121) rfl (l' := #[.val (.int p0), .val (.int p1), .val (.int p2), .val (.long q3), .second, .val (.int p4), .val (.int (p0 &&& (3 : Int32))), .val (.ref a166), .val (.ref a167), .val (.ref a168), .val (.ref a169), .val (.int (0 : Int32))]) rfl kS) ?_
        show own_Comes p e below s _ _ _ (T169.setTop (mkF m 123 #[.val (.int p0), .val (.int p1), .val (.int p2), .val (.long q3), .second, .val (.int p4), .val (.int (p0 &&& (3 : Int32))), .val (.ref a166), .val (.ref a167), .val (.ref a168), .val (.ref a169), .val (.int (0 : Int32))] []))
        refine own_by (fun _ kS => XS.aload X169.here hx rfl (hb hby at_123) rfl rfl kS) ?_
        show own_Comes p e below s _ _ _ (T169.setTop (mkF m 125 #[.val (.int p0), .val (.int p1), .val (.int p2), .val (.long q3), .second, .val (.int p4), .val (.int (p0 &&& (3 : Int32))), .val (.ref a166), .val (.ref a167), .val (.ref a168), .val (.ref a169), .val (.int (0 : Int32))] [(.ref a168)]))
        obtain ⟨cq178, kq178, q178a, q178b, q178c⟩ := isOf hZ rfl (A168.ext E169).1
        obtain ⟨_, _, ⟨T178, L178, k178, n178⟩, -, X178, ⟨Lc178, hQ178, l178, y178, z178⟩, st178⟩ := X169.virtualBack hx (y := (⟨"com/example/layered_mocks/layeredmocks/Answer", "kind", "()Lcom/example/layered_mocks/layeredmocks/Answer$Kind;"⟩ : MethodName)) (z := (⟨"com/example/layered_mocks/layeredmocks/Answer", "kind", "()Lcom/example/layered_mocks/layeredmocks/Answer$Kind;"⟩ : MethodName)) hown (mvT hZ (hw _ (List.mem_of_getElem? (i := 47) rfl))) (mvT hZ (hw _ (List.mem_of_getElem? (i := 48) rfl))) (notFace_of_selects (args := #[]) (mvT hZ (hw _ (List.mem_of_getElem? (i := 50) rfl)))) (mvT hZ (hw _ (List.mem_of_getElem? (i := 50) rfl))) (mvT hZ (hw _ (List.mem_of_getElem? (i := 49) rfl))) (by decide) (backOf (W := 0) (rm7 l Z a0 hw [] a168 (.ref k) T169.heap n0 (Nat.le_trans (Nat.le_trans (Nat.le_trans (Nat.le_trans Z0 E166.1) E167.1) E168.1) E169.1) (A168.ext E169).2.1 rfl) hZ (hw _ (List.mem_of_getElem? (i := 51) rfl)) (hw _ (List.mem_of_getElem? (i := 9) rfl)) (by decide) (by decide)) q178a q178c (g := (mkF m 125 #[.val (.int p0), .val (.int p1), .val (.int p2), .val (.long q3), .second, .val (.int p4), .val (.int (p0 &&& (3 : Int32))), .val (.ref a166), .val (.ref a167), .val (.ref a168), .val (.ref a169), .val (.int (0 : Int32))] [(.ref a168)])) rfl (by rw [hml]; rfl) (Steps.refl _) (argsL := []) (rest := []) (lenOf pd___Lcom_example_layered_mocks_layeredmocks_Answer_Kind__197 rfl) rfl (by show 2 * 0 + _ ≤ _; exact Nat.le_of_eq rfl) (hb hby at_125) (fun _ _ => ⟨rfl, rfl, (by decide : 4 + 0 ≤ _), (by decide : 18 + 0 ≤ _)⟩)
        dsimp only [Pt.U, Pt.locs, Pt.cells, Pt.slots] at X178 l178 y178 z178 st178 hQ178
        subst l178 y178 z178
        obtain ⟨rfl, N178q, e178q⟩ := hQ178
        have N178 := Fr.app N169 N178q
        refine own_tr st178 ?_
        have e178 : T178.heap = T169.heap := e178q
        show own_Comes p e below s _ _ _ (T178.setTop (mkF m 128 #[.val (.int p0), .val (.int p1), .val (.int p2), .val (.long q3), .second, .val (.int p4), .val (.int (p0 &&& (3 : Int32))), .val (.ref a166), .val (.ref a167), .val (.ref a168), .val (.ref a169), .val (.int (0 : Int32))] [(.ref k)]))
        obtain ⟨T179, X179, e179, st179⟩ := getS2 X178 hx hZ hown (host := "") (Or.inl (hw _ (List.mem_of_getElem? (i := 52) rfl))) Via.refl e178 (Sk.ext ((((O0.ext E166).ext E167).ext E168).ext E169).2) (g := (mkF m 128 #[.val (.int p0), .val (.int p1), .val (.int p2), .val (.long q3), .second, .val (.int p4), .val (.int (p0 &&& (3 : Int32))), .val (.ref a166), .val (.ref a167), .val (.ref a168), .val (.ref a169), .val (.int (0 : Int32))] [(.ref k)])) rfl (hb hby at_128)
        refine own_by st179 ?_
        show own_Comes p e below s _ _ _ (T179.setTop (mkF m 131 #[.val (.int p0), .val (.int p1), .val (.int p2), .val (.long q3), .second, .val (.int p4), .val (.int (p0 &&& (3 : Int32))), .val (.ref a166), .val (.ref a167), .val (.ref a168), .val (.ref a169), .val (.int (0 : Int32))] [(.ref k), (.ref k)]))
        refine own_by (fun _ kS => Jvm.RoadKit.acmp (g := (mkF m 131 #[.val (.int p0), .val (.int p1), .val (.int p2), .val (.long q3), .second, .val (.int p4), .val (.int (p0 &&& (3 : Int32))), .val (.ref a166), .val (.ref a167), .val (.ref a168), .val (.ref a169), .val (.int (0 : Int32))] [(.ref k), (.ref k)])) X179 hx rfl rfl rfl (pc0 := 131) (pc' := 134) (same := true) rfl (hb hby at_131) rfl (decide_eq_true rfl) (by decide) (by decide) kS) ?_
        show own_Comes p e below s _ _ _ (T179.setTop (mkF m 134 #[.val (.int p0), .val (.int p1), .val (.int p2), .val (.long q3), .second, .val (.int p4), .val (.int (p0 &&& (3 : Int32))), .val (.ref a166), .val (.ref a167), .val (.ref a168), .val (.ref a169), .val (.int (0 : Int32))] []))
        refine own_by (fun _ kS => XS.aload X179.here hx rfl (hb hby at_134) rfl rfl kS) ?_
        show own_Comes p e below s _ _ _ (T179.setTop (mkF m 136 #[.val (.int p0), .val (.int p1), .val (.int p2), .val (.long q3), .second, .val (.int p4), .val (.int (p0 &&& (3 : Int32))), .val (.ref a166), .val (.ref a167), .val (.ref a168), .val (.ref a169), .val (.int (0 : Int32))] [(.ref a168)]))
        obtain ⟨cq180, kq180, q180a, q180b, q180c⟩ := isOf hZ e179 (A168.ext E169).1
        obtain ⟨_, _, ⟨T180, L180, k180, n180⟩, -, X180, ⟨Lc180, hQ180, l180, y180, z180⟩, st180⟩ := X179.virtualBack hx (y := (⟨"com/example/layered_mocks/layeredmocks/Answer", "result", "()Ljava/lang/Object;"⟩ : MethodName)) (z := (⟨"com/example/layered_mocks/layeredmocks/Answer", "result", "()Ljava/lang/Object;"⟩ : MethodName)) hown (mvT hZ (hw _ (List.mem_of_getElem? (i := 53) rfl))) (mvT hZ (hw _ (List.mem_of_getElem? (i := 54) rfl))) (notFace_of_selects (args := #[]) (mvT hZ (hw _ (List.mem_of_getElem? (i := 56) rfl)))) (mvT hZ (hw _ (List.mem_of_getElem? (i := 56) rfl))) (mvT hZ (hw _ (List.mem_of_getElem? (i := 55) rfl))) (by decide) (backOf (W := 0) (rm8 l Z a0 hw [] a168 (.ref a166) T169.heap n0 (Nat.le_trans (Nat.le_trans (Nat.le_trans (Nat.le_trans Z0 E166.1) E167.1) E168.1) E169.1) (A168.ext E169).2.2.1 rfl) hZ (hw _ (List.mem_of_getElem? (i := 57) rfl)) (hw _ (List.mem_of_getElem? (i := 9) rfl)) (by decide) (by decide)) q180a q180c (g := (mkF m 136 #[.val (.int p0), .val (.int p1), .val (.int p2), .val (.long q3), .second, .val (.int p4), .val (.int (p0 &&& (3 : Int32))), .val (.ref a166), .val (.ref a167), .val (.ref a168), .val (.ref a169), .val (.int (0 : Int32))] [(.ref a168)])) rfl (by rw [hml]; rfl) (Steps.refl _) (argsL := []) (rest := []) (lenOf pd___Ljava_lang_Object__748 rfl) rfl (by show 2 * 0 + _ ≤ _; exact Nat.le_of_eq rfl) (hb hby at_136) (fun _ _ => ⟨rfl, e179, (by decide : 4 + 0 ≤ _), (by decide : 18 + 0 ≤ _)⟩)
        dsimp only [Pt.U, Pt.locs, Pt.cells, Pt.slots] at X180 l180 y180 z180 st180 hQ180
        subst l180 y180 z180
        obtain ⟨rfl, N180q, e180q⟩ := hQ180
        have N180 := Fr.app N178 N180q
        refine own_tr st180 ?_
        have e180 : T180.heap = T169.heap := e180q
        show own_Comes p e below s _ _ _ (T180.setTop (mkF m 139 #[.val (.int p0), .val (.int p1), .val (.int p2), .val (.long q3), .second, .val (.int p4), .val (.int (p0 &&& (3 : Int32))), .val (.ref a166), .val (.ref a167), .val (.ref a168), .val (.ref a169), .val (.int (0 : Int32))] [(.ref a166)]))
        refine own_by (fun _ kS => XS.aload X180.here hx rfl (hb hby at_139) rfl rfl kS) ?_
        show own_Comes p e below s _ _ _ (T180.setTop (mkF m 141 #[.val (.int p0), .val (.int p1), .val (.int p2), .val (.long q3), .second, .val (.int p4), .val (.int (p0 &&& (3 : Int32))), .val (.ref a166), .val (.ref a167), .val (.ref a168), .val (.ref a169), .val (.int (0 : Int32))] [(.ref a166), (.ref a166)]))
        refine own_by (fun _ kS => Jvm.RoadKit.acmp (g := (mkF m 141 #[.val (.int p0), .val (.int p1), .val (.int p2), .val (.long q3), .second, .val (.int p4), .val (.int (p0 &&& (3 : Int32))), .val (.ref a166), .val (.ref a167), .val (.ref a168), .val (.ref a169), .val (.int (0 : Int32))] [(.ref a166), (.ref a166)])) X180 hx rfl rfl rfl (pc0 := 141) (pc' := 144) (same := true) rfl (hb hby at_141) rfl (decide_eq_true rfl) (by decide) (by decide) kS) ?_
        show own_Comes p e below s _ _ _ (T180.setTop (mkF m 144 #[.val (.int p0), .val (.int p1), .val (.int p2), .val (.long q3), .second, .val (.int p4), .val (.int (p0 &&& (3 : Int32))), .val (.ref a166), .val (.ref a167), .val (.ref a168), .val (.ref a169), .val (.int (0 : Int32))] []))
        refine own_by (fun _ kS => XS.aload X180.here hx rfl (hb hby at_144) rfl rfl kS) ?_
        show own_Comes p e below s _ _ _ (T180.setTop (mkF m 146 #[.val (.int p0), .val (.int p1), .val (.int p2), .val (.long q3), .second, .val (.int p4), .val (.int (p0 &&& (3 : Int32))), .val (.ref a166), .val (.ref a167), .val (.ref a168), .val (.ref a169), .val (.int (0 : Int32))] [(.ref a168)]))
        obtain ⟨cq181, kq181, q181a, q181b, q181c⟩ := isOf hZ e180 (A168.ext E169).1
        obtain ⟨_, _, ⟨T181, L181, k181, n181⟩, -, X181, ⟨Lc181, hQ181, l181, y181, z181⟩, st181⟩ := X180.virtualBack hx (y := (⟨"com/example/layered_mocks/layeredmocks/Answer", "failure", "()Ljava/lang/Throwable;"⟩ : MethodName)) (z := (⟨"com/example/layered_mocks/layeredmocks/Answer", "failure", "()Ljava/lang/Throwable;"⟩ : MethodName)) hown (mvT hZ (hw _ (List.mem_of_getElem? (i := 58) rfl))) (mvT hZ (hw _ (List.mem_of_getElem? (i := 59) rfl))) (notFace_of_selects (args := #[]) (mvT hZ (hw _ (List.mem_of_getElem? (i := 61) rfl)))) (mvT hZ (hw _ (List.mem_of_getElem? (i := 61) rfl))) (mvT hZ (hw _ (List.mem_of_getElem? (i := 60) rfl))) (by decide) (backOf (W := 0) (rm9 l Z a0 hw [] a168 .null T169.heap n0 (Nat.le_trans (Nat.le_trans (Nat.le_trans (Nat.le_trans Z0 E166.1) E167.1) E168.1) E169.1) (A168.ext E169).2.2.2.1 rfl) hZ (hw _ (List.mem_of_getElem? (i := 62) rfl)) (hw _ (List.mem_of_getElem? (i := 9) rfl)) (by decide) (by decide)) q181a q181c (g := (mkF m 146 #[.val (.int p0), .val (.int p1), .val (.int p2), .val (.long q3), .second, .val (.int p4), .val (.int (p0 &&& (3 : Int32))), .val (.ref a166), .val (.ref a167), .val (.ref a168), .val (.ref a169), .val (.int (0 : Int32))] [(.ref a168)])) rfl (by rw [hml]; rfl) (Steps.refl _) (argsL := []) (rest := []) (lenOf pd___Ljava_lang_Throwable__88 rfl) rfl (by show 2 * 0 + _ ≤ _; exact Nat.le_of_eq rfl) (hb hby at_146) (fun _ _ => ⟨rfl, e180, (by decide : 4 + 0 ≤ _), (by decide : 18 + 0 ≤ _)⟩)
        dsimp only [Pt.U, Pt.locs, Pt.cells, Pt.slots] at X181 l181 y181 z181 st181 hQ181
        subst l181 y181 z181
        obtain ⟨rfl, N181q, e181q⟩ := hQ181
        have N181 := Fr.app N180 N181q
        refine own_tr st181 ?_
        have e181 : T181.heap = T169.heap := e181q
        show own_Comes p e below s _ _ _ (T181.setTop (mkF m 149 #[.val (.int p0), .val (.int p1), .val (.int p2), .val (.long q3), .second, .val (.int p4), .val (.int (p0 &&& (3 : Int32))), .val (.ref a166), .val (.ref a167), .val (.ref a168), .val (.ref a169), .val (.int (0 : Int32))] [.null]))
        refine own_by (fun _ kS => XS.ifnonnullNo X181.here hx rfl (hb hby at_149) rfl kS) ?_
        show own_Comes p e below s _ _ _ (T181.setTop (mkF m 152 #[.val (.int p0), .val (.int p1), .val (.int p2), .val (.long q3), .second, .val (.int p4), .val (.int (p0 &&& (3 : Int32))), .val (.ref a166), .val (.ref a167), .val (.ref a168), .val (.ref a169), .val (.int (0 : Int32))] []))
        refine own_by (fun _ kS => XS.aload X181.here hx rfl (hb hby at_152) rfl rfl kS) ?_
        show own_Comes p e below s _ _ _ (T181.setTop (mkF m 154 #[.val (.int p0), .val (.int p1), .val (.int p2), .val (.long q3), .second, .val (.int p4), .val (.int (p0 &&& (3 : Int32))), .val (.ref a166), .val (.ref a167), .val (.ref a168), .val (.ref a169), .val (.int (0 : Int32))] [(.ref a168)]))
        obtain ⟨cq182, kq182, q182a, q182b, q182c⟩ := isOf hZ e181 (A168.ext E169).1
        obtain ⟨_, _, ⟨T182, L182, k182, n182⟩, -, X182, ⟨Lc182, hQ182, l182, y182, z182⟩, st182⟩ := X181.virtualBack hx (y := (⟨"com/example/layered_mocks/layeredmocks/Answer", "delay", "()Ljava/time/Duration;"⟩ : MethodName)) (z := (⟨"com/example/layered_mocks/layeredmocks/Answer", "delay", "()Ljava/time/Duration;"⟩ : MethodName)) hown (mvT hZ (hw _ (List.mem_of_getElem? (i := 63) rfl))) (mvT hZ (hw _ (List.mem_of_getElem? (i := 64) rfl))) (notFace_of_selects (args := #[]) (mvT hZ (hw _ (List.mem_of_getElem? (i := 66) rfl)))) (mvT hZ (hw _ (List.mem_of_getElem? (i := 66) rfl))) (mvT hZ (hw _ (List.mem_of_getElem? (i := 65) rfl))) (by decide) (backOf (W := 0) (rm10 l Z a0 hw [] a168 .null T169.heap n0 (Nat.le_trans (Nat.le_trans (Nat.le_trans (Nat.le_trans Z0 E166.1) E167.1) E168.1) E169.1) (A168.ext E169).2.2.2.2.2.2.2.2 rfl) hZ (hw _ (List.mem_of_getElem? (i := 67) rfl)) (hw _ (List.mem_of_getElem? (i := 9) rfl)) (by decide) (by decide)) q182a q182c (g := (mkF m 154 #[.val (.int p0), .val (.int p1), .val (.int p2), .val (.long q3), .second, .val (.int p4), .val (.int (p0 &&& (3 : Int32))), .val (.ref a166), .val (.ref a167), .val (.ref a168), .val (.ref a169), .val (.int (0 : Int32))] [(.ref a168)])) rfl (by rw [hml]; rfl) (Steps.refl _) (argsL := []) (rest := []) (lenOf pd___Ljava_time_Duration__3 rfl) rfl (by show 2 * 0 + _ ≤ _; exact Nat.le_of_eq rfl) (hb hby at_154) (fun _ _ => ⟨rfl, e181, (by decide : 4 + 0 ≤ _), (by decide : 18 + 0 ≤ _)⟩)
        dsimp only [Pt.U, Pt.locs, Pt.cells, Pt.slots] at X182 l182 y182 z182 st182 hQ182
        subst l182 y182 z182
        obtain ⟨rfl, N182q, e182q⟩ := hQ182
        have N182 := Fr.app N181 N182q
        refine own_tr st182 ?_
        have e182 : T182.heap = T169.heap := e182q
        show own_Comes p e below s _ _ _ (T182.setTop (mkF m 157 #[.val (.int p0), .val (.int p1), .val (.int p2), .val (.long q3), .second, .val (.int p4), .val (.int (p0 &&& (3 : Int32))), .val (.ref a166), .val (.ref a167), .val (.ref a168), .val (.ref a169), .val (.int (0 : Int32))] [.null]))
        refine own_by (fun _ kS => XS.ifnonnullNo X182.here hx rfl (hb hby at_157) rfl kS) ?_
        show own_Comes p e below s _ _ _ (T182.setTop (mkF m 160 #[.val (.int p0), .val (.int p1), .val (.int p2), .val (.long q3), .second, .val (.int p4), .val (.int (p0 &&& (3 : Int32))), .val (.ref a166), .val (.ref a167), .val (.ref a168), .val (.ref a169), .val (.int (0 : Int32))] []))
        refine own_by (fun _ kS => XS.aload X182.here hx rfl (hb hby at_160) rfl rfl kS) ?_
        show own_Comes p e below s _ _ _ (T182.setTop (mkF m 162 #[.val (.int p0), .val (.int p1), .val (.int p2), .val (.long q3), .second, .val (.int p4), .val (.int (p0 &&& (3 : Int32))), .val (.ref a166), .val (.ref a167), .val (.ref a168), .val (.ref a169), .val (.int (0 : Int32))] [(.ref a169)]))
        obtain ⟨cq183, kq183, q183a, q183b, q183c⟩ := isOf hZ e182 A169.1
        obtain ⟨_, _, ⟨T183, L183, k183, n183⟩, -, X183, ⟨Lc183, hQ183, l183, y183, z183⟩, st183⟩ := X182.virtualBack hx (y := (⟨"com/example/layered_mocks/layeredmocks/Answer", "result", "()Ljava/lang/Object;"⟩ : MethodName)) (z := (⟨"com/example/layered_mocks/layeredmocks/Answer", "result", "()Ljava/lang/Object;"⟩ : MethodName)) hown (mvT hZ (hw _ (List.mem_of_getElem? (i := 53) rfl))) (mvT hZ (hw _ (List.mem_of_getElem? (i := 54) rfl))) (notFace_of_selects (args := #[]) (mvT hZ (hw _ (List.mem_of_getElem? (i := 56) rfl)))) (mvT hZ (hw _ (List.mem_of_getElem? (i := 56) rfl))) (mvT hZ (hw _ (List.mem_of_getElem? (i := 55) rfl))) (by decide) (backOf (W := 0) (rm8 l Z a0 hw [] a169 (.ref a167) T169.heap n0 (Nat.le_trans (Nat.le_trans (Nat.le_trans (Nat.le_trans Z0 E166.1) E167.1) E168.1) E169.1) A169.2.2.1 rfl) hZ (hw _ (List.mem_of_getElem? (i := 57) rfl)) (hw _ (List.mem_of_getElem? (i := 9) rfl)) (by decide) (by decide)) q183a q183c (g := (mkF m 162 #[.val (.int p0), .val (.int p1), .val (.int p2), .val (.long q3), .second, .val (.int p4), .val (.int (p0 &&& (3 : Int32))), .val (.ref a166), .val (.ref a167), .val (.ref a168), .val (.ref a169), .val (.int (0 : Int32))] [(.ref a169)])) rfl (by rw [hml]; rfl) (Steps.refl _) (argsL := []) (rest := []) (lenOf pd___Ljava_lang_Object__748 rfl) rfl (by show 2 * 0 + _ ≤ _; exact Nat.le_of_eq rfl) (hb hby at_162) (fun _ _ => ⟨rfl, e182, (by decide : 4 + 0 ≤ _), (by decide : 18 + 0 ≤ _)⟩)
        dsimp only [Pt.U, Pt.locs, Pt.cells, Pt.slots] at X183 l183 y183 z183 st183 hQ183
        subst l183 y183 z183
        obtain ⟨rfl, N183q, e183q⟩ := hQ183
        have N183 := Fr.app N182 N183q
        refine own_tr st183 ?_
        have e183 : T183.heap = T169.heap := e183q
        show own_Comes p e below s _ _ _ (T183.setTop (mkF m 165 #[.val (.int p0), .val (.int p1), .val (.int p2), .val (.long q3), .second, .val (.int p4), .val (.int (p0 &&& (3 : Int32))), .val (.ref a166), .val (.ref a167), .val (.ref a168), .val (.ref a169), .val (.int (0 : Int32))] [(.ref a167)]))
        refine own_by (fun _ kS => XS.aload X183.here hx rfl (hb hby at_165) rfl rfl kS) ?_
        show own_Comes p e below s _ _ _ (T183.setTop (mkF m 167 #[.val (.int p0), .val (.int p1), .val (.int p2), .val (.long q3), .second, .val (.int p4), .val (.int (p0 &&& (3 : Int32))), .val (.ref a166), .val (.ref a167), .val (.ref a168), .val (.ref a169), .val (.int (0 : Int32))] [(.ref a167), (.ref a167)]))
        refine own_by (fun _ kS => Jvm.RoadKit.acmp (g := (mkF m 167 #[.val (.int p0), .val (.int p1), .val (.int p2), .val (.long q3), .second, .val (.int p4), .val (.int (p0 &&& (3 : Int32))), .val (.ref a166), .val (.ref a167), .val (.ref a168), .val (.ref a169), .val (.int (0 : Int32))] [(.ref a167), (.ref a167)])) X183 hx rfl rfl rfl (pc0 := 167) (pc' := 170) (same := true) rfl (hb hby at_167) rfl (decide_eq_true rfl) (by decide) (by decide) kS) ?_
        show own_Comes p e below s _ _ _ (T183.setTop (mkF m 170 #[.val (.int p0), .val (.int p1), .val (.int p2), .val (.long q3), .second, .val (.int p4), .val (.int (p0 &&& (3 : Int32))), .val (.ref a166), .val (.ref a167), .val (.ref a168), .val (.ref a169), .val (.int (0 : Int32))] []))
        refine own_by (fun _ kS => XS.aload X183.here hx rfl (hb hby at_170) rfl rfl kS) ?_
        show own_Comes p e below s _ _ _ (T183.setTop (mkF m 172 #[.val (.int p0), .val (.int p1), .val (.int p2), .val (.long q3), .second, .val (.int p4), .val (.int (p0 &&& (3 : Int32))), .val (.ref a166), .val (.ref a167), .val (.ref a168), .val (.ref a169), .val (.int (0 : Int32))] [(.ref a168)]))
        refine own_by (fun _ kS => XS.aload X183.here hx rfl (hb hby at_172) rfl rfl kS) ?_
        show own_Comes p e below s _ _ _ (T183.setTop (mkF m 174 #[.val (.int p0), .val (.int p1), .val (.int p2), .val (.long q3), .second, .val (.int p4), .val (.int (p0 &&& (3 : Int32))), .val (.ref a166), .val (.ref a167), .val (.ref a168), .val (.ref a169), .val (.int (0 : Int32))] [(.ref a169), (.ref a168)]))
        obtain ⟨cq184, kq184, q184a, q184b, q184c⟩ := isOf hZ e183 (A168.ext E169).1
        obtain ⟨_, _, ⟨T184, L184, k184, n184⟩, -, X184, ⟨Lc184, hQ184, l184, y184, z184⟩, st184⟩ := X183.virtualBack hx (y := (⟨"com/example/layered_mocks/layeredmocks/Answer", "equals", "(Ljava/lang/Object;)Z"⟩ : MethodName)) (z := (⟨"com/example/layered_mocks/layeredmocks/Answer", "equals", "(Ljava/lang/Object;)Z"⟩ : MethodName)) hown (mvT hZ (hw _ (List.mem_of_getElem? (i := 68) rfl))) (mvT hZ (hw _ (List.mem_of_getElem? (i := 69) rfl))) (notFace_of_selects (args := #[]) (mvT hZ (hw _ (List.mem_of_getElem? (i := 71) rfl)))) (mvT hZ (hw _ (List.mem_of_getElem? (i := 71) rfl))) (mvT hZ (hw _ (List.mem_of_getElem? (i := 70) rfl))) (by decide) (backOf (W := 0) (rm11i l Z a0 hw [] a168 a169 k a166 a167 em p1 p2 T169.heap n0 (Nat.le_trans (Nat.le_trans (Nat.le_trans (Nat.le_trans Z0 E166.1) E167.1) E168.1) E169.1) (A168.ext E169) A169 (Em.ext ((((O0.ext E166).ext E167).ext E168).ext E169).2) ((Eb167.ext E168).ext E169) (((Eb166.ext E167).ext E168).ext E169) (((Fb166.ext E167).ext E168).ext E169) ((Fb167.ext E168).ext E169)) hZ (hw _ (List.mem_of_getElem? (i := 72) rfl)) (hw _ (List.mem_of_getElem? (i := 9) rfl)) (by decide) (by decide)) q184a q184c (g := (mkF m 174 #[.val (.int p0), .val (.int p1), .val (.int p2), .val (.long q3), .second, .val (.int p4), .val (.int (p0 &&& (3 : Int32))), .val (.ref a166), .val (.ref a167), .val (.ref a168), .val (.ref a169), .val (.int (0 : Int32))] [(.ref a169), (.ref a168)])) rfl (by rw [hml]; rfl) (Steps.refl _) (argsL := [(.ref a169)]) (rest := []) (lenOf pd__Ljava_lang_Object__Z_838 rfl) rfl (by show 2 * 0 + _ ≤ _; exact Nat.le_of_eq rfl) (hb hby at_174) (fun _ _ => ⟨rfl, e183, (by decide : 4 + 0 ≤ _), (by decide : 18 + 0 ≤ _)⟩)
        dsimp only [Pt.U, Pt.locs, Pt.cells, Pt.slots] at X184 l184 y184 z184 st184 hQ184
        subst l184 y184 z184
        obtain ⟨z184, rfl, N184q, e184q, hz184⟩ := hQ184
        have N184 := Fr.app N183 N184q
        refine own_tr st184 ?_
        have e184 : T184.heap = T169.heap := e184q
        show own_Comes p e below s _ _ _ (T184.setTop (mkF m 177 #[.val (.int p0), .val (.int p1), .val (.int p2), .val (.long q3), .second, .val (.int p4), .val (.int (p0 &&& (3 : Int32))), .val (.ref a166), .val (.ref a167), .val (.ref a168), .val (.ref a169), .val (.int (0 : Int32))] [(.int z184)]))
        refine own_by (fun _ kS => XS.iload X184.here hx rfl (hb hby at_177) rfl kS) ?_
        show own_Comes p e below s _ _ _ (T184.setTop (mkF m 179 #[.val (.int p0), .val (.int p1), .val (.int p2), .val (.long q3), .second, .val (.int p4), .val (.int (p0 &&& (3 : Int32))), .val (.ref a166), .val (.ref a167), .val (.ref a168), .val (.ref a169), .val (.int (0 : Int32))] [(.int (0 : Int32)), (.int z184)]))
        have hb185 : z184 = (0 : Int32) := hz184.elim (fun q => absurd q.2 hab) (fun q => q.1)
        refine own_by (fun _ kS => XS.icmpNo X184.here hx rfl (hb hby at_179) rfl (teq hb185).2 kS) ?_
        show own_Comes p e below s _ _ _ (T184.setTop (mkF m 182 #[.val (.int p0), .val (.int p1), .val (.int p2), .val (.long q3), .second, .val (.int p4), .val (.int (p0 &&& (3 : Int32))), .val (.ref a166), .val (.ref a167), .val (.ref a168), .val (.ref a169), .val (.int (0 : Int32))] []))
        refine own_by (fun _ kS => XS.iconst X184.here hx rfl (hb hby at_182) kS) ?_
        show own_Comes p e below s _ _ _ (T184.setTop (mkF m 183 #[.val (.int p0), .val (.int p1), .val (.int p2), .val (.long q3), .second, .val (.int p4), .val (.int (p0 &&& (3 : Int32))), .val (.ref a166), .val (.ref a167), .val (.ref a168), .val (.ref a169), .val (.int (0 : Int32))] [(.int (1 : Int32))]))
        refine own_by (fun _ kS => XS.goto X184.here hx rfl (pc0 := 183) (pc' := 187) rfl (hb hby at_183) (by decide) (by decide) kS) ?_
        show own_Comes p e below s _ _ _ (T184.setTop (mkF m 187 #[.val (.int p0), .val (.int p1), .val (.int p2), .val (.long q3), .second, .val (.int p4), .val (.int (p0 &&& (3 : Int32))), .val (.ref a166), .val (.ref a167), .val (.ref a168), .val (.ref a169), .val (.int (0 : Int32))] [(.int (1 : Int32))]))
        refine own_ret X184 (v := some (.int (1 : Int32))) (fun h => by rw [Bd.returns] at h; cases h) Bd.notSynchronized (by decide) (by decide) ?_ (fun fs hr => retN X184 hx (t := .boolean) Bd.returns (by simp) (hb hby at_187) hr)
        rw [e184]; exact ⟨rfl, N184⟩
    · refine own_by (fun _ kS => XS.icmpYes X0.here hx rfl (pc0 := 19) (pc' := 31) rfl (hb hby at_19) rfl (feq hm1).2 (by decide) (by decide) kS) ?_
      show own_Comes p e below s _ _ _ (s₁.setTop (mkF m 31 #[.val (.int p0), .val (.int p1), .val (.int p2), .val (.long q3), .second, .val (.int p4), .val (.int (p0 &&& (3 : Int32))), .unset, .unset, .unset, .unset, .unset] []))
      refine own_by (fun _ kS => XS.iload X0.here hx rfl (hb hby at_31) rfl kS) ?_
      show own_Comes p e below s _ _ _ (s₁.setTop (mkF m 33 #[.val (.int p0), .val (.int p1), .val (.int p2), .val (.long q3), .second, .val (.int p4), .val (.int (p0 &&& (3 : Int32))), .unset, .unset, .unset, .unset, .unset] [(.int (p0 &&& (3 : Int32)))]))
      refine own_by (fun _ kS => XS.iconst X0.here hx rfl (hb hby at_33) kS) ?_
      show own_Comes p e below s _ _ _ (s₁.setTop (mkF m 34 #[.val (.int p0), .val (.int p1), .val (.int p2), .val (.long q3), .second, .val (.int p4), .val (.int (p0 &&& (3 : Int32))), .unset, .unset, .unset, .unset, .unset] [(.int (2 : Int32)), (.int (p0 &&& (3 : Int32)))]))
      by_cases hm2 : (p0 &&& (3 : Int32)) = (2 : Int32)
      · refine own_by (fun _ kS => XS.icmpNo X0.here hx rfl (hb hby at_34) rfl (teq hm2).2 kS) ?_
        show own_Comes p e below s _ _ _ (s₁.setTop (mkF m 37 #[.val (.int p0), .val (.int p1), .val (.int p2), .val (.long q3), .second, .val (.int p4), .val (.int (p0 &&& (3 : Int32))), .unset, .unset, .unset, .unset, .unset] []))
        refine own_by (fun _ kS => XS.lloadN X0.here hx rfl (hb hby at_37) rfl kS) ?_
        show own_Comes p e below s _ _ _ (s₁.setTop (mkF m 38 #[.val (.int p0), .val (.int p1), .val (.int p2), .val (.long q3), .second, .val (.int p4), .val (.int (p0 &&& (3 : Int32))), .unset, .unset, .unset, .unset, .unset] [(.long q3)]))
        obtain ⟨_, _, ⟨T186, L186, k186, n186⟩, -, X186, ⟨Lc186, hQ186, l186, y186, z186⟩, st186⟩ := Jvm.LawKit.callS X0 hx (y := (⟨"java/lang/Long", "valueOf", "(J)Ljava/lang/Long;"⟩ : MethodName)) hown (mvT hZ (hw _ (List.mem_of_getElem? (i := 78) rfl))) (mvT hZ (hw _ (List.mem_of_getElem? (i := 79) rfl))) (mvT hZ (hw _ (List.mem_of_getElem? (i := 80) rfl))) (mvT hZ (hw _ (List.mem_of_getElem? (i := 81) rfl))) (by decide) (backOf (W := 0) (rm13 l Z a0 hw [] q3 la cl h0 n0 Z0 O0 Sl Bl) hZ (hw _ (List.mem_of_getElem? (i := 81) rfl)) (hw _ (List.mem_of_getElem? (i := 80) rfl)) (by decide) (by decide)) (g := (mkF m 38 #[.val (.int p0), .val (.int p1), .val (.int p2), .val (.long q3), .second, .val (.int p4), .val (.int (p0 &&& (3 : Int32))), .unset, .unset, .unset, .unset, .unset] [(.long q3)])) rfl (by rw [hml]; rfl) (argsL := [(.long q3)]) (rest := []) (lenOf pd__J_Ljava_lang_Long__623 rfl) rfl (by show 2 * 0 + _ ≤ _; exact Nat.le_of_eq rfl) (hb hby at_38) (fun _ _ => ⟨rfl, e0, (by decide : 0 + 1 ≤ _), (by decide : 0 + 1 ≤ _)⟩)
        dsimp only [Pt.U, Pt.locs, Pt.cells, Pt.slots] at X186 l186 y186 z186 st186 hQ186
        subst l186 y186 z186
        obtain ⟨a186, rfl, N186q, E186, Eb186⟩ := hQ186
        have N186 := Fr.app N0 N186q
        refine own_by st186 ?_
        show own_Comes p e below s _ _ _ (T186.setTop (mkF m 41 #[.val (.int p0), .val (.int p1), .val (.int p2), .val (.long q3), .second, .val (.int p4), .val (.int (p0 &&& (3 : Int32))), .unset, .unset, .unset, .unset, .unset] [(.ref a186)]))
        refine own_by (fun _ kS => XS.astore X186.here hx rfl (hb hby at_41) rfl rfl (l' := #[.val (.int p0), .val (.int p1), .val (.int p2), .val (.long q3), .second, .val (.int p4), .val (.int (p0 &&& (3 : Int32))), .val (.ref a186), .unset, .unset, .unset, .unset]) rfl kS) ?_
        show own_Comes p e below s _ _ _ (T186.setTop (mkF m 43 #[.val (.int p0), .val (.int p1), .val (.int p2), .val (.long q3), .second, .val (.int p4), .val (.int (p0 &&& (3 : Int32))), .val (.ref a186), .unset, .unset, .unset, .unset] []))
        refine own_by (fun _ kS => XS.goto X186.here hx rfl (pc0 := 43) (pc' := 85) rfl (hb hby at_43) (by decide) (by decide) kS) ?_
        show own_Comes p e below s _ _ _ (T186.setTop (mkF m 85 #[.val (.int p0), .val (.int p1), .val (.int p2), .val (.long q3), .second, .val (.int p4), .val (.int (p0 &&& (3 : Int32))), .val (.ref a186), .unset, .unset, .unset, .unset] []))
        refine own_by (fun _ kS => XS.iloadN X186.here hx rfl (hb hby at_85) rfl kS) ?_
        show own_Comes p e below s _ _ _ (T186.setTop (mkF m 86 #[.val (.int p0), .val (.int p1), .val (.int p2), .val (.long q3), .second, .val (.int p4), .val (.int (p0 &&& (3 : Int32))), .val (.ref a186), .unset, .unset, .unset, .unset] [(.int p2)]))
        obtain ⟨_, _, ⟨T187, L187, k187, n187⟩, -, X187, ⟨Lc187, hQ187, l187, y187, z187⟩, st187⟩ := Jvm.LawKit.callS X186 hx (y := (⟨"java/lang/Integer", "valueOf", "(I)Ljava/lang/Integer;"⟩ : MethodName)) hown (mvT hZ (hw _ (List.mem_of_getElem? (i := 0) rfl))) (mvT hZ (hw _ (List.mem_of_getElem? (i := 1) rfl))) (mvT hZ (hw _ (List.mem_of_getElem? (i := 2) rfl))) (mvT hZ (hw _ (List.mem_of_getElem? (i := 3) rfl))) (by decide) (backOf (W := 0) (rm1 l Z a0 hw [] p2 ca cc T186.heap n0 (Nat.le_trans Z0 E186.1) (O0.ext E186) Sh Sc Bx) hZ (hw _ (List.mem_of_getElem? (i := 3) rfl)) (hw _ (List.mem_of_getElem? (i := 2) rfl)) (by decide) (by decide)) (g := (mkF m 86 #[.val (.int p0), .val (.int p1), .val (.int p2), .val (.long q3), .second, .val (.int p4), .val (.int (p0 &&& (3 : Int32))), .val (.ref a186), .unset, .unset, .unset, .unset] [(.int p2)])) rfl (by rw [hml]; rfl) (argsL := [(.int p2)]) (rest := []) (lenOf pd__I_Ljava_lang_Integer__940 rfl) rfl (by show 2 * 0 + _ ≤ _; exact Nat.le_of_eq rfl) (hb hby at_86) (fun _ _ => ⟨rfl, rfl, (by decide : 1 + 1 ≤ _), (by decide : 1 + 1 ≤ _)⟩)
        dsimp only [Pt.U, Pt.locs, Pt.cells, Pt.slots] at X187 l187 y187 z187 st187 hQ187
        subst l187 y187 z187
        obtain ⟨a187, rfl, N187q, E187, Eb187, Fb187⟩ := hQ187
        have N187 := Fr.app N186 N187q
        refine own_by st187 ?_
        show own_Comes p e below s _ _ _ (T187.setTop (mkF m 89 #[.val (.int p0), .val (.int p1), .val (.int p2), .val (.long q3), .second, .val (.int p4), .val (.int (p0 &&& (3 : Int32))), .val (.ref a186), .unset, .unset, .unset, .unset] [(.ref a187)]))
        refine own_by (fun _ kS => XS.astore X187.here hx rfl (hb hby at_89) rfl rfl (l' := #[.val (.int p0), .val (.int p1), .val (.int p2), .val (.long q3), .second, .val (.int p4), .val (.int (p0 &&& (3 : Int32))), .val (.ref a186), .val (.ref a187), .unset, .unset, .unset]) rfl kS) ?_
        show own_Comes p e below s _ _ _ (T187.setTop (mkF m 91 #[.val (.int p0), .val (.int p1), .val (.int p2), .val (.long q3), .second, .val (.int p4), .val (.int (p0 &&& (3 : Int32))), .val (.ref a186), .val (.ref a187), .unset, .unset, .unset] []))
        refine own_by (fun _ kS => XS.aload X187.here hx rfl (hb hby at_91) rfl rfl kS) ?_
        show own_Comes p e below s _ _ _ (T187.setTop (mkF m 93 #[.val (.int p0), .val (.int p1), .val (.int p2), .val (.long q3), .second, .val (.int p4), .val (.int (p0 &&& (3 : Int32))), .val (.ref a186), .val (.ref a187), .unset, .unset, .unset] [(.ref a186)]))
        obtain ⟨_, _, ⟨T188, L188, k188, n188⟩, -, X188, ⟨Lc188, hQ188, l188, y188, z188⟩, st188⟩ := Jvm.LawKit.callS X187 hx (y := (⟨"com/example/layered_mocks/layeredmocks/Answer", "value", "(Ljava/lang/Object;)Lcom/example/layered_mocks/layeredmocks/Answer;"⟩ : MethodName)) hown (mvT hZ (hw _ (List.mem_of_getElem? (i := 7) rfl))) (mvT hZ (hw _ (List.mem_of_getElem? (i := 8) rfl))) (mvT hZ (hw _ (List.mem_of_getElem? (i := 9) rfl))) (mvT hZ (hw _ (List.mem_of_getElem? (i := 10) rfl))) (by decide) (backOf (W := 0) (rm2r l Z a0 hw [] k a186 em T187.heap n0 (Nat.le_trans (Nat.le_trans Z0 E186.1) E187.1) ((O0.ext E186).ext E187) Se Sk) hZ (hw _ (List.mem_of_getElem? (i := 10) rfl)) (hw _ (List.mem_of_getElem? (i := 9) rfl)) (by decide) (by decide)) (g := (mkF m 93 #[.val (.int p0), .val (.int p1), .val (.int p2), .val (.long q3), .second, .val (.int p4), .val (.int (p0 &&& (3 : Int32))), .val (.ref a186), .val (.ref a187), .unset, .unset, .unset] [(.ref a186)])) rfl (by rw [hml]; rfl) (argsL := [(.ref a186)]) (rest := []) (lenOf pd__Ljava_lang_Object__Lcom_example_layered_mocks_layeredmocks_Answer__438 rfl) rfl (by show 2 * 0 + _ ≤ _; exact Nat.le_of_eq rfl) (hb hby at_93) (fun _ _ => ⟨rfl, rfl, (by decide : 2 + 1 ≤ _), (by decide : 2 + 8 ≤ _)⟩)
        dsimp only [Pt.U, Pt.locs, Pt.cells, Pt.slots] at X188 l188 y188 z188 st188 hQ188
        subst l188 y188 z188
        obtain ⟨a188, rfl, N188q, E188, A188⟩ := hQ188
        have N188 := Fr.app N187 N188q
        refine own_by st188 ?_
        show own_Comes p e below s _ _ _ (T188.setTop (mkF m 96 #[.val (.int p0), .val (.int p1), .val (.int p2), .val (.long q3), .second, .val (.int p4), .val (.int (p0 &&& (3 : Int32))), .val (.ref a186), .val (.ref a187), .unset, .unset, .unset] [(.ref a188)]))
        refine own_by (fun _ kS => XS.astore X188.here hx rfl (hb hby at_96) rfl rfl (l' := #[.val (.int p0), .val (.int p1), .val (.int p2), .val (.long q3), .second, .val (.int p4), .val (.int (p0 &&& (3 : Int32))), .val (.ref a186), .val (.ref a187), .val (.ref a188), .unset, .unset]) rfl kS) ?_
        show own_Comes p e below s _ _ _ (T188.setTop (mkF m 98 #[.val (.int p0), .val (.int p1), .val (.int p2), .val (.long q3), .second, .val (.int p4), .val (.int (p0 &&& (3 : Int32))), .val (.ref a186), .val (.ref a187), .val (.ref a188), .unset, .unset] []))
        refine own_by (fun _ kS => XS.aload X188.here hx rfl (hb hby at_98) rfl rfl kS) ?_
        show own_Comes p e below s _ _ _ (T188.setTop (mkF m 100 #[.val (.int p0), .val (.int p1), .val (.int p2), .val (.long q3), .second, .val (.int p4), .val (.int (p0 &&& (3 : Int32))), .val (.ref a186), .val (.ref a187), .val (.ref a188), .unset, .unset] [(.ref a187)]))
        obtain ⟨_, _, ⟨T189, L189, k189, n189⟩, -, X189, ⟨Lc189, hQ189, l189, y189, z189⟩, st189⟩ := Jvm.LawKit.callS X188 hx (y := (⟨"com/example/layered_mocks/layeredmocks/Answer", "value", "(Ljava/lang/Object;)Lcom/example/layered_mocks/layeredmocks/Answer;"⟩ : MethodName)) hown (mvT hZ (hw _ (List.mem_of_getElem? (i := 7) rfl))) (mvT hZ (hw _ (List.mem_of_getElem? (i := 8) rfl))) (mvT hZ (hw _ (List.mem_of_getElem? (i := 9) rfl))) (mvT hZ (hw _ (List.mem_of_getElem? (i := 10) rfl))) (by decide) (backOf (W := 0) (rm2r l Z a0 hw [] k a187 em T188.heap n0 (Nat.le_trans (Nat.le_trans (Nat.le_trans Z0 E186.1) E187.1) E188.1) (((O0.ext E186).ext E187).ext E188) Se Sk) hZ (hw _ (List.mem_of_getElem? (i := 10) rfl)) (hw _ (List.mem_of_getElem? (i := 9) rfl)) (by decide) (by decide)) (g := (mkF m 100 #[.val (.int p0), .val (.int p1), .val (.int p2), .val (.long q3), .second, .val (.int p4), .val (.int (p0 &&& (3 : Int32))), .val (.ref a186), .val (.ref a187), .val (.ref a188), .unset, .unset] [(.ref a187)])) rfl (by rw [hml]; rfl) (argsL := [(.ref a187)]) (rest := []) (lenOf pd__Ljava_lang_Object__Lcom_example_layered_mocks_layeredmocks_Answer__438 rfl) rfl (by show 2 * 0 + _ ≤ _; exact Nat.le_of_eq rfl) (hb hby at_100) (fun _ _ => ⟨rfl, rfl, (by decide : 3 + 1 ≤ _), (by decide : 10 + 8 ≤ _)⟩)
        dsimp only [Pt.U, Pt.locs, Pt.cells, Pt.slots] at X189 l189 y189 z189 st189 hQ189
        subst l189 y189 z189
        obtain ⟨a189, rfl, N189q, E189, A189⟩ := hQ189
        have N189 := Fr.app N188 N189q
        refine own_by st189 ?_
        show own_Comes p e below s _ _ _ (T189.setTop (mkF m 103 #[.val (.int p0), .val (.int p1), .val (.int p2), .val (.long q3), .second, .val (.int p4), .val (.int (p0 &&& (3 : Int32))), .val (.ref a186), .val (.ref a187), .val (.ref a188), .unset, .unset] [(.ref a189)]))
        refine own_by (fun _ kS => XS.astore X189.here hx rfl (hb hby at_103) rfl rfl (l' := #[.val (.int p0), .val (.int p1), .val (.int p2), .val (.long q3), .second, .val (.int p4), .val (.int (p0 &&& (3 : Int32))), .val (.ref a186), .val (.ref a187), .val (.ref a188), .val (.ref a189), .unset]) rfl kS) ?_
        show own_Comes p e below s _ _ _ (T189.setTop (mkF m 105 #[.val (.int p0), .val (.int p1), .val (.int p2), .val (.long q3), .second, .val (.int p4), .val (.int (p0 &&& (3 : Int32))), .val (.ref a186), .val (.ref a187), .val (.ref a188), .val (.ref a189), .unset] []))
        refine own_by (fun _ kS => XS.iload X189.here hx rfl (hb hby at_105) rfl kS) ?_
        show own_Comes p e below s _ _ _ (T189.setTop (mkF m 107 #[.val (.int p0), .val (.int p1), .val (.int p2), .val (.long q3), .second, .val (.int p4), .val (.int (p0 &&& (3 : Int32))), .val (.ref a186), .val (.ref a187), .val (.ref a188), .val (.ref a189), .unset] [(.int (p0 &&& (3 : Int32)))]))
        refine own_by (fun _ kS => XS.iconst X189.here hx rfl (hb hby at_107) kS) ?_
        show own_Comes p e below s _ _ _ (T189.setTop (mkF m 108 #[.val (.int p0), .val (.int p1), .val (.int p2), .val (.long q3), .second, .val (.int p4), .val (.int (p0 &&& (3 : Int32))), .val (.ref a186), .val (.ref a187), .val (.ref a188), .val (.ref a189), .unset] [(.int (1 : Int32)), (.int (p0 &&& (3 : Int32)))]))
        refine own_by (fun _ kS => XS.icmpYes X189.here hx rfl (pc0 := 108) (pc' := 120) rfl (hb hby at_108) rfl (feq hm1).2 (by decide) (by decide) kS) ?_
        show own_Comes p e below s _ _ _ (T189.setTop (mkF m 120 #[.val (.int p0), .val (.int p1), .val (.int p2), .val (.long q3), .second, .val (.int p4), .val (.int (p0 &&& (3 : Int32))), .val (.ref a186), .val (.ref a187), .val (.ref a188), .val (.ref a189), .unset] []))
        refine own_by (fun _ kS => XS.iconst X189.here hx rfl (hb hby at_120) kS) ?_
        show own_Comes p e below s _ _ _ (T189.setTop (mkF m 121 #[.val (.int p0), .val (.int p1), .val (.int p2), .val (.long q3), .second, .val (.int p4), .val (.int (p0 &&& (3 : Int32))), .val (.ref a186), .val (.ref a187), .val (.ref a188), .val (.ref a189), .unset] [(.int (0 : Int32))]))
        refine own_by (fun _ kS => XS.istore X189.here hx rfl (hb hby at_121) rfl (l' := #[.val (.int p0), .val (.int p1), .val (.int p2), .val (.long q3), .second, .val (.int p4), .val (.int (p0 &&& (3 : Int32))), .val (.ref a186), .val (.ref a187), .val (.ref a188), .val (.ref a189), .val (.int (0 : Int32))]) rfl kS) ?_
        show own_Comes p e below s _ _ _ (T189.setTop (mkF m 123 #[.val (.int p0), .val (.int p1), .val (.int p2), .val (.long q3), .second, .val (.int p4), .val (.int (p0 &&& (3 : Int32))), .val (.ref a186), .val (.ref a187), .val (.ref a188), .val (.ref a189), .val (.int (0 : Int32))] []))
        refine own_by (fun _ kS => XS.aload X189.here hx rfl (hb hby at_123) rfl rfl kS) ?_
        show own_Comes p e below s _ _ _ (T189.setTop (mkF m 125 #[.val (.int p0), .val (.int p1), .val (.int p2), .val (.long q3), .second, .val (.int p4), .val (.int (p0 &&& (3 : Int32))), .val (.ref a186), .val (.ref a187), .val (.ref a188), .val (.ref a189), .val (.int (0 : Int32))] [(.ref a188)]))
        obtain ⟨cq190, kq190, q190a, q190b, q190c⟩ := isOf hZ rfl (A188.ext E189).1
        obtain ⟨_, _, ⟨T190, L190, k190, n190⟩, -, X190, ⟨Lc190, hQ190, l190, y190, z190⟩, st190⟩ := X189.virtualBack hx (y := (⟨"com/example/layered_mocks/layeredmocks/Answer", "kind", "()Lcom/example/layered_mocks/layeredmocks/Answer$Kind;"⟩ : MethodName)) (z := (⟨"com/example/layered_mocks/layeredmocks/Answer", "kind", "()Lcom/example/layered_mocks/layeredmocks/Answer$Kind;"⟩ : MethodName)) hown (mvT hZ (hw _ (List.mem_of_getElem? (i := 47) rfl))) (mvT hZ (hw _ (List.mem_of_getElem? (i := 48) rfl))) (notFace_of_selects (args := #[]) (mvT hZ (hw _ (List.mem_of_getElem? (i := 50) rfl)))) (mvT hZ (hw _ (List.mem_of_getElem? (i := 50) rfl))) (mvT hZ (hw _ (List.mem_of_getElem? (i := 49) rfl))) (by decide) (backOf (W := 0) (rm7 l Z a0 hw [] a188 (.ref k) T189.heap n0 (Nat.le_trans (Nat.le_trans (Nat.le_trans (Nat.le_trans Z0 E186.1) E187.1) E188.1) E189.1) (A188.ext E189).2.1 rfl) hZ (hw _ (List.mem_of_getElem? (i := 51) rfl)) (hw _ (List.mem_of_getElem? (i := 9) rfl)) (by decide) (by decide)) q190a q190c (g := (mkF m 125 #[.val (.int p0), .val (.int p1), .val (.int p2), .val (.long q3), .second, .val (.int p4), .val (.int (p0 &&& (3 : Int32))), .val (.ref a186), .val (.ref a187), .val (.ref a188), .val (.ref a189), .val (.int (0 : Int32))] [(.ref a188)])) rfl (by rw [hml]; rfl) (Steps.refl _) (argsL := []) (rest := []) (lenOf pd___Lcom_example_layered_mocks_layeredmocks_Answer_Kind__197 rfl) rfl (by show 2 * 0 + _ ≤ _; exact Nat.le_of_eq rfl) (hb hby at_125) (fun _ _ => ⟨rfl, rfl, (by decide : 4 + 0 ≤ _), (by decide : 18 + 0 ≤ _)⟩)
        dsimp only [Pt.U, Pt.locs, Pt.cells, Pt.slots] at X190 l190 y190 z190 st190 hQ190
        subst l190 y190 z190
        obtain ⟨rfl, N190q, e190q⟩ := hQ190
        have N190 := Fr.app N189 N190q
        refine own_tr st190 ?_
        have e190 : T190.heap = T189.heap := e190q
        show own_Comes p e below s _ _ _ (T190.setTop (mkF m 128 #[.val (.int p0), .val (.int p1), .val (.int p2), .val (.long q3), .second, .val (.int p4), .val (.int (p0 &&& (3 : Int32))), .val (.ref a186), .val (.ref a187), .val (.ref a188), .val (.ref a189), .val (.int (0 : Int32))] [(.ref k)]))
        obtain ⟨T191, X191, e191, st191⟩ := getS2 X190 hx hZ hown (host := "") (Or.inl (hw _ (List.mem_of_getElem? (i := 52) rfl))) Via.refl e190 (Sk.ext ((((O0.ext E186).ext E187).ext E188).ext E189).2) (g := (mkF m 128 #[.val (.int p0), .val (.int p1), .val (.int p2), .val (.long q3), .second, .val (.int p4), .val (.int (p0 &&& (3 : Int32))), .val (.ref a186), .val (.ref a187), .val (.ref a188), .val (.ref a189), .val (.int (0 : Int32))] [(.ref k)])) rfl (hb hby at_128)
        refine own_by st191 ?_
        show own_Comes p e below s _ _ _ (T191.setTop (mkF m 131 #[.val (.int p0), .val (.int p1), .val (.int p2), .val (.long q3), .second, .val (.int p4), .val (.int (p0 &&& (3 : Int32))), .val (.ref a186), .val (.ref a187), .val (.ref a188), .val (.ref a189), .val (.int (0 : Int32))] [(.ref k), (.ref k)]))
        refine own_by (fun _ kS => Jvm.RoadKit.acmp (g := (mkF m 131 #[.val (.int p0), .val (.int p1), .val (.int p2), .val (.long q3), .second, .val (.int p4), .val (.int (p0 &&& (3 : Int32))), .val (.ref a186), .val (.ref a187), .val (.ref a188), .val (.ref a189), .val (.int (0 : Int32))] [(.ref k), (.ref k)])) X191 hx rfl rfl rfl (pc0 := 131) (pc' := 134) (same := true) rfl (hb hby at_131) rfl (decide_eq_true rfl) (by decide) (by decide) kS) ?_
        show own_Comes p e below s _ _ _ (T191.setTop (mkF m 134 #[.val (.int p0), .val (.int p1), .val (.int p2), .val (.long q3), .second, .val (.int p4), .val (.int (p0 &&& (3 : Int32))), .val (.ref a186), .val (.ref a187), .val (.ref a188), .val (.ref a189), .val (.int (0 : Int32))] []))
        refine own_by (fun _ kS => XS.aload X191.here hx rfl (hb hby at_134) rfl rfl kS) ?_
        show own_Comes p e below s _ _ _ (T191.setTop (mkF m 136 #[.val (.int p0), .val (.int p1), .val (.int p2), .val (.long q3), .second, .val (.int p4), .val (.int (p0 &&& (3 : Int32))), .val (.ref a186), .val (.ref a187), .val (.ref a188), .val (.ref a189), .val (.int (0 : Int32))] [(.ref a188)]))
        obtain ⟨cq192, kq192, q192a, q192b, q192c⟩ := isOf hZ e191 (A188.ext E189).1
        obtain ⟨_, _, ⟨T192, L192, k192, n192⟩, -, X192, ⟨Lc192, hQ192, l192, y192, z192⟩, st192⟩ := X191.virtualBack hx (y := (⟨"com/example/layered_mocks/layeredmocks/Answer", "result", "()Ljava/lang/Object;"⟩ : MethodName)) (z := (⟨"com/example/layered_mocks/layeredmocks/Answer", "result", "()Ljava/lang/Object;"⟩ : MethodName)) hown (mvT hZ (hw _ (List.mem_of_getElem? (i := 53) rfl))) (mvT hZ (hw _ (List.mem_of_getElem? (i := 54) rfl))) (notFace_of_selects (args := #[]) (mvT hZ (hw _ (List.mem_of_getElem? (i := 56) rfl)))) (mvT hZ (hw _ (List.mem_of_getElem? (i := 56) rfl))) (mvT hZ (hw _ (List.mem_of_getElem? (i := 55) rfl))) (by decide) (backOf (W := 0) (rm8 l Z a0 hw [] a188 (.ref a186) T189.heap n0 (Nat.le_trans (Nat.le_trans (Nat.le_trans (Nat.le_trans Z0 E186.1) E187.1) E188.1) E189.1) (A188.ext E189).2.2.1 rfl) hZ (hw _ (List.mem_of_getElem? (i := 57) rfl)) (hw _ (List.mem_of_getElem? (i := 9) rfl)) (by decide) (by decide)) q192a q192c (g := (mkF m 136 #[.val (.int p0), .val (.int p1), .val (.int p2), .val (.long q3), .second, .val (.int p4), .val (.int (p0 &&& (3 : Int32))), .val (.ref a186), .val (.ref a187), .val (.ref a188), .val (.ref a189), .val (.int (0 : Int32))] [(.ref a188)])) rfl (by rw [hml]; rfl) (Steps.refl _) (argsL := []) (rest := []) (lenOf pd___Ljava_lang_Object__748 rfl) rfl (by show 2 * 0 + _ ≤ _; exact Nat.le_of_eq rfl) (hb hby at_136) (fun _ _ => ⟨rfl, e191, (by decide : 4 + 0 ≤ _), (by decide : 18 + 0 ≤ _)⟩)
        dsimp only [Pt.U, Pt.locs, Pt.cells, Pt.slots] at X192 l192 y192 z192 st192 hQ192
        subst l192 y192 z192
        obtain ⟨rfl, N192q, e192q⟩ := hQ192
        have N192 := Fr.app N190 N192q
        refine own_tr st192 ?_
        have e192 : T192.heap = T189.heap := e192q
        show own_Comes p e below s _ _ _ (T192.setTop (mkF m 139 #[.val (.int p0), .val (.int p1), .val (.int p2), .val (.long q3), .second, .val (.int p4), .val (.int (p0 &&& (3 : Int32))), .val (.ref a186), .val (.ref a187), .val (.ref a188), .val (.ref a189), .val (.int (0 : Int32))] [(.ref a186)]))
        refine own_by (fun _ kS => XS.aload X192.here hx rfl (hb hby at_139) rfl rfl kS) ?_
        show own_Comes p e below s _ _ _ (T192.setTop (mkF m 141 #[.val (.int p0), .val (.int p1), .val (.int p2), .val (.long q3), .second, .val (.int p4), .val (.int (p0 &&& (3 : Int32))), .val (.ref a186), .val (.ref a187), .val (.ref a188), .val (.ref a189), .val (.int (0 : Int32))] [(.ref a186), (.ref a186)]))
        refine own_by (fun _ kS => Jvm.RoadKit.acmp (g := (mkF m 141 #[.val (.int p0), .val (.int p1), .val (.int p2), .val (.long q3), .second, .val (.int p4), .val (.int (p0 &&& (3 : Int32))), .val (.ref a186), .val (.ref a187), .val (.ref a188), .val (.ref a189), .val (.int (0 : Int32))] [(.ref a186), (.ref a186)])) X192 hx rfl rfl rfl (pc0 := 141) (pc' := 144) (same := true) rfl (hb hby at_141) rfl (decide_eq_true rfl) (by decide) (by decide) kS) ?_
        show own_Comes p e below s _ _ _ (T192.setTop (mkF m 144 #[.val (.int p0), .val (.int p1), .val (.int p2), .val (.long q3), .second, .val (.int p4), .val (.int (p0 &&& (3 : Int32))), .val (.ref a186), .val (.ref a187), .val (.ref a188), .val (.ref a189), .val (.int (0 : Int32))] []))
        refine own_by (fun _ kS => XS.aload X192.here hx rfl (hb hby at_144) rfl rfl kS) ?_
        show own_Comes p e below s _ _ _ (T192.setTop (mkF m 146 #[.val (.int p0), .val (.int p1), .val (.int p2), .val (.long q3), .second, .val (.int p4), .val (.int (p0 &&& (3 : Int32))), .val (.ref a186), .val (.ref a187), .val (.ref a188), .val (.ref a189), .val (.int (0 : Int32))] [(.ref a188)]))
        obtain ⟨cq193, kq193, q193a, q193b, q193c⟩ := isOf hZ e192 (A188.ext E189).1
        obtain ⟨_, _, ⟨T193, L193, k193, n193⟩, -, X193, ⟨Lc193, hQ193, l193, y193, z193⟩, st193⟩ := X192.virtualBack hx (y := (⟨"com/example/layered_mocks/layeredmocks/Answer", "failure", "()Ljava/lang/Throwable;"⟩ : MethodName)) (z := (⟨"com/example/layered_mocks/layeredmocks/Answer", "failure", "()Ljava/lang/Throwable;"⟩ : MethodName)) hown (mvT hZ (hw _ (List.mem_of_getElem? (i := 58) rfl))) (mvT hZ (hw _ (List.mem_of_getElem? (i := 59) rfl))) (notFace_of_selects (args := #[]) (mvT hZ (hw _ (List.mem_of_getElem? (i := 61) rfl)))) (mvT hZ (hw _ (List.mem_of_getElem? (i := 61) rfl))) (mvT hZ (hw _ (List.mem_of_getElem? (i := 60) rfl))) (by decide) (backOf (W := 0) (rm9 l Z a0 hw [] a188 .null T189.heap n0 (Nat.le_trans (Nat.le_trans (Nat.le_trans (Nat.le_trans Z0 E186.1) E187.1) E188.1) E189.1) (A188.ext E189).2.2.2.1 rfl) hZ (hw _ (List.mem_of_getElem? (i := 62) rfl)) (hw _ (List.mem_of_getElem? (i := 9) rfl)) (by decide) (by decide)) q193a q193c (g := (mkF m 146 #[.val (.int p0), .val (.int p1), .val (.int p2), .val (.long q3), .second, .val (.int p4), .val (.int (p0 &&& (3 : Int32))), .val (.ref a186), .val (.ref a187), .val (.ref a188), .val (.ref a189), .val (.int (0 : Int32))] [(.ref a188)])) rfl (by rw [hml]; rfl) (Steps.refl _) (argsL := []) (rest := []) (lenOf pd___Ljava_lang_Throwable__88 rfl) rfl (by show 2 * 0 + _ ≤ _; exact Nat.le_of_eq rfl) (hb hby at_146) (fun _ _ => ⟨rfl, e192, (by decide : 4 + 0 ≤ _), (by decide : 18 + 0 ≤ _)⟩)
        dsimp only [Pt.U, Pt.locs, Pt.cells, Pt.slots] at X193 l193 y193 z193 st193 hQ193
        subst l193 y193 z193
        obtain ⟨rfl, N193q, e193q⟩ := hQ193
        have N193 := Fr.app N192 N193q
        refine own_tr st193 ?_
        have e193 : T193.heap = T189.heap := e193q
        show own_Comes p e below s _ _ _ (T193.setTop (mkF m 149 #[.val (.int p0), .val (.int p1), .val (.int p2), .val (.long q3), .second, .val (.int p4), .val (.int (p0 &&& (3 : Int32))), .val (.ref a186), .val (.ref a187), .val (.ref a188), .val (.ref a189), .val (.int (0 : Int32))] [.null]))
        refine own_by (fun _ kS => XS.ifnonnullNo X193.here hx rfl (hb hby at_149) rfl kS) ?_
        show own_Comes p e below s _ _ _ (T193.setTop (mkF m 152 #[.val (.int p0), .val (.int p1), .val (.int p2), .val (.long q3), .second, .val (.int p4), .val (.int (p0 &&& (3 : Int32))), .val (.ref a186), .val (.ref a187), .val (.ref a188), .val (.ref a189), .val (.int (0 : Int32))] []))
        refine own_by (fun _ kS => XS.aload X193.here hx rfl (hb hby at_152) rfl rfl kS) ?_
        show own_Comes p e below s _ _ _ (T193.setTop (mkF m 154 #[.val (.int p0), .val (.int p1), .val (.int p2), .val (.long q3), .second, .val (.int p4), .val (.int (p0 &&& (3 : Int32))), .val (.ref a186), .val (.ref a187), .val (.ref a188), .val (.ref a189), .val (.int (0 : Int32))] [(.ref a188)]))
        obtain ⟨cq194, kq194, q194a, q194b, q194c⟩ := isOf hZ e193 (A188.ext E189).1
        obtain ⟨_, _, ⟨T194, L194, k194, n194⟩, -, X194, ⟨Lc194, hQ194, l194, y194, z194⟩, st194⟩ := X193.virtualBack hx (y := (⟨"com/example/layered_mocks/layeredmocks/Answer", "delay", "()Ljava/time/Duration;"⟩ : MethodName)) (z := (⟨"com/example/layered_mocks/layeredmocks/Answer", "delay", "()Ljava/time/Duration;"⟩ : MethodName)) hown (mvT hZ (hw _ (List.mem_of_getElem? (i := 63) rfl))) (mvT hZ (hw _ (List.mem_of_getElem? (i := 64) rfl))) (notFace_of_selects (args := #[]) (mvT hZ (hw _ (List.mem_of_getElem? (i := 66) rfl)))) (mvT hZ (hw _ (List.mem_of_getElem? (i := 66) rfl))) (mvT hZ (hw _ (List.mem_of_getElem? (i := 65) rfl))) (by decide) (backOf (W := 0) (rm10 l Z a0 hw [] a188 .null T189.heap n0 (Nat.le_trans (Nat.le_trans (Nat.le_trans (Nat.le_trans Z0 E186.1) E187.1) E188.1) E189.1) (A188.ext E189).2.2.2.2.2.2.2.2 rfl) hZ (hw _ (List.mem_of_getElem? (i := 67) rfl)) (hw _ (List.mem_of_getElem? (i := 9) rfl)) (by decide) (by decide)) q194a q194c (g := (mkF m 154 #[.val (.int p0), .val (.int p1), .val (.int p2), .val (.long q3), .second, .val (.int p4), .val (.int (p0 &&& (3 : Int32))), .val (.ref a186), .val (.ref a187), .val (.ref a188), .val (.ref a189), .val (.int (0 : Int32))] [(.ref a188)])) rfl (by rw [hml]; rfl) (Steps.refl _) (argsL := []) (rest := []) (lenOf pd___Ljava_time_Duration__3 rfl) rfl (by show 2 * 0 + _ ≤ _; exact Nat.le_of_eq rfl) (hb hby at_154) (fun _ _ => ⟨rfl, e193, (by decide : 4 + 0 ≤ _), (by decide : 18 + 0 ≤ _)⟩)
        dsimp only [Pt.U, Pt.locs, Pt.cells, Pt.slots] at X194 l194 y194 z194 st194 hQ194
        subst l194 y194 z194
        obtain ⟨rfl, N194q, e194q⟩ := hQ194
        have N194 := Fr.app N193 N194q
        refine own_tr st194 ?_
        have e194 : T194.heap = T189.heap := e194q
        show own_Comes p e below s _ _ _ (T194.setTop (mkF m 157 #[.val (.int p0), .val (.int p1), .val (.int p2), .val (.long q3), .second, .val (.int p4), .val (.int (p0 &&& (3 : Int32))), .val (.ref a186), .val (.ref a187), .val (.ref a188), .val (.ref a189), .val (.int (0 : Int32))] [.null]))
        refine own_by (fun _ kS => XS.ifnonnullNo X194.here hx rfl (hb hby at_157) rfl kS) ?_
        show own_Comes p e below s _ _ _ (T194.setTop (mkF m 160 #[.val (.int p0), .val (.int p1), .val (.int p2), .val (.long q3), .second, .val (.int p4), .val (.int (p0 &&& (3 : Int32))), .val (.ref a186), .val (.ref a187), .val (.ref a188), .val (.ref a189), .val (.int (0 : Int32))] []))
        refine own_by (fun _ kS => XS.aload X194.here hx rfl (hb hby at_160) rfl rfl kS) ?_
        show own_Comes p e below s _ _ _ (T194.setTop (mkF m 162 #[.val (.int p0), .val (.int p1), .val (.int p2), .val (.long q3), .second, .val (.int p4), .val (.int (p0 &&& (3 : Int32))), .val (.ref a186), .val (.ref a187), .val (.ref a188), .val (.ref a189), .val (.int (0 : Int32))] [(.ref a189)]))
        obtain ⟨cq195, kq195, q195a, q195b, q195c⟩ := isOf hZ e194 A189.1
        obtain ⟨_, _, ⟨T195, L195, k195, n195⟩, -, X195, ⟨Lc195, hQ195, l195, y195, z195⟩, st195⟩ := X194.virtualBack hx (y := (⟨"com/example/layered_mocks/layeredmocks/Answer", "result", "()Ljava/lang/Object;"⟩ : MethodName)) (z := (⟨"com/example/layered_mocks/layeredmocks/Answer", "result", "()Ljava/lang/Object;"⟩ : MethodName)) hown (mvT hZ (hw _ (List.mem_of_getElem? (i := 53) rfl))) (mvT hZ (hw _ (List.mem_of_getElem? (i := 54) rfl))) (notFace_of_selects (args := #[]) (mvT hZ (hw _ (List.mem_of_getElem? (i := 56) rfl)))) (mvT hZ (hw _ (List.mem_of_getElem? (i := 56) rfl))) (mvT hZ (hw _ (List.mem_of_getElem? (i := 55) rfl))) (by decide) (backOf (W := 0) (rm8 l Z a0 hw [] a189 (.ref a187) T189.heap n0 (Nat.le_trans (Nat.le_trans (Nat.le_trans (Nat.le_trans Z0 E186.1) E187.1) E188.1) E189.1) A189.2.2.1 rfl) hZ (hw _ (List.mem_of_getElem? (i := 57) rfl)) (hw _ (List.mem_of_getElem? (i := 9) rfl)) (by decide) (by decide)) q195a q195c (g := (mkF m 162 #[.val (.int p0), .val (.int p1), .val (.int p2), .val (.long q3), .second, .val (.int p4), .val (.int (p0 &&& (3 : Int32))), .val (.ref a186), .val (.ref a187), .val (.ref a188), .val (.ref a189), .val (.int (0 : Int32))] [(.ref a189)])) rfl (by rw [hml]; rfl) (Steps.refl _) (argsL := []) (rest := []) (lenOf pd___Ljava_lang_Object__748 rfl) rfl (by show 2 * 0 + _ ≤ _; exact Nat.le_of_eq rfl) (hb hby at_162) (fun _ _ => ⟨rfl, e194, (by decide : 4 + 0 ≤ _), (by decide : 18 + 0 ≤ _)⟩)
        dsimp only [Pt.U, Pt.locs, Pt.cells, Pt.slots] at X195 l195 y195 z195 st195 hQ195
        subst l195 y195 z195
        obtain ⟨rfl, N195q, e195q⟩ := hQ195
        have N195 := Fr.app N194 N195q
        refine own_tr st195 ?_
        have e195 : T195.heap = T189.heap := e195q
        show own_Comes p e below s _ _ _ (T195.setTop (mkF m 165 #[.val (.int p0), .val (.int p1), .val (.int p2), .val (.long q3), .second, .val (.int p4), .val (.int (p0 &&& (3 : Int32))), .val (.ref a186), .val (.ref a187), .val (.ref a188), .val (.ref a189), .val (.int (0 : Int32))] [(.ref a187)]))
        refine own_by (fun _ kS => XS.aload X195.here hx rfl (hb hby at_165) rfl rfl kS) ?_
        show own_Comes p e below s _ _ _ (T195.setTop (mkF m 167 #[.val (.int p0), .val (.int p1), .val (.int p2), .val (.long q3), .second, .val (.int p4), .val (.int (p0 &&& (3 : Int32))), .val (.ref a186), .val (.ref a187), .val (.ref a188), .val (.ref a189), .val (.int (0 : Int32))] [(.ref a187), (.ref a187)]))
        refine own_by (fun _ kS => Jvm.RoadKit.acmp (g := (mkF m 167 #[.val (.int p0), .val (.int p1), .val (.int p2), .val (.long q3), .second, .val (.int p4), .val (.int (p0 &&& (3 : Int32))), .val (.ref a186), .val (.ref a187), .val (.ref a188), .val (.ref a189), .val (.int (0 : Int32))] [(.ref a187), (.ref a187)])) X195 hx rfl rfl rfl (pc0 := 167) (pc' := 170) (same := true) rfl (hb hby at_167) rfl (decide_eq_true rfl) (by decide) (by decide) kS) ?_
        show own_Comes p e below s _ _ _ (T195.setTop (mkF m 170 #[.val (.int p0), .val (.int p1), .val (.int p2), .val (.long q3), .second, .val (.int p4), .val (.int (p0 &&& (3 : Int32))), .val (.ref a186), .val (.ref a187), .val (.ref a188), .val (.ref a189), .val (.int (0 : Int32))] []))
        refine own_by (fun _ kS => XS.aload X195.here hx rfl (hb hby at_170) rfl rfl kS) ?_
        show own_Comes p e below s _ _ _ (T195.setTop (mkF m 172 #[.val (.int p0), .val (.int p1), .val (.int p2), .val (.long q3), .second, .val (.int p4), .val (.int (p0 &&& (3 : Int32))), .val (.ref a186), .val (.ref a187), .val (.ref a188), .val (.ref a189), .val (.int (0 : Int32))] [(.ref a188)]))
        refine own_by (fun _ kS => XS.aload X195.here hx rfl (hb hby at_172) rfl rfl kS) ?_
        show own_Comes p e below s _ _ _ (T195.setTop (mkF m 174 #[.val (.int p0), .val (.int p1), .val (.int p2), .val (.long q3), .second, .val (.int p4), .val (.int (p0 &&& (3 : Int32))), .val (.ref a186), .val (.ref a187), .val (.ref a188), .val (.ref a189), .val (.int (0 : Int32))] [(.ref a189), (.ref a188)]))
        obtain ⟨cq196, kq196, q196a, q196b, q196c⟩ := isOf hZ e195 (A188.ext E189).1
        obtain ⟨_, _, ⟨T196, L196, k196, n196⟩, -, X196, ⟨Lc196, hQ196, l196, y196, z196⟩, st196⟩ := X195.virtualBack hx (y := (⟨"com/example/layered_mocks/layeredmocks/Answer", "equals", "(Ljava/lang/Object;)Z"⟩ : MethodName)) (z := (⟨"com/example/layered_mocks/layeredmocks/Answer", "equals", "(Ljava/lang/Object;)Z"⟩ : MethodName)) hown (mvT hZ (hw _ (List.mem_of_getElem? (i := 68) rfl))) (mvT hZ (hw _ (List.mem_of_getElem? (i := 69) rfl))) (notFace_of_selects (args := #[]) (mvT hZ (hw _ (List.mem_of_getElem? (i := 71) rfl)))) (mvT hZ (hw _ (List.mem_of_getElem? (i := 71) rfl))) (mvT hZ (hw _ (List.mem_of_getElem? (i := 70) rfl))) (by decide) (backOf (W := 0) (rm11l l Z a0 hw [] a188 a189 k a186 a187 em T189.heap n0 (Nat.le_trans (Nat.le_trans (Nat.le_trans (Nat.le_trans Z0 E186.1) E187.1) E188.1) E189.1) (A188.ext E189) A189 (Em.ext ((((O0.ext E186).ext E187).ext E188).ext E189).2) ((Eb187.ext E188).ext E189) (((Eb186.ext E187).ext E188).ext E189)) hZ (hw _ (List.mem_of_getElem? (i := 72) rfl)) (hw _ (List.mem_of_getElem? (i := 9) rfl)) (by decide) (by decide)) q196a q196c (g := (mkF m 174 #[.val (.int p0), .val (.int p1), .val (.int p2), .val (.long q3), .second, .val (.int p4), .val (.int (p0 &&& (3 : Int32))), .val (.ref a186), .val (.ref a187), .val (.ref a188), .val (.ref a189), .val (.int (0 : Int32))] [(.ref a189), (.ref a188)])) rfl (by rw [hml]; rfl) (Steps.refl _) (argsL := [(.ref a189)]) (rest := []) (lenOf pd__Ljava_lang_Object__Z_838 rfl) rfl (by show 2 * 0 + _ ≤ _; exact Nat.le_of_eq rfl) (hb hby at_174) (fun _ _ => ⟨rfl, e195, (by decide : 4 + 0 ≤ _), (by decide : 18 + 0 ≤ _)⟩)
        dsimp only [Pt.U, Pt.locs, Pt.cells, Pt.slots] at X196 l196 y196 z196 st196 hQ196
        subst l196 y196 z196
        obtain ⟨rfl, N196q, e196q⟩ := hQ196
        have N196 := Fr.app N195 N196q
        refine own_tr st196 ?_
        have e196 : T196.heap = T189.heap := e196q
        show own_Comes p e below s _ _ _ (T196.setTop (mkF m 177 #[.val (.int p0), .val (.int p1), .val (.int p2), .val (.long q3), .second, .val (.int p4), .val (.int (p0 &&& (3 : Int32))), .val (.ref a186), .val (.ref a187), .val (.ref a188), .val (.ref a189), .val (.int (0 : Int32))] [(.int (0 : Int32))]))
        refine own_by (fun _ kS => XS.iload X196.here hx rfl (hb hby at_177) rfl kS) ?_
        show own_Comes p e below s _ _ _ (T196.setTop (mkF m 179 #[.val (.int p0), .val (.int p1), .val (.int p2), .val (.long q3), .second, .val (.int p4), .val (.int (p0 &&& (3 : Int32))), .val (.ref a186), .val (.ref a187), .val (.ref a188), .val (.ref a189), .val (.int (0 : Int32))] [(.int (0 : Int32)), (.int (0 : Int32))]))
        have hb197 : (0 : Int32) = (0 : Int32) := by decide
        refine own_by (fun _ kS => XS.icmpNo X196.here hx rfl (hb hby at_179) rfl (teq hb197).2 kS) ?_
        show own_Comes p e below s _ _ _ (T196.setTop (mkF m 182 #[.val (.int p0), .val (.int p1), .val (.int p2), .val (.long q3), .second, .val (.int p4), .val (.int (p0 &&& (3 : Int32))), .val (.ref a186), .val (.ref a187), .val (.ref a188), .val (.ref a189), .val (.int (0 : Int32))] []))
        refine own_by (fun _ kS => XS.iconst X196.here hx rfl (hb hby at_182) kS) ?_
        show own_Comes p e below s _ _ _ (T196.setTop (mkF m 183 #[.val (.int p0), .val (.int p1), .val (.int p2), .val (.long q3), .second, .val (.int p4), .val (.int (p0 &&& (3 : Int32))), .val (.ref a186), .val (.ref a187), .val (.ref a188), .val (.ref a189), .val (.int (0 : Int32))] [(.int (1 : Int32))]))
        refine own_by (fun _ kS => XS.goto X196.here hx rfl (pc0 := 183) (pc' := 187) rfl (hb hby at_183) (by decide) (by decide) kS) ?_
        show own_Comes p e below s _ _ _ (T196.setTop (mkF m 187 #[.val (.int p0), .val (.int p1), .val (.int p2), .val (.long q3), .second, .val (.int p4), .val (.int (p0 &&& (3 : Int32))), .val (.ref a186), .val (.ref a187), .val (.ref a188), .val (.ref a189), .val (.int (0 : Int32))] [(.int (1 : Int32))]))
        refine own_ret X196 (v := some (.int (1 : Int32))) (fun h => by rw [Bd.returns] at h; cases h) Bd.notSynchronized (by decide) (by decide) ?_ (fun fs hr => retN X196 hx (t := .boolean) Bd.returns (by simp) (hb hby at_187) hr)
        rw [e196]; exact ⟨rfl, N196⟩
      · refine own_by (fun _ kS => XS.icmpYes X0.here hx rfl (pc0 := 34) (pc' := 46) rfl (hb hby at_34) rfl (feq hm2).2 (by decide) (by decide) kS) ?_
        show own_Comes p e below s _ _ _ (s₁.setTop (mkF m 46 #[.val (.int p0), .val (.int p1), .val (.int p2), .val (.long q3), .second, .val (.int p4), .val (.int (p0 &&& (3 : Int32))), .unset, .unset, .unset, .unset, .unset] []))
        refine own_by (fun _ kS => XS.iconst X0.here hx rfl (hb hby at_46) kS) ?_
        show own_Comes p e below s _ _ _ (s₁.setTop (mkF m 47 #[.val (.int p0), .val (.int p1), .val (.int p2), .val (.long q3), .second, .val (.int p4), .val (.int (p0 &&& (3 : Int32))), .unset, .unset, .unset, .unset, .unset] [(.int (2 : Int32))]))
        obtain ⟨T198, h198, k198, X198, e198, E198, A198, st198⟩ := newP X0 hx hZ (hw _ (List.mem_of_getElem? (i := 126) rfl)) e0 (g := (mkF m 47 #[.val (.int p0), .val (.int p1), .val (.int p2), .val (.long q3), .second, .val (.int p4), .val (.int (p0 &&& (3 : Int32))), .unset, .unset, .unset, .unset, .unset] [(.int (2 : Int32))])) rfl (hb hby at_47) rfl (by decide) (cap := 2) (by decide) (by decide) (by decide) (by decide)
        obtain ⟨b198, g198⟩ : ∃ z, z = h0.size := ⟨_, rfl⟩
        rw [← g198] at A198 st198
        have g_b198 : n0 ≤ b198 := Nat.le_trans Z0 (Nat.le_of_eq g198.symm)
        refine own_by st198 ?_
        have V_b198 : Arv Z h198 b198 k198 .char (2 : Int32) [(.int (0 : Int32)), (.int (0 : Int32))] (.int (0 : Int32)) := (Arv.new A198 (by decide)).pad (pad_rep [] (.int (0 : Int32)) 2)
        show own_Comes p e below s _ _ _ (T198.setTop (mkF m 49 #[.val (.int p0), .val (.int p1), .val (.int p2), .val (.long q3), .second, .val (.int p4), .val (.int (p0 &&& (3 : Int32))), .unset, .unset, .unset, .unset, .unset] [(.ref b198)]))
        refine own_by (fun _ kS => XS.dup X198.here hx rfl (hb hby at_49) rfl rfl kS) ?_
        show own_Comes p e below s _ _ _ (T198.setTop (mkF m 50 #[.val (.int p0), .val (.int p1), .val (.int p2), .val (.long q3), .second, .val (.int p4), .val (.int (p0 &&& (3 : Int32))), .unset, .unset, .unset, .unset, .unset] [(.ref b198), (.ref b198)]))
        refine own_by (fun _ kS => XS.iconst X198.here hx rfl (hb hby at_50) kS) ?_
        show own_Comes p e below s _ _ _ (T198.setTop (mkF m 51 #[.val (.int p0), .val (.int p1), .val (.int p2), .val (.long q3), .second, .val (.int p4), .val (.int (p0 &&& (3 : Int32))), .unset, .unset, .unset, .unset, .unset] [(.int (0 : Int32)), (.ref b198), (.ref b198)]))
        refine own_by (fun _ kS => XS.iload X198.here hx rfl (hb hby at_51) rfl kS) ?_
        show own_Comes p e below s _ _ _ (T198.setTop (mkF m 53 #[.val (.int p0), .val (.int p1), .val (.int p2), .val (.long q3), .second, .val (.int p4), .val (.int (p0 &&& (3 : Int32))), .unset, .unset, .unset, .unset, .unset] [(.int p4), (.int (0 : Int32)), (.ref b198), (.ref b198)]))
        refine own_by (fun _ kS => XS.sipush X198.here hx rfl (hb hby at_53) kS) ?_
        show own_Comes p e below s _ _ _ (T198.setTop (mkF m 56 #[.val (.int p0), .val (.int p1), .val (.int p2), .val (.long q3), .second, .val (.int p4), .val (.int (p0 &&& (3 : Int32))), .unset, .unset, .unset, .unset, .unset] [(.int (255 : Int32)), (.int p4), (.int (0 : Int32)), (.ref b198), (.ref b198)]))
        refine own_by (fun _ kS => XS.iand X198.here hx rfl (hb hby at_56) rfl kS) ?_
        show own_Comes p e below s _ _ _ (T198.setTop (mkF m 57 #[.val (.int p0), .val (.int p1), .val (.int p2), .val (.long q3), .second, .val (.int p4), .val (.int (p0 &&& (3 : Int32))), .unset, .unset, .unset, .unset, .unset] [(.int (p4 &&& (255 : Int32))), (.int (0 : Int32)), (.ref b198), (.ref b198)]))
        refine own_by (fun _ kS => XS.i2c X198.here hx rfl (hb hby at_57) rfl kS) ?_
        show own_Comes p e below s _ _ _ (T198.setTop (mkF m 58 #[.val (.int p0), .val (.int p1), .val (.int p2), .val (.long q3), .second, .val (.int p4), .val (.int (p0 &&& (3 : Int32))), .unset, .unset, .unset, .unset, .unset] [(.int ((p4 &&& (255 : Int32)).toUInt32.toUInt16.toUInt32.toInt32)), (.int (0 : Int32)), (.ref b198), (.ref b198)]))
        have Vo199 := V_b198
        obtain ⟨cl199, Ar199, qA199, SA199, NA199, HA199, GA199⟩ := Vo199
        have hin199 : ¬ ((0 : Int32) < 0 ∨ cl199.slots.size ≤ ((0 : Int32)).toNatClampNeg) := inb_of SA199 ⟨by decide, by decide⟩
        obtain ⟨T200, h200, X200, e200, W200, st200⟩ := stC X198 hx hZ e198 Ar199 (j := (0 : Int32)) hin199 (g := (mkF m 58 #[.val (.int p0), .val (.int p1), .val (.int p2), .val (.long q3), .second, .val (.int p4), .val (.int (p0 &&& (3 : Int32))), .unset, .unset, .unset, .unset, .unset] [(.int ((p4 &&& (255 : Int32)).toUInt32.toUInt16.toUInt32.toInt32)), (.int (0 : Int32)), (.ref b198), (.ref b198)])) rfl rfl (hb hby at_58)
        refine own_by st200 ?_
        have V200 : Arv Z h200 b198 k198 .char (2 : Int32) [(.int (nar .char ((p4 &&& (255 : Int32)).toUInt32.toUInt16.toUInt32.toInt32))), (.int (0 : Int32))] (.int (0 : Int32)) := Arv.set Ar199 qA199 SA199 NA199 HA199 GA199 (by first | rfl | exact fits_nar_char _) W200 0 rfl (Nat.le_of_ble_eq_true rfl)
        have N200 := Fr.snoc X200 N0 g_b198
        show own_Comes p e below s _ _ _ (T200.setTop (mkF m 59 #[.val (.int p0), .val (.int p1), .val (.int p2), .val (.long q3), .second, .val (.int p4), .val (.int (p0 &&& (3 : Int32))), .unset, .unset, .unset, .unset, .unset] [(.ref b198)]))
        refine own_by (fun _ kS => XS.dup X200.here hx rfl (hb hby at_59) rfl rfl kS) ?_
        show own_Comes p e below s _ _ _ (T200.setTop (mkF m 60 #[.val (.int p0), .val (.int p1), .val (.int p2), .val (.long q3), .second, .val (.int p4), .val (.int (p0 &&& (3 : Int32))), .unset, .unset, .unset, .unset, .unset] [(.ref b198), (.ref b198)]))
        refine own_by (fun _ kS => XS.iconst X200.here hx rfl (hb hby at_60) kS) ?_
        show own_Comes p e below s _ _ _ (T200.setTop (mkF m 61 #[.val (.int p0), .val (.int p1), .val (.int p2), .val (.long q3), .second, .val (.int p4), .val (.int (p0 &&& (3 : Int32))), .unset, .unset, .unset, .unset, .unset] [(.int (1 : Int32)), (.ref b198), (.ref b198)]))
        refine own_by (fun _ kS => XS.iload X200.here hx rfl (hb hby at_61) rfl kS) ?_
        show own_Comes p e below s _ _ _ (T200.setTop (mkF m 63 #[.val (.int p0), .val (.int p1), .val (.int p2), .val (.long q3), .second, .val (.int p4), .val (.int (p0 &&& (3 : Int32))), .unset, .unset, .unset, .unset, .unset] [(.int p4), (.int (1 : Int32)), (.ref b198), (.ref b198)]))
        refine own_by (fun _ kS => XS.bipush X200.here hx rfl (hb hby at_63) kS) ?_
        show own_Comes p e below s _ _ _ (T200.setTop (mkF m 65 #[.val (.int p0), .val (.int p1), .val (.int p2), .val (.long q3), .second, .val (.int p4), .val (.int (p0 &&& (3 : Int32))), .unset, .unset, .unset, .unset, .unset] [(.int (8 : Int32)), (.int p4), (.int (1 : Int32)), (.ref b198), (.ref b198)]))
        refine own_by (fun _ kS => XS.iushr X200.here hx rfl (hb hby at_65) rfl kS) ?_
        show own_Comes p e below s _ _ _ (T200.setTop (mkF m 66 #[.val (.int p0), .val (.int p1), .val (.int p2), .val (.long q3), .second, .val (.int p4), .val (.int (p0 &&& (3 : Int32))), .unset, .unset, .unset, .unset, .unset] [(.int ((p4.toUInt32 >>> ((8 : Int32) &&& 31).toUInt32).toInt32)), (.int (1 : Int32)), (.ref b198), (.ref b198)]))
        refine own_by (fun _ kS => XS.sipush X200.here hx rfl (hb hby at_66) kS) ?_
        show own_Comes p e below s _ _ _ (T200.setTop (mkF m 69 #[.val (.int p0), .val (.int p1), .val (.int p2), .val (.long q3), .second, .val (.int p4), .val (.int (p0 &&& (3 : Int32))), .unset, .unset, .unset, .unset, .unset] [(.int (255 : Int32)), (.int ((p4.toUInt32 >>> ((8 : Int32) &&& 31).toUInt32).toInt32)), (.int (1 : Int32)), (.ref b198), (.ref b198)]))
        refine own_by (fun _ kS => XS.iand X200.here hx rfl (hb hby at_69) rfl kS) ?_
        show own_Comes p e below s _ _ _ (T200.setTop (mkF m 70 #[.val (.int p0), .val (.int p1), .val (.int p2), .val (.long q3), .second, .val (.int p4), .val (.int (p0 &&& (3 : Int32))), .unset, .unset, .unset, .unset, .unset] [(.int (((p4.toUInt32 >>> ((8 : Int32) &&& 31).toUInt32).toInt32) &&& (255 : Int32))), (.int (1 : Int32)), (.ref b198), (.ref b198)]))
        refine own_by (fun _ kS => XS.i2c X200.here hx rfl (hb hby at_70) rfl kS) ?_
        show own_Comes p e below s _ _ _ (T200.setTop (mkF m 71 #[.val (.int p0), .val (.int p1), .val (.int p2), .val (.long q3), .second, .val (.int p4), .val (.int (p0 &&& (3 : Int32))), .unset, .unset, .unset, .unset, .unset] [(.int ((((p4.toUInt32 >>> ((8 : Int32) &&& 31).toUInt32).toInt32) &&& (255 : Int32)).toUInt32.toUInt16.toUInt32.toInt32)), (.int (1 : Int32)), (.ref b198), (.ref b198)]))
        have Vo201 := V200
        obtain ⟨cl201, Ar201, qA201, SA201, NA201, HA201, GA201⟩ := Vo201
        have hin201 : ¬ ((1 : Int32) < 0 ∨ cl201.slots.size ≤ ((1 : Int32)).toNatClampNeg) := inb_of SA201 ⟨by decide, by decide⟩
        obtain ⟨T202, h202, X202, e202, W202, st202⟩ := stC X200 hx hZ e200 Ar201 (j := (1 : Int32)) hin201 (g := (mkF m 71 #[.val (.int p0), .val (.int p1), .val (.int p2), .val (.long q3), .second, .val (.int p4), .val (.int (p0 &&& (3 : Int32))), .unset, .unset, .unset, .unset, .unset] [(.int ((((p4.toUInt32 >>> ((8 : Int32) &&& 31).toUInt32).toInt32) &&& (255 : Int32)).toUInt32.toUInt16.toUInt32.toInt32)), (.int (1 : Int32)), (.ref b198), (.ref b198)])) rfl rfl (hb hby at_71)
        refine own_by st202 ?_
        have V202 : Arv Z h202 b198 k198 .char (2 : Int32) [(.int (nar .char ((p4 &&& (255 : Int32)).toUInt32.toUInt16.toUInt32.toInt32))), (.int (nar .char ((((p4.toUInt32 >>> ((8 : Int32) &&& 31).toUInt32).toInt32) &&& (255 : Int32)).toUInt32.toUInt16.toUInt32.toInt32)))] (.int (0 : Int32)) := Arv.set Ar201 qA201 SA201 NA201 HA201 GA201 (by first | rfl | exact fits_nar_char _) W202 1 rfl (Nat.le_of_ble_eq_true rfl)
        have N202 := Fr.snoc X202 N200 g_b198
        show own_Comes p e below s _ _ _ (T202.setTop (mkF m 72 #[.val (.int p0), .val (.int p1), .val (.int p2), .val (.long q3), .second, .val (.int p4), .val (.int (p0 &&& (3 : Int32))), .unset, .unset, .unset, .unset, .unset] [(.ref b198)]))
        have Vc := V202
        rw [own_narchar, own_narchar] at Vc
        refine own_by (fun _ kS => XS.astore X202.here hx rfl (hb hby at_72) rfl rfl (l' := #[.val (.int p0), .val (.int p1), .val (.int p2), .val (.long q3), .second, .val (.int p4), .val (.int (p0 &&& (3 : Int32))), .unset, .val (.ref b198), .unset, .unset, .unset]) rfl kS) ?_
        show own_Comes p e below s _ _ _ (T202.setTop (mkF m 74 #[.val (.int p0), .val (.int p1), .val (.int p2), .val (.long q3), .second, .val (.int p4), .val (.int (p0 &&& (3 : Int32))), .unset, .val (.ref b198), .unset, .unset, .unset] []))
        obtain ⟨T203, h203, X203, e203, E203, A203, D203, -, st203⟩ := newO X202 hx hZ hown (hw _ (List.mem_of_getElem? (i := 127) rfl)) (hw _ (List.mem_of_getElem? (i := 128) rfl)) (hw _ (List.mem_of_getElem? (i := 129) rfl)) e202 (g := (mkF m 74 #[.val (.int p0), .val (.int p1), .val (.int p2), .val (.long q3), .second, .val (.int p4), .val (.int (p0 &&& (3 : Int32))), .unset, .val (.ref b198), .unset, .unset, .unset] [])) rfl (hb hby at_74) (by decide) (by decide)
        obtain ⟨b203, g203⟩ : ∃ z, z = h202.size := ⟨_, rfl⟩
        rw [← g203] at A203 D203 st203
        have g_b203 : n0 ≤ b203 := Nat.le_trans (Nat.le_trans (Nat.le_trans (Nat.le_trans Z0 E198.1) (Keep.of_wr W200).1) (Keep.of_wr W202).1) (Nat.le_of_eq g203.symm)
        refine own_by st203 ?_
        show own_Comes p e below s _ _ _ (T203.setTop (mkF m 77 #[.val (.int p0), .val (.int p1), .val (.int p2), .val (.long q3), .second, .val (.int p4), .val (.int (p0 &&& (3 : Int32))), .unset, .val (.ref b198), .unset, .unset, .unset] [(.ref b203)]))
        refine own_by (fun _ kS => XS.dup X203.here hx rfl (hb hby at_77) rfl rfl kS) ?_
        show own_Comes p e below s _ _ _ (T203.setTop (mkF m 78 #[.val (.int p0), .val (.int p1), .val (.int p2), .val (.long q3), .second, .val (.int p4), .val (.int (p0 &&& (3 : Int32))), .unset, .val (.ref b198), .unset, .unset, .unset] [(.ref b203), (.ref b203)]))
        refine own_by (fun _ kS => XS.aload X203.here hx rfl (hb hby at_78) rfl rfl kS) ?_
        show own_Comes p e below s _ _ _ (T203.setTop (mkF m 80 #[.val (.int p0), .val (.int p1), .val (.int p2), .val (.long q3), .second, .val (.int p4), .val (.int (p0 &&& (3 : Int32))), .unset, .val (.ref b198), .unset, .unset, .unset] [(.ref b198), (.ref b203), (.ref b203)]))
        have hws : ∀ d ∈ StrChars.Road.words, d.before a0 Z = true := fun d hd => hw d ((by decide +kernel : ∀ d ∈ StrChars.Road.words, d ∈ tables_1) d hd)
        have hp : ∀ c ∈ [((p4 &&& (255 : Int32)).toUInt32.toUInt16.toUInt32.toInt32), ((((p4.toUInt32 >>> ((8 : Int32) &&& 31).toUInt32).toInt32) &&& (255 : Int32)).toUInt32.toUInt16.toUInt32.toInt32)], ¬ c < 0 ∧ ¬ (255 : Int32) < c := fun c hc => by
          simp only [List.mem_cons, List.not_mem_nil, or_false] at hc
          rcases hc with rfl | rfl
          · exact own_and255 _
          · exact own_and255 _
        have c204 := ((((O0.ext E198).wr W200 g_b198).wr W202 g_b198).ext E203)
        obtain ⟨_, _, ⟨T205, L205, k205, n205⟩, -, X205, ⟨Lc205, hQ205, l205, y205, z205⟩, st205⟩ := X203.specialBack hx (y := (⟨"java/lang/String", "<init>", "([C)V"⟩ : MethodName)) rfl hown (mvT hZ (hw _ (List.mem_of_getElem? (i := 130) rfl))) (mvT hZ (hw _ (List.mem_of_getElem? (i := 131) rfl))) (mvT hZ (hw _ (List.mem_of_getElem? (i := 132) rfl))) (by decide) (StrChars.Road.backV (W := 1) hZ hws (kI := 4) (hw _ (List.mem_of_getElem? (i := 128) rfl)) (cs := [((p4 &&& (255 : Int32)).toUInt32.toUInt16.toUInt32.toInt32), ((((p4.toUInt32 >>> ((8 : Int32) &&& 31).toUInt32).toInt32) &&& (255 : Int32)).toUInt32.toUInt16.toUInt32.toInt32)]) (bs := [((p4 &&& (255 : Int32)).toUInt32.toUInt16.toUInt32.toInt32), ((((p4.toUInt32 >>> ((8 : Int32) &&& 31).toUInt32).toInt32) &&& (255 : Int32)).toUInt32.toUInt16.toUInt32.toInt32)].map (fun c => c.toInt8.toInt32)) (n := 2) (n0 := n0) g_b203 (Nat.le_trans (Nat.le_trans (Nat.le_trans (Nat.le_trans Z0 E198.1) (Keep.of_wr W200).1) (Keep.of_wr W202).1) E203.1) A203 (D203 (Or.inr (hw _ (List.mem_of_getElem? (i := 153) rfl))) (ty := (.array .byte)) (by decide)) (D203 (Or.inr (hw _ (List.mem_of_getElem? (i := 151) rfl))) (ty := .byte) (by decide)) (Vc.ext E203) (Sz.ext c204.2) hzc rfl rfl (by decide) (by decide) hp rfl (by decide) (by decide)) (g := (mkF m 80 #[.val (.int p0), .val (.int p1), .val (.int p2), .val (.long q3), .second, .val (.int p4), .val (.int (p0 &&& (3 : Int32))), .unset, .val (.ref b198), .unset, .unset, .unset] [(.ref b198), (.ref b203), (.ref b203)])) rfl (by rw [hml]; rfl) (Steps.refl _) (a := b203) (argsL := [(.ref b198)]) (rest := [(.ref b203)]) (lenOf pd___C_V_325 rfl) rfl (by show 2 * 0 + _ ≤ _; exact Nat.le_of_eq rfl) (hb hby at_80) (fun _ _ => ⟨rfl, e203, (by decide : 2 + 1 ≤ _), (by decide : 6 + 2 ≤ _)⟩)
        dsimp only [Pt.U, Pt.locs, Pt.cells, Pt.slots] at X205 l205 y205 z205 st205 hQ205
        subst l205 y205 z205
        obtain ⟨rfl, N205q, K205, Eb205, _, _, _, _, _, _, _, _⟩ := hQ205
        have N205 := Fr.app N202 N205q
        refine own_tr st205 ?_
        show own_Comes p e below s _ _ _ (T205.setTop (mkF m 83 #[.val (.int p0), .val (.int p1), .val (.int p2), .val (.long q3), .second, .val (.int p4), .val (.int (p0 &&& (3 : Int32))), .unset, .val (.ref b198), .unset, .unset, .unset] [(.ref b203)]))
        refine own_by (fun _ kS => XS.astore X205.here hx rfl (hb hby at_83) rfl rfl (l' := #[.val (.int p0), .val (.int p1), .val (.int p2), .val (.long q3), .second, .val (.int p4), .val (.int (p0 &&& (3 : Int32))), .val (.ref b203), .val (.ref b198), .unset, .unset, .unset]) rfl kS) ?_
        show own_Comes p e below s _ _ _ (T205.setTop (mkF m 85 #[.val (.int p0), .val (.int p1), .val (.int p2), .val (.long q3), .second, .val (.int p4), .val (.int (p0 &&& (3 : Int32))), .val (.ref b203), .val (.ref b198), .unset, .unset, .unset] []))
        refine own_by (fun _ kS => XS.iloadN X205.here hx rfl (hb hby at_85) rfl kS) ?_
        show own_Comes p e below s _ _ _ (T205.setTop (mkF m 86 #[.val (.int p0), .val (.int p1), .val (.int p2), .val (.long q3), .second, .val (.int p4), .val (.int (p0 &&& (3 : Int32))), .val (.ref b203), .val (.ref b198), .unset, .unset, .unset] [(.int p2)]))
        obtain ⟨_, _, ⟨T206, L206, k206, n206⟩, -, X206, ⟨Lc206, hQ206, l206, y206, z206⟩, st206⟩ := Jvm.LawKit.callS X205 hx (y := (⟨"java/lang/Integer", "valueOf", "(I)Ljava/lang/Integer;"⟩ : MethodName)) hown (mvT hZ (hw _ (List.mem_of_getElem? (i := 0) rfl))) (mvT hZ (hw _ (List.mem_of_getElem? (i := 1) rfl))) (mvT hZ (hw _ (List.mem_of_getElem? (i := 2) rfl))) (mvT hZ (hw _ (List.mem_of_getElem? (i := 3) rfl))) (by decide) (backOf (W := 0) (rm1 l Z a0 hw [] p2 ca cc T205.heap n0 (Nat.le_trans (Nat.le_trans (Nat.le_trans (Nat.le_trans (Nat.le_trans Z0 E198.1) (Keep.of_wr W200).1) (Keep.of_wr W202).1) E203.1) K205.1) (c204.keep K205 (allS g_b203 all0)) Sh Sc Bx) hZ (hw _ (List.mem_of_getElem? (i := 3) rfl)) (hw _ (List.mem_of_getElem? (i := 2) rfl)) (by decide) (by decide)) (g := (mkF m 86 #[.val (.int p0), .val (.int p1), .val (.int p2), .val (.long q3), .second, .val (.int p4), .val (.int (p0 &&& (3 : Int32))), .val (.ref b203), .val (.ref b198), .unset, .unset, .unset] [(.int p2)])) rfl (by rw [hml]; rfl) (argsL := [(.int p2)]) (rest := []) (lenOf pd__I_Ljava_lang_Integer__940 rfl) rfl (by show 2 * 0 + _ ≤ _; exact Nat.le_of_eq rfl) (hb hby at_86) (fun _ _ => ⟨rfl, rfl, (by decide : 3 + 1 ≤ _), (by decide : 8 + 1 ≤ _)⟩)
        dsimp only [Pt.U, Pt.locs, Pt.cells, Pt.slots] at X206 l206 y206 z206 st206 hQ206
        subst l206 y206 z206
        obtain ⟨a206, rfl, N206q, E206, Eb206, Fb206⟩ := hQ206
        have N206 := Fr.app N205 N206q
        refine own_by st206 ?_
        show own_Comes p e below s _ _ _ (T206.setTop (mkF m 89 #[.val (.int p0), .val (.int p1), .val (.int p2), .val (.long q3), .second, .val (.int p4), .val (.int (p0 &&& (3 : Int32))), .val (.ref b203), .val (.ref b198), .unset, .unset, .unset] [(.ref a206)]))
        refine own_by (fun _ kS => XS.astore X206.here hx rfl (hb hby at_89) rfl rfl (l' := #[.val (.int p0), .val (.int p1), .val (.int p2), .val (.long q3), .second, .val (.int p4), .val (.int (p0 &&& (3 : Int32))), .val (.ref b203), .val (.ref a206), .unset, .unset, .unset]) rfl kS) ?_
        show own_Comes p e below s _ _ _ (T206.setTop (mkF m 91 #[.val (.int p0), .val (.int p1), .val (.int p2), .val (.long q3), .second, .val (.int p4), .val (.int (p0 &&& (3 : Int32))), .val (.ref b203), .val (.ref a206), .unset, .unset, .unset] []))
        refine own_by (fun _ kS => XS.aload X206.here hx rfl (hb hby at_91) rfl rfl kS) ?_
        show own_Comes p e below s _ _ _ (T206.setTop (mkF m 93 #[.val (.int p0), .val (.int p1), .val (.int p2), .val (.long q3), .second, .val (.int p4), .val (.int (p0 &&& (3 : Int32))), .val (.ref b203), .val (.ref a206), .unset, .unset, .unset] [(.ref b203)]))
        obtain ⟨_, _, ⟨T207, L207, k207, n207⟩, -, X207, ⟨Lc207, hQ207, l207, y207, z207⟩, st207⟩ := Jvm.LawKit.callS X206 hx (y := (⟨"com/example/layered_mocks/layeredmocks/Answer", "value", "(Ljava/lang/Object;)Lcom/example/layered_mocks/layeredmocks/Answer;"⟩ : MethodName)) hown (mvT hZ (hw _ (List.mem_of_getElem? (i := 7) rfl))) (mvT hZ (hw _ (List.mem_of_getElem? (i := 8) rfl))) (mvT hZ (hw _ (List.mem_of_getElem? (i := 9) rfl))) (mvT hZ (hw _ (List.mem_of_getElem? (i := 10) rfl))) (by decide) (backOf (W := 0) (rm2r l Z a0 hw [] k b203 em T206.heap n0 (Nat.le_trans (Nat.le_trans (Nat.le_trans (Nat.le_trans (Nat.le_trans (Nat.le_trans Z0 E198.1) (Keep.of_wr W200).1) (Keep.of_wr W202).1) E203.1) K205.1) E206.1) ((c204.keep K205 (allS g_b203 all0)).ext E206) Se Sk) hZ (hw _ (List.mem_of_getElem? (i := 10) rfl)) (hw _ (List.mem_of_getElem? (i := 9) rfl)) (by decide) (by decide)) (g := (mkF m 93 #[.val (.int p0), .val (.int p1), .val (.int p2), .val (.long q3), .second, .val (.int p4), .val (.int (p0 &&& (3 : Int32))), .val (.ref b203), .val (.ref a206), .unset, .unset, .unset] [(.ref b203)])) rfl (by rw [hml]; rfl) (argsL := [(.ref b203)]) (rest := []) (lenOf pd__Ljava_lang_Object__Lcom_example_layered_mocks_layeredmocks_Answer__438 rfl) rfl (by show 2 * 0 + _ ≤ _; exact Nat.le_of_eq rfl) (hb hby at_93) (fun _ _ => ⟨rfl, rfl, (by decide : 4 + 1 ≤ _), (by decide : 9 + 8 ≤ _)⟩)
        dsimp only [Pt.U, Pt.locs, Pt.cells, Pt.slots] at X207 l207 y207 z207 st207 hQ207
        subst l207 y207 z207
        obtain ⟨a207, rfl, N207q, E207, A207⟩ := hQ207
        have N207 := Fr.app N206 N207q
        refine own_by st207 ?_
        show own_Comes p e below s _ _ _ (T207.setTop (mkF m 96 #[.val (.int p0), .val (.int p1), .val (.int p2), .val (.long q3), .second, .val (.int p4), .val (.int (p0 &&& (3 : Int32))), .val (.ref b203), .val (.ref a206), .unset, .unset, .unset] [(.ref a207)]))
        refine own_by (fun _ kS => XS.astore X207.here hx rfl (hb hby at_96) rfl rfl (l' := #[.val (.int p0), .val (.int p1), .val (.int p2), .val (.long q3), .second, .val (.int p4), .val (.int (p0 &&& (3 : Int32))), .val (.ref b203), .val (.ref a206), .val (.ref a207), .unset, .unset]) rfl kS) ?_
        show own_Comes p e below s _ _ _ (T207.setTop (mkF m 98 #[.val (.int p0), .val (.int p1), .val (.int p2), .val (.long q3), .second, .val (.int p4), .val (.int (p0 &&& (3 : Int32))), .val (.ref b203), .val (.ref a206), .val (.ref a207), .unset, .unset] []))
        refine own_by (fun _ kS => XS.aload X207.here hx rfl (hb hby at_98) rfl rfl kS) ?_
        show own_Comes p e below s _ _ _ (T207.setTop (mkF m 100 #[.val (.int p0), .val (.int p1), .val (.int p2), .val (.long q3), .second, .val (.int p4), .val (.int (p0 &&& (3 : Int32))), .val (.ref b203), .val (.ref a206), .val (.ref a207), .unset, .unset] [(.ref a206)]))
        have c208 := (((c204.keep K205 (allS g_b203 all0)).ext E206).ext E207)
        obtain ⟨_, _, ⟨T209, L209, k209, n209⟩, -, X209, ⟨Lc209, hQ209, l209, y209, z209⟩, st209⟩ := Jvm.LawKit.callS X207 hx (y := (⟨"com/example/layered_mocks/layeredmocks/Answer", "value", "(Ljava/lang/Object;)Lcom/example/layered_mocks/layeredmocks/Answer;"⟩ : MethodName)) hown (mvT hZ (hw _ (List.mem_of_getElem? (i := 7) rfl))) (mvT hZ (hw _ (List.mem_of_getElem? (i := 8) rfl))) (mvT hZ (hw _ (List.mem_of_getElem? (i := 9) rfl))) (mvT hZ (hw _ (List.mem_of_getElem? (i := 10) rfl))) (by decide) (backOf (W := 0) (rm2r l Z a0 hw [] k a206 em T207.heap n0 (Nat.le_trans (Nat.le_trans (Nat.le_trans (Nat.le_trans (Nat.le_trans (Nat.le_trans (Nat.le_trans Z0 E198.1) (Keep.of_wr W200).1) (Keep.of_wr W202).1) E203.1) K205.1) E206.1) E207.1) c208 Se Sk) hZ (hw _ (List.mem_of_getElem? (i := 10) rfl)) (hw _ (List.mem_of_getElem? (i := 9) rfl)) (by decide) (by decide)) (g := (mkF m 100 #[.val (.int p0), .val (.int p1), .val (.int p2), .val (.long q3), .second, .val (.int p4), .val (.int (p0 &&& (3 : Int32))), .val (.ref b203), .val (.ref a206), .val (.ref a207), .unset, .unset] [(.ref a206)])) rfl (by rw [hml]; rfl) (argsL := [(.ref a206)]) (rest := []) (lenOf pd__Ljava_lang_Object__Lcom_example_layered_mocks_layeredmocks_Answer__438 rfl) rfl (by show 2 * 0 + _ ≤ _; exact Nat.le_of_eq rfl) (hb hby at_100) (fun _ _ => ⟨rfl, rfl, (by decide : 5 + 1 ≤ _), (by decide : 17 + 8 ≤ _)⟩)
        dsimp only [Pt.U, Pt.locs, Pt.cells, Pt.slots] at X209 l209 y209 z209 st209 hQ209
        subst l209 y209 z209
        obtain ⟨a209, rfl, N209q, E209, A209⟩ := hQ209
        have N209 := Fr.app N207 N209q
        refine own_by st209 ?_
        show own_Comes p e below s _ _ _ (T209.setTop (mkF m 103 #[.val (.int p0), .val (.int p1), .val (.int p2), .val (.long q3), .second, .val (.int p4), .val (.int (p0 &&& (3 : Int32))), .val (.ref b203), .val (.ref a206), .val (.ref a207), .unset, .unset] [(.ref a209)]))
        refine own_by (fun _ kS => XS.astore X209.here hx rfl (hb hby at_103) rfl rfl (l' := #[.val (.int p0), .val (.int p1), .val (.int p2), .val (.long q3), .second, .val (.int p4), .val (.int (p0 &&& (3 : Int32))), .val (.ref b203), .val (.ref a206), .val (.ref a207), .val (.ref a209), .unset]) rfl kS) ?_
        show own_Comes p e below s _ _ _ (T209.setTop (mkF m 105 #[.val (.int p0), .val (.int p1), .val (.int p2), .val (.long q3), .second, .val (.int p4), .val (.int (p0 &&& (3 : Int32))), .val (.ref b203), .val (.ref a206), .val (.ref a207), .val (.ref a209), .unset] []))
        refine own_by (fun _ kS => XS.iload X209.here hx rfl (hb hby at_105) rfl kS) ?_
        show own_Comes p e below s _ _ _ (T209.setTop (mkF m 107 #[.val (.int p0), .val (.int p1), .val (.int p2), .val (.long q3), .second, .val (.int p4), .val (.int (p0 &&& (3 : Int32))), .val (.ref b203), .val (.ref a206), .val (.ref a207), .val (.ref a209), .unset] [(.int (p0 &&& (3 : Int32)))]))
        refine own_by (fun _ kS => XS.iconst X209.here hx rfl (hb hby at_107) kS) ?_
        show own_Comes p e below s _ _ _ (T209.setTop (mkF m 108 #[.val (.int p0), .val (.int p1), .val (.int p2), .val (.long q3), .second, .val (.int p4), .val (.int (p0 &&& (3 : Int32))), .val (.ref b203), .val (.ref a206), .val (.ref a207), .val (.ref a209), .unset] [(.int (1 : Int32)), (.int (p0 &&& (3 : Int32)))]))
        refine own_by (fun _ kS => XS.icmpYes X209.here hx rfl (pc0 := 108) (pc' := 120) rfl (hb hby at_108) rfl (feq hm1).2 (by decide) (by decide) kS) ?_
        show own_Comes p e below s _ _ _ (T209.setTop (mkF m 120 #[.val (.int p0), .val (.int p1), .val (.int p2), .val (.long q3), .second, .val (.int p4), .val (.int (p0 &&& (3 : Int32))), .val (.ref b203), .val (.ref a206), .val (.ref a207), .val (.ref a209), .unset] []))
        refine own_by (fun _ kS => XS.iconst X209.here hx rfl (hb hby at_120) kS) ?_
        show own_Comes p e below s _ _ _ (T209.setTop (mkF m 121 #[.val (.int p0), .val (.int p1), .val (.int p2), .val (.long q3), .second, .val (.int p4), .val (.int (p0 &&& (3 : Int32))), .val (.ref b203), .val (.ref a206), .val (.ref a207), .val (.ref a209), .unset] [(.int (0 : Int32))]))
        refine own_by (fun _ kS => XS.istore X209.here hx rfl (hb hby at_121) rfl (l' := #[.val (.int p0), .val (.int p1), .val (.int p2), .val (.long q3), .second, .val (.int p4), .val (.int (p0 &&& (3 : Int32))), .val (.ref b203), .val (.ref a206), .val (.ref a207), .val (.ref a209), .val (.int (0 : Int32))]) rfl kS) ?_
        show own_Comes p e below s _ _ _ (T209.setTop (mkF m 123 #[.val (.int p0), .val (.int p1), .val (.int p2), .val (.long q3), .second, .val (.int p4), .val (.int (p0 &&& (3 : Int32))), .val (.ref b203), .val (.ref a206), .val (.ref a207), .val (.ref a209), .val (.int (0 : Int32))] []))
        refine own_by (fun _ kS => XS.aload X209.here hx rfl (hb hby at_123) rfl rfl kS) ?_
        show own_Comes p e below s _ _ _ (T209.setTop (mkF m 125 #[.val (.int p0), .val (.int p1), .val (.int p2), .val (.long q3), .second, .val (.int p4), .val (.int (p0 &&& (3 : Int32))), .val (.ref b203), .val (.ref a206), .val (.ref a207), .val (.ref a209), .val (.int (0 : Int32))] [(.ref a207)]))
        obtain ⟨cq210, kq210, q210a, q210b, q210c⟩ := isOf hZ rfl (A207.ext E209).1
        obtain ⟨_, _, ⟨T210, L210, k210, n210⟩, -, X210, ⟨Lc210, hQ210, l210, y210, z210⟩, st210⟩ := X209.virtualBack hx (y := (⟨"com/example/layered_mocks/layeredmocks/Answer", "kind", "()Lcom/example/layered_mocks/layeredmocks/Answer$Kind;"⟩ : MethodName)) (z := (⟨"com/example/layered_mocks/layeredmocks/Answer", "kind", "()Lcom/example/layered_mocks/layeredmocks/Answer$Kind;"⟩ : MethodName)) hown (mvT hZ (hw _ (List.mem_of_getElem? (i := 47) rfl))) (mvT hZ (hw _ (List.mem_of_getElem? (i := 48) rfl))) (notFace_of_selects (args := #[]) (mvT hZ (hw _ (List.mem_of_getElem? (i := 50) rfl)))) (mvT hZ (hw _ (List.mem_of_getElem? (i := 50) rfl))) (mvT hZ (hw _ (List.mem_of_getElem? (i := 49) rfl))) (by decide) (backOf (W := 0) (rm7 l Z a0 hw [] a207 (.ref k) T209.heap n0 (Nat.le_trans (Nat.le_trans (Nat.le_trans (Nat.le_trans (Nat.le_trans (Nat.le_trans (Nat.le_trans (Nat.le_trans Z0 E198.1) (Keep.of_wr W200).1) (Keep.of_wr W202).1) E203.1) K205.1) E206.1) E207.1) E209.1) (A207.ext E209).2.1 rfl) hZ (hw _ (List.mem_of_getElem? (i := 51) rfl)) (hw _ (List.mem_of_getElem? (i := 9) rfl)) (by decide) (by decide)) q210a q210c (g := (mkF m 125 #[.val (.int p0), .val (.int p1), .val (.int p2), .val (.long q3), .second, .val (.int p4), .val (.int (p0 &&& (3 : Int32))), .val (.ref b203), .val (.ref a206), .val (.ref a207), .val (.ref a209), .val (.int (0 : Int32))] [(.ref a207)])) rfl (by rw [hml]; rfl) (Steps.refl _) (argsL := []) (rest := []) (lenOf pd___Lcom_example_layered_mocks_layeredmocks_Answer_Kind__197 rfl) rfl (by show 2 * 0 + _ ≤ _; exact Nat.le_of_eq rfl) (hb hby at_125) (fun _ _ => ⟨rfl, rfl, (by decide : 6 + 0 ≤ _), (by decide : 25 + 0 ≤ _)⟩)
        dsimp only [Pt.U, Pt.locs, Pt.cells, Pt.slots] at X210 l210 y210 z210 st210 hQ210
        subst l210 y210 z210
        obtain ⟨rfl, N210q, e210q⟩ := hQ210
        have N210 := Fr.app N209 N210q
        refine own_tr st210 ?_
        have e210 : T210.heap = T209.heap := e210q
        show own_Comes p e below s _ _ _ (T210.setTop (mkF m 128 #[.val (.int p0), .val (.int p1), .val (.int p2), .val (.long q3), .second, .val (.int p4), .val (.int (p0 &&& (3 : Int32))), .val (.ref b203), .val (.ref a206), .val (.ref a207), .val (.ref a209), .val (.int (0 : Int32))] [(.ref k)]))
        obtain ⟨T211, X211, e211, st211⟩ := getS2 X210 hx hZ hown (host := "") (Or.inl (hw _ (List.mem_of_getElem? (i := 52) rfl))) Via.refl e210 (Sk.ext (c208.ext E209).2) (g := (mkF m 128 #[.val (.int p0), .val (.int p1), .val (.int p2), .val (.long q3), .second, .val (.int p4), .val (.int (p0 &&& (3 : Int32))), .val (.ref b203), .val (.ref a206), .val (.ref a207), .val (.ref a209), .val (.int (0 : Int32))] [(.ref k)])) rfl (hb hby at_128)
        refine own_by st211 ?_
        show own_Comes p e below s _ _ _ (T211.setTop (mkF m 131 #[.val (.int p0), .val (.int p1), .val (.int p2), .val (.long q3), .second, .val (.int p4), .val (.int (p0 &&& (3 : Int32))), .val (.ref b203), .val (.ref a206), .val (.ref a207), .val (.ref a209), .val (.int (0 : Int32))] [(.ref k), (.ref k)]))
        refine own_by (fun _ kS => Jvm.RoadKit.acmp (g := (mkF m 131 #[.val (.int p0), .val (.int p1), .val (.int p2), .val (.long q3), .second, .val (.int p4), .val (.int (p0 &&& (3 : Int32))), .val (.ref b203), .val (.ref a206), .val (.ref a207), .val (.ref a209), .val (.int (0 : Int32))] [(.ref k), (.ref k)])) X211 hx rfl rfl rfl (pc0 := 131) (pc' := 134) (same := true) rfl (hb hby at_131) rfl (decide_eq_true rfl) (by decide) (by decide) kS) ?_
        show own_Comes p e below s _ _ _ (T211.setTop (mkF m 134 #[.val (.int p0), .val (.int p1), .val (.int p2), .val (.long q3), .second, .val (.int p4), .val (.int (p0 &&& (3 : Int32))), .val (.ref b203), .val (.ref a206), .val (.ref a207), .val (.ref a209), .val (.int (0 : Int32))] []))
        refine own_by (fun _ kS => XS.aload X211.here hx rfl (hb hby at_134) rfl rfl kS) ?_
        show own_Comes p e below s _ _ _ (T211.setTop (mkF m 136 #[.val (.int p0), .val (.int p1), .val (.int p2), .val (.long q3), .second, .val (.int p4), .val (.int (p0 &&& (3 : Int32))), .val (.ref b203), .val (.ref a206), .val (.ref a207), .val (.ref a209), .val (.int (0 : Int32))] [(.ref a207)]))
        obtain ⟨cq212, kq212, q212a, q212b, q212c⟩ := isOf hZ e211 (A207.ext E209).1
        obtain ⟨_, _, ⟨T212, L212, k212, n212⟩, -, X212, ⟨Lc212, hQ212, l212, y212, z212⟩, st212⟩ := X211.virtualBack hx (y := (⟨"com/example/layered_mocks/layeredmocks/Answer", "result", "()Ljava/lang/Object;"⟩ : MethodName)) (z := (⟨"com/example/layered_mocks/layeredmocks/Answer", "result", "()Ljava/lang/Object;"⟩ : MethodName)) hown (mvT hZ (hw _ (List.mem_of_getElem? (i := 53) rfl))) (mvT hZ (hw _ (List.mem_of_getElem? (i := 54) rfl))) (notFace_of_selects (args := #[]) (mvT hZ (hw _ (List.mem_of_getElem? (i := 56) rfl)))) (mvT hZ (hw _ (List.mem_of_getElem? (i := 56) rfl))) (mvT hZ (hw _ (List.mem_of_getElem? (i := 55) rfl))) (by decide) (backOf (W := 0) (rm8 l Z a0 hw [] a207 (.ref b203) T209.heap n0 (Nat.le_trans (Nat.le_trans (Nat.le_trans (Nat.le_trans (Nat.le_trans (Nat.le_trans (Nat.le_trans (Nat.le_trans Z0 E198.1) (Keep.of_wr W200).1) (Keep.of_wr W202).1) E203.1) K205.1) E206.1) E207.1) E209.1) (A207.ext E209).2.2.1 rfl) hZ (hw _ (List.mem_of_getElem? (i := 57) rfl)) (hw _ (List.mem_of_getElem? (i := 9) rfl)) (by decide) (by decide)) q212a q212c (g := (mkF m 136 #[.val (.int p0), .val (.int p1), .val (.int p2), .val (.long q3), .second, .val (.int p4), .val (.int (p0 &&& (3 : Int32))), .val (.ref b203), .val (.ref a206), .val (.ref a207), .val (.ref a209), .val (.int (0 : Int32))] [(.ref a207)])) rfl (by rw [hml]; rfl) (Steps.refl _) (argsL := []) (rest := []) (lenOf pd___Ljava_lang_Object__748 rfl) rfl (by show 2 * 0 + _ ≤ _; exact Nat.le_of_eq rfl) (hb hby at_136) (fun _ _ => ⟨rfl, e211, (by decide : 6 + 0 ≤ _), (by decide : 25 + 0 ≤ _)⟩)
        dsimp only [Pt.U, Pt.locs, Pt.cells, Pt.slots] at X212 l212 y212 z212 st212 hQ212
        subst l212 y212 z212
        obtain ⟨rfl, N212q, e212q⟩ := hQ212
        have N212 := Fr.app N210 N212q
        refine own_tr st212 ?_
        have e212 : T212.heap = T209.heap := e212q
        show own_Comes p e below s _ _ _ (T212.setTop (mkF m 139 #[.val (.int p0), .val (.int p1), .val (.int p2), .val (.long q3), .second, .val (.int p4), .val (.int (p0 &&& (3 : Int32))), .val (.ref b203), .val (.ref a206), .val (.ref a207), .val (.ref a209), .val (.int (0 : Int32))] [(.ref b203)]))
        refine own_by (fun _ kS => XS.aload X212.here hx rfl (hb hby at_139) rfl rfl kS) ?_
        show own_Comes p e below s _ _ _ (T212.setTop (mkF m 141 #[.val (.int p0), .val (.int p1), .val (.int p2), .val (.long q3), .second, .val (.int p4), .val (.int (p0 &&& (3 : Int32))), .val (.ref b203), .val (.ref a206), .val (.ref a207), .val (.ref a209), .val (.int (0 : Int32))] [(.ref b203), (.ref b203)]))
        refine own_by (fun _ kS => Jvm.RoadKit.acmp (g := (mkF m 141 #[.val (.int p0), .val (.int p1), .val (.int p2), .val (.long q3), .second, .val (.int p4), .val (.int (p0 &&& (3 : Int32))), .val (.ref b203), .val (.ref a206), .val (.ref a207), .val (.ref a209), .val (.int (0 : Int32))] [(.ref b203), (.ref b203)])) X212 hx rfl rfl rfl (pc0 := 141) (pc' := 144) (same := true) rfl (hb hby at_141) rfl (decide_eq_true rfl) (by decide) (by decide) kS) ?_
        show own_Comes p e below s _ _ _ (T212.setTop (mkF m 144 #[.val (.int p0), .val (.int p1), .val (.int p2), .val (.long q3), .second, .val (.int p4), .val (.int (p0 &&& (3 : Int32))), .val (.ref b203), .val (.ref a206), .val (.ref a207), .val (.ref a209), .val (.int (0 : Int32))] []))
        refine own_by (fun _ kS => XS.aload X212.here hx rfl (hb hby at_144) rfl rfl kS) ?_
        show own_Comes p e below s _ _ _ (T212.setTop (mkF m 146 #[.val (.int p0), .val (.int p1), .val (.int p2), .val (.long q3), .second, .val (.int p4), .val (.int (p0 &&& (3 : Int32))), .val (.ref b203), .val (.ref a206), .val (.ref a207), .val (.ref a209), .val (.int (0 : Int32))] [(.ref a207)]))
        obtain ⟨cq213, kq213, q213a, q213b, q213c⟩ := isOf hZ e212 (A207.ext E209).1
        obtain ⟨_, _, ⟨T213, L213, k213, n213⟩, -, X213, ⟨Lc213, hQ213, l213, y213, z213⟩, st213⟩ := X212.virtualBack hx (y := (⟨"com/example/layered_mocks/layeredmocks/Answer", "failure", "()Ljava/lang/Throwable;"⟩ : MethodName)) (z := (⟨"com/example/layered_mocks/layeredmocks/Answer", "failure", "()Ljava/lang/Throwable;"⟩ : MethodName)) hown (mvT hZ (hw _ (List.mem_of_getElem? (i := 58) rfl))) (mvT hZ (hw _ (List.mem_of_getElem? (i := 59) rfl))) (notFace_of_selects (args := #[]) (mvT hZ (hw _ (List.mem_of_getElem? (i := 61) rfl)))) (mvT hZ (hw _ (List.mem_of_getElem? (i := 61) rfl))) (mvT hZ (hw _ (List.mem_of_getElem? (i := 60) rfl))) (by decide) (backOf (W := 0) (rm9 l Z a0 hw [] a207 .null T209.heap n0 (Nat.le_trans (Nat.le_trans (Nat.le_trans (Nat.le_trans (Nat.le_trans (Nat.le_trans (Nat.le_trans (Nat.le_trans Z0 E198.1) (Keep.of_wr W200).1) (Keep.of_wr W202).1) E203.1) K205.1) E206.1) E207.1) E209.1) (A207.ext E209).2.2.2.1 rfl) hZ (hw _ (List.mem_of_getElem? (i := 62) rfl)) (hw _ (List.mem_of_getElem? (i := 9) rfl)) (by decide) (by decide)) q213a q213c (g := (mkF m 146 #[.val (.int p0), .val (.int p1), .val (.int p2), .val (.long q3), .second, .val (.int p4), .val (.int (p0 &&& (3 : Int32))), .val (.ref b203), .val (.ref a206), .val (.ref a207), .val (.ref a209), .val (.int (0 : Int32))] [(.ref a207)])) rfl (by rw [hml]; rfl) (Steps.refl _) (argsL := []) (rest := []) (lenOf pd___Ljava_lang_Throwable__88 rfl) rfl (by show 2 * 0 + _ ≤ _; exact Nat.le_of_eq rfl) (hb hby at_146) (fun _ _ => ⟨rfl, e212, (by decide : 6 + 0 ≤ _), (by decide : 25 + 0 ≤ _)⟩)
        dsimp only [Pt.U, Pt.locs, Pt.cells, Pt.slots] at X213 l213 y213 z213 st213 hQ213
        subst l213 y213 z213
        obtain ⟨rfl, N213q, e213q⟩ := hQ213
        have N213 := Fr.app N212 N213q
        refine own_tr st213 ?_
        have e213 : T213.heap = T209.heap := e213q
        show own_Comes p e below s _ _ _ (T213.setTop (mkF m 149 #[.val (.int p0), .val (.int p1), .val (.int p2), .val (.long q3), .second, .val (.int p4), .val (.int (p0 &&& (3 : Int32))), .val (.ref b203), .val (.ref a206), .val (.ref a207), .val (.ref a209), .val (.int (0 : Int32))] [.null]))
        refine own_by (fun _ kS => XS.ifnonnullNo X213.here hx rfl (hb hby at_149) rfl kS) ?_
        show own_Comes p e below s _ _ _ (T213.setTop (mkF m 152 #[.val (.int p0), .val (.int p1), .val (.int p2), .val (.long q3), .second, .val (.int p4), .val (.int (p0 &&& (3 : Int32))), .val (.ref b203), .val (.ref a206), .val (.ref a207), .val (.ref a209), .val (.int (0 : Int32))] []))
        refine own_by (fun _ kS => XS.aload X213.here hx rfl (hb hby at_152) rfl rfl kS) ?_
        show own_Comes p e below s _ _ _ (T213.setTop (mkF m 154 #[.val (.int p0), .val (.int p1), .val (.int p2), .val (.long q3), .second, .val (.int p4), .val (.int (p0 &&& (3 : Int32))), .val (.ref b203), .val (.ref a206), .val (.ref a207), .val (.ref a209), .val (.int (0 : Int32))] [(.ref a207)]))
        obtain ⟨cq214, kq214, q214a, q214b, q214c⟩ := isOf hZ e213 (A207.ext E209).1
        obtain ⟨_, _, ⟨T214, L214, k214, n214⟩, -, X214, ⟨Lc214, hQ214, l214, y214, z214⟩, st214⟩ := X213.virtualBack hx (y := (⟨"com/example/layered_mocks/layeredmocks/Answer", "delay", "()Ljava/time/Duration;"⟩ : MethodName)) (z := (⟨"com/example/layered_mocks/layeredmocks/Answer", "delay", "()Ljava/time/Duration;"⟩ : MethodName)) hown (mvT hZ (hw _ (List.mem_of_getElem? (i := 63) rfl))) (mvT hZ (hw _ (List.mem_of_getElem? (i := 64) rfl))) (notFace_of_selects (args := #[]) (mvT hZ (hw _ (List.mem_of_getElem? (i := 66) rfl)))) (mvT hZ (hw _ (List.mem_of_getElem? (i := 66) rfl))) (mvT hZ (hw _ (List.mem_of_getElem? (i := 65) rfl))) (by decide) (backOf (W := 0) (rm10 l Z a0 hw [] a207 .null T209.heap n0 (Nat.le_trans (Nat.le_trans (Nat.le_trans (Nat.le_trans (Nat.le_trans (Nat.le_trans (Nat.le_trans (Nat.le_trans Z0 E198.1) (Keep.of_wr W200).1) (Keep.of_wr W202).1) E203.1) K205.1) E206.1) E207.1) E209.1) (A207.ext E209).2.2.2.2.2.2.2.2 rfl) hZ (hw _ (List.mem_of_getElem? (i := 67) rfl)) (hw _ (List.mem_of_getElem? (i := 9) rfl)) (by decide) (by decide)) q214a q214c (g := (mkF m 154 #[.val (.int p0), .val (.int p1), .val (.int p2), .val (.long q3), .second, .val (.int p4), .val (.int (p0 &&& (3 : Int32))), .val (.ref b203), .val (.ref a206), .val (.ref a207), .val (.ref a209), .val (.int (0 : Int32))] [(.ref a207)])) rfl (by rw [hml]; rfl) (Steps.refl _) (argsL := []) (rest := []) (lenOf pd___Ljava_time_Duration__3 rfl) rfl (by show 2 * 0 + _ ≤ _; exact Nat.le_of_eq rfl) (hb hby at_154) (fun _ _ => ⟨rfl, e213, (by decide : 6 + 0 ≤ _), (by decide : 25 + 0 ≤ _)⟩)
        dsimp only [Pt.U, Pt.locs, Pt.cells, Pt.slots] at X214 l214 y214 z214 st214 hQ214
        subst l214 y214 z214
        obtain ⟨rfl, N214q, e214q⟩ := hQ214
        have N214 := Fr.app N213 N214q
        refine own_tr st214 ?_
        have e214 : T214.heap = T209.heap := e214q
        show own_Comes p e below s _ _ _ (T214.setTop (mkF m 157 #[.val (.int p0), .val (.int p1), .val (.int p2), .val (.long q3), .second, .val (.int p4), .val (.int (p0 &&& (3 : Int32))), .val (.ref b203), .val (.ref a206), .val (.ref a207), .val (.ref a209), .val (.int (0 : Int32))] [.null]))
        refine own_by (fun _ kS => XS.ifnonnullNo X214.here hx rfl (hb hby at_157) rfl kS) ?_
        show own_Comes p e below s _ _ _ (T214.setTop (mkF m 160 #[.val (.int p0), .val (.int p1), .val (.int p2), .val (.long q3), .second, .val (.int p4), .val (.int (p0 &&& (3 : Int32))), .val (.ref b203), .val (.ref a206), .val (.ref a207), .val (.ref a209), .val (.int (0 : Int32))] []))
        refine own_by (fun _ kS => XS.aload X214.here hx rfl (hb hby at_160) rfl rfl kS) ?_
        show own_Comes p e below s _ _ _ (T214.setTop (mkF m 162 #[.val (.int p0), .val (.int p1), .val (.int p2), .val (.long q3), .second, .val (.int p4), .val (.int (p0 &&& (3 : Int32))), .val (.ref b203), .val (.ref a206), .val (.ref a207), .val (.ref a209), .val (.int (0 : Int32))] [(.ref a209)]))
        obtain ⟨cq215, kq215, q215a, q215b, q215c⟩ := isOf hZ e214 A209.1
        obtain ⟨_, _, ⟨T215, L215, k215, n215⟩, -, X215, ⟨Lc215, hQ215, l215, y215, z215⟩, st215⟩ := X214.virtualBack hx (y := (⟨"com/example/layered_mocks/layeredmocks/Answer", "result", "()Ljava/lang/Object;"⟩ : MethodName)) (z := (⟨"com/example/layered_mocks/layeredmocks/Answer", "result", "()Ljava/lang/Object;"⟩ : MethodName)) hown (mvT hZ (hw _ (List.mem_of_getElem? (i := 53) rfl))) (mvT hZ (hw _ (List.mem_of_getElem? (i := 54) rfl))) (notFace_of_selects (args := #[]) (mvT hZ (hw _ (List.mem_of_getElem? (i := 56) rfl)))) (mvT hZ (hw _ (List.mem_of_getElem? (i := 56) rfl))) (mvT hZ (hw _ (List.mem_of_getElem? (i := 55) rfl))) (by decide) (backOf (W := 0) (rm8 l Z a0 hw [] a209 (.ref a206) T209.heap n0 (Nat.le_trans (Nat.le_trans (Nat.le_trans (Nat.le_trans (Nat.le_trans (Nat.le_trans (Nat.le_trans (Nat.le_trans Z0 E198.1) (Keep.of_wr W200).1) (Keep.of_wr W202).1) E203.1) K205.1) E206.1) E207.1) E209.1) A209.2.2.1 rfl) hZ (hw _ (List.mem_of_getElem? (i := 57) rfl)) (hw _ (List.mem_of_getElem? (i := 9) rfl)) (by decide) (by decide)) q215a q215c (g := (mkF m 162 #[.val (.int p0), .val (.int p1), .val (.int p2), .val (.long q3), .second, .val (.int p4), .val (.int (p0 &&& (3 : Int32))), .val (.ref b203), .val (.ref a206), .val (.ref a207), .val (.ref a209), .val (.int (0 : Int32))] [(.ref a209)])) rfl (by rw [hml]; rfl) (Steps.refl _) (argsL := []) (rest := []) (lenOf pd___Ljava_lang_Object__748 rfl) rfl (by show 2 * 0 + _ ≤ _; exact Nat.le_of_eq rfl) (hb hby at_162) (fun _ _ => ⟨rfl, e214, (by decide : 6 + 0 ≤ _), (by decide : 25 + 0 ≤ _)⟩)
        dsimp only [Pt.U, Pt.locs, Pt.cells, Pt.slots] at X215 l215 y215 z215 st215 hQ215
        subst l215 y215 z215
        obtain ⟨rfl, N215q, e215q⟩ := hQ215
        have N215 := Fr.app N214 N215q
        refine own_tr st215 ?_
        have e215 : T215.heap = T209.heap := e215q
        show own_Comes p e below s _ _ _ (T215.setTop (mkF m 165 #[.val (.int p0), .val (.int p1), .val (.int p2), .val (.long q3), .second, .val (.int p4), .val (.int (p0 &&& (3 : Int32))), .val (.ref b203), .val (.ref a206), .val (.ref a207), .val (.ref a209), .val (.int (0 : Int32))] [(.ref a206)]))
        refine own_by (fun _ kS => XS.aload X215.here hx rfl (hb hby at_165) rfl rfl kS) ?_
        show own_Comes p e below s _ _ _ (T215.setTop (mkF m 167 #[.val (.int p0), .val (.int p1), .val (.int p2), .val (.long q3), .second, .val (.int p4), .val (.int (p0 &&& (3 : Int32))), .val (.ref b203), .val (.ref a206), .val (.ref a207), .val (.ref a209), .val (.int (0 : Int32))] [(.ref a206), (.ref a206)]))
        refine own_by (fun _ kS => Jvm.RoadKit.acmp (g := (mkF m 167 #[.val (.int p0), .val (.int p1), .val (.int p2), .val (.long q3), .second, .val (.int p4), .val (.int (p0 &&& (3 : Int32))), .val (.ref b203), .val (.ref a206), .val (.ref a207), .val (.ref a209), .val (.int (0 : Int32))] [(.ref a206), (.ref a206)])) X215 hx rfl rfl rfl (pc0 := 167) (pc' := 170) (same := true) rfl (hb hby at_167) rfl (decide_eq_true rfl) (by decide) (by decide) kS) ?_
        show own_Comes p e below s _ _ _ (T215.setTop (mkF m 170 #[.val (.int p0), .val (.int p1), .val (.int p2), .val (.long q3), .second, .val (.int p4), .val (.int (p0 &&& (3 : Int32))), .val (.ref b203), .val (.ref a206), .val (.ref a207), .val (.ref a209), .val (.int (0 : Int32))] []))
        refine own_by (fun _ kS => XS.aload X215.here hx rfl (hb hby at_170) rfl rfl kS) ?_
        show own_Comes p e below s _ _ _ (T215.setTop (mkF m 172 #[.val (.int p0), .val (.int p1), .val (.int p2), .val (.long q3), .second, .val (.int p4), .val (.int (p0 &&& (3 : Int32))), .val (.ref b203), .val (.ref a206), .val (.ref a207), .val (.ref a209), .val (.int (0 : Int32))] [(.ref a207)]))
        refine own_by (fun _ kS => XS.aload X215.here hx rfl (hb hby at_172) rfl rfl kS) ?_
        show own_Comes p e below s _ _ _ (T215.setTop (mkF m 174 #[.val (.int p0), .val (.int p1), .val (.int p2), .val (.long q3), .second, .val (.int p4), .val (.int (p0 &&& (3 : Int32))), .val (.ref b203), .val (.ref a206), .val (.ref a207), .val (.ref a209), .val (.int (0 : Int32))] [(.ref a209), (.ref a207)]))
        obtain ⟨cq216, kq216, q216a, q216b, q216c⟩ := isOf hZ e215 (A207.ext E209).1
        obtain ⟨_, _, ⟨T216, L216, k216, n216⟩, -, X216, ⟨Lc216, hQ216, l216, y216, z216⟩, st216⟩ := X215.virtualBack hx (y := (⟨"com/example/layered_mocks/layeredmocks/Answer", "equals", "(Ljava/lang/Object;)Z"⟩ : MethodName)) (z := (⟨"com/example/layered_mocks/layeredmocks/Answer", "equals", "(Ljava/lang/Object;)Z"⟩ : MethodName)) hown (mvT hZ (hw _ (List.mem_of_getElem? (i := 68) rfl))) (mvT hZ (hw _ (List.mem_of_getElem? (i := 69) rfl))) (notFace_of_selects (args := #[]) (mvT hZ (hw _ (List.mem_of_getElem? (i := 71) rfl)))) (mvT hZ (hw _ (List.mem_of_getElem? (i := 71) rfl))) (mvT hZ (hw _ (List.mem_of_getElem? (i := 70) rfl))) (by decide) (backOf (W := 0) (rm11s l Z a0 hw [] a207 a209 k b203 a206 em T209.heap n0 (Nat.le_trans (Nat.le_trans (Nat.le_trans (Nat.le_trans (Nat.le_trans (Nat.le_trans (Nat.le_trans (Nat.le_trans Z0 E198.1) (Keep.of_wr W200).1) (Keep.of_wr W202).1) E203.1) K205.1) E206.1) E207.1) E209.1) (A207.ext E209) A209 (Em.ext (c208.ext E209).2) ((Eb206.ext E207).ext E209) (((Eb205.ext E206).ext E207).ext E209)) hZ (hw _ (List.mem_of_getElem? (i := 72) rfl)) (hw _ (List.mem_of_getElem? (i := 9) rfl)) (by decide) (by decide)) q216a q216c (g := (mkF m 174 #[.val (.int p0), .val (.int p1), .val (.int p2), .val (.long q3), .second, .val (.int p4), .val (.int (p0 &&& (3 : Int32))), .val (.ref b203), .val (.ref a206), .val (.ref a207), .val (.ref a209), .val (.int (0 : Int32))] [(.ref a209), (.ref a207)])) rfl (by rw [hml]; rfl) (Steps.refl _) (argsL := [(.ref a209)]) (rest := []) (lenOf pd__Ljava_lang_Object__Z_838 rfl) rfl (by show 2 * 0 + _ ≤ _; exact Nat.le_of_eq rfl) (hb hby at_174) (fun _ _ => ⟨rfl, e215, (by decide : 6 + 0 ≤ _), (by decide : 25 + 0 ≤ _)⟩)
        dsimp only [Pt.U, Pt.locs, Pt.cells, Pt.slots] at X216 l216 y216 z216 st216 hQ216
        subst l216 y216 z216
        obtain ⟨rfl, N216q, e216q⟩ := hQ216
        have N216 := Fr.app N215 N216q
        refine own_tr st216 ?_
        have e216 : T216.heap = T209.heap := e216q
        show own_Comes p e below s _ _ _ (T216.setTop (mkF m 177 #[.val (.int p0), .val (.int p1), .val (.int p2), .val (.long q3), .second, .val (.int p4), .val (.int (p0 &&& (3 : Int32))), .val (.ref b203), .val (.ref a206), .val (.ref a207), .val (.ref a209), .val (.int (0 : Int32))] [(.int (0 : Int32))]))
        refine own_by (fun _ kS => XS.iload X216.here hx rfl (hb hby at_177) rfl kS) ?_
        show own_Comes p e below s _ _ _ (T216.setTop (mkF m 179 #[.val (.int p0), .val (.int p1), .val (.int p2), .val (.long q3), .second, .val (.int p4), .val (.int (p0 &&& (3 : Int32))), .val (.ref b203), .val (.ref a206), .val (.ref a207), .val (.ref a209), .val (.int (0 : Int32))] [(.int (0 : Int32)), (.int (0 : Int32))]))
        have hb217 : (0 : Int32) = (0 : Int32) := by decide
        refine own_by (fun _ kS => XS.icmpNo X216.here hx rfl (hb hby at_179) rfl (teq hb217).2 kS) ?_
        show own_Comes p e below s _ _ _ (T216.setTop (mkF m 182 #[.val (.int p0), .val (.int p1), .val (.int p2), .val (.long q3), .second, .val (.int p4), .val (.int (p0 &&& (3 : Int32))), .val (.ref b203), .val (.ref a206), .val (.ref a207), .val (.ref a209), .val (.int (0 : Int32))] []))
        refine own_by (fun _ kS => XS.iconst X216.here hx rfl (hb hby at_182) kS) ?_
        show own_Comes p e below s _ _ _ (T216.setTop (mkF m 183 #[.val (.int p0), .val (.int p1), .val (.int p2), .val (.long q3), .second, .val (.int p4), .val (.int (p0 &&& (3 : Int32))), .val (.ref b203), .val (.ref a206), .val (.ref a207), .val (.ref a209), .val (.int (0 : Int32))] [(.int (1 : Int32))]))
        refine own_by (fun _ kS => XS.goto X216.here hx rfl (pc0 := 183) (pc' := 187) rfl (hb hby at_183) (by decide) (by decide) kS) ?_
        show own_Comes p e below s _ _ _ (T216.setTop (mkF m 187 #[.val (.int p0), .val (.int p1), .val (.int p2), .val (.long q3), .second, .val (.int p4), .val (.int (p0 &&& (3 : Int32))), .val (.ref b203), .val (.ref a206), .val (.ref a207), .val (.ref a209), .val (.int (0 : Int32))] [(.int (1 : Int32))]))
        refine own_ret X216 (v := some (.int (1 : Int32))) (fun h => by rw [Bd.returns] at h; cases h) Bd.notSynchronized (by decide) (by decide) ?_ (fun fs hr => retN X216 hx (t := .boolean) Bd.returns (by simp) (hb hby at_187) hr)
        rw [e216]; exact ⟨rfl, N216⟩
set_option maxRecDepth 65536 in
set_option maxHeartbeats 40000000 in
theorem comes_1 {Post : Tables → Env → Array Value → State → Outcome → State → Prop} (hpost : ∀ tb e args s v u, (limb_1_1.after args s (.returned v) u = true ∧ limb_1_2.after args s (.returned v) u = true ∧ True) → FrameEnd s (.returned v) u (Jvm.fieldLocs frame_1_writes args s ++ Jvm.arrayLocs frame_1_arrays args s ++ Jvm.staticLocs frame_1_statics s) 24 128 → Post tb e args s (.returned v) u) :
    ArmFor flags0 classFile x code maxLocals ret World_1 tables_1 room_1 Calls_1 rest_1 Pre_1 Post := by
  intro l hfl _ _ p e ha hc hk s m args below hf hA hF happ hP
  obtain ⟨hcalls, hrest, hpre⟩ := hP
  obtain ⟨-, -, -, hnamed, -, -, -, hat⟩ := (Spec.applies_iff hf).mp happ
  obtain ⟨hg, hn⟩ := and_e (Cond.before_iff.mp (show (Jvm.Cond.and given_1 narrow_1).before args s = true from hpre))
  obtain ⟨hcount, hk0⟩ := and_e hg
  obtain ⟨ha0, hk1⟩ := and_e hk0
  obtain ⟨ha1, hk2⟩ := and_e hk1
  obtain ⟨ha2, hk3⟩ := and_e hk2
  obtain ⟨ha3, hk4⟩ := and_e hk3
  have ha4 := hk4
  obtain ⟨w0, w1, w2, w3, w4, rfl⟩ : ∃ w0 w1 w2 w3 w4 : Value, args = #[w0, w1, w2, w3, w4] := by
    have hs : args.size = 5 := by simpa [Cond.value, given_1] using hcount
    obtain ⟨L⟩ := args
    match L, hs with
    | [w0, w1, w2, w3, w4], _ => exact ⟨w0, w1, w2, w3, w4, rfl⟩
  have hw := fun d (hd : d ∈ tables_1) => atoms_spec (ws := Jvm.Cond.code x code maxLocals ret :: tables_1) hat d (List.mem_cons_of_mem _ hd)
  have hfit : Fit s := fun {y c} hc i hi => by
    obtain ⟨ha, rfl⟩ := Array.getElem?_eq_some_iff.mp hc
    have q := List.all_eq_true.mp ((Array.all_eq_true_iff_forall_mem.mp hF) _ (Array.getElem_mem ha)) i (List.mem_range.mpr hi)
    simpa [Array.getElem?_eq_getElem hi] using q
  obtain ⟨hsets, hown0⟩ := atoms_of _ (rest_1_c_eq ▸ (show rest_1_c.before _ s = true from hrest))
  obtain ⟨i0, ei0⟩ := is_v ha0
  obtain rfl : w0 = (.int i0) := Option.some.inj ei0
  obtain ⟨i1, ei1⟩ := is_v ha1
  obtain rfl : w1 = (.int i1) := Option.some.inj ei1
  obtain ⟨i2, ei2⟩ := is_v ha2
  obtain rfl : w2 = (.int i2) := Option.some.inj ei2
  obtain ⟨i3, ei3⟩ := isL_v ha3
  obtain rfl : w3 = (.long i3) := Option.some.inj ei3
  obtain ⟨i4, ei4⟩ := is_v ha4
  obtain rfl : w4 = (.int i4) := Option.some.inj ei4
  have eh := eqv_i (Term.int_eval (127)) (Cond.before_iff.mp (hsets _ (List.mem_of_getElem? (i := 3) rfl)))
  have Sh := Sta.start eh (Or.inl (hsets _ (List.mem_of_getElem? (i := 1) rfl)))
  obtain ⟨ca, eca⟩ := arr_v (Cond.before_iff.mp (hsets _ (List.mem_of_getElem? (i := 4) rfl)))
  have Sc := Sta.start eca (Or.inr ⟨hw _ (List.mem_of_getElem? (i := 5) rfl), (hsets _ (List.mem_of_getElem? (i := 2) rfl))⟩)
  obtain ⟨cc, Ac⟩ := Arr.start eca (Cond.before_iff.mp (hsets _ (List.mem_of_getElem? (i := 4) rfl)))
  have lc := eqv_i (Term.int_eval (256)) (Cond.before_iff.mp (hsets _ (List.mem_of_getElem? (i := 6) rfl)))
  obtain ⟨qc1, qc2⟩ := own_len eca Ac lc
  have Bx := Bxs.start (val := fun j => .int (j - (128 : Int32))) (fun _ => eca) Ac qc1 qc2 (by decide) (Cond.before_iff.mp (hsets _ (List.mem_of_getElem? (i := 7) rfl))) (fun X j hj hX => eqv_i (own_idx hj) hX)
  obtain ⟨la, ela⟩ := arr_v (Cond.before_iff.mp (hsets _ (List.mem_of_getElem? (i := 26) rfl)))
  have Sl := Sta.start ela (Or.inl (hsets _ (List.mem_of_getElem? (i := 25) rfl)))
  obtain ⟨cl, Al⟩ := Arr.start ela (Cond.before_iff.mp (hsets _ (List.mem_of_getElem? (i := 26) rfl)))
  have ll := eqv_i (Term.int_eval (256)) (Cond.before_iff.mp (hsets _ (List.mem_of_getElem? (i := 28) rfl)))
  obtain ⟨ql1, ql2⟩ := own_len ela Al ll
  have Bl := Bxs.start (val := fun j => .long (j - (128 : Int32)).toInt64) (fun _ => ela) Al ql1 ql2 (by decide) (Cond.before_iff.mp (hsets _ (List.mem_of_getElem? (i := 29) rfl))) (fun X j hj hX => eqv_l (i2l_at (own_idx hj)) hX)
  obtain ⟨em, eem⟩ := exa_v (Cond.before_iff.mp (hsets _ (List.mem_of_getElem? (i := 10) rfl)))
  have Se := Sta.start eem (Or.inl (hsets _ (List.mem_of_getElem? (i := 9) rfl)))
  have Em := Exa.start eem (Cond.before_iff.mp (hsets _ (List.mem_of_getElem? (i := 10) rfl)))
  obtain ⟨k, ek⟩ := exa_v hn
  have Sk := Sta.start ek (Or.inr ⟨(hw _ (List.mem_of_getElem? (i := 14) rfl)), (hw _ (List.mem_of_getElem? (i := 15) rfl))⟩)
  obtain ⟨zc, ezc⟩ := is_v (Cond.before_iff.mp (hsets _ (List.mem_of_getElem? (i := 16) rfl)))
  have Sz := Sta.start ezc (Or.inl (hsets _ (List.mem_of_getElem? (i := 15) rfl)))
  have hzc : ¬ zc = 0 := gotF (Cond.eq_ints ezc (Term.int_eval (0))) (not_v (Cond.before_iff.mp (hsets _ (List.mem_of_getElem? (i := 17) rfl))))
  obtain ⟨n, o, h1, h2, h3, _, L, rfl, ⟨rfl, N⟩, hq⟩ := rm0 l s _ hw tables_1 i0 i1 i2 i3 i4 ca la em k cc cl zc s.heap s.heap.size (Nat.le_refl _) (Old.start s) Sh Sc Bx Sl Bl Se Em Sk Sz hzc p e ha hc hk s m _ below hf ((Spec.applies_iff_loose hf).mp happ).1 ⟨rfl, State.Warmed39.refl s, rfl⟩ trivial
  refine ⟨n, _, h1, h2, h3, hpost _ _ _ _ _ _ ⟨Cond.after_iff.mpr rfl, Cond.after_iff.mpr (eq_i res_at (Term.int_eval (1)) rfl), trivial⟩ ⟨hq.1, hq.2.1, (hq.2.2.sift fun y hy => Or.inr (N y hy)).mono (by decide) (by decide)⟩⟩
theorem main_1_1 : Claimed_1_1 := comes_1 fun _ _ _ _ _ _ h hF => ⟨h.1, hF⟩
theorem main_1_2 : Claimed_1_2 := comes_1 fun _ _ _ _ _ _ h hF => ⟨h.2.1, hF⟩
end Jvm.Pilot.@@N@@
namespace Jvm.Pilot.@@N@@
open Jvm Jvm.ClassFile Sem Op Lib Jvm.Free Jvm.Stand Jvm.Pilot.@@N@@.Jvm.D
/-! MADE BY PROGRAM (witnessworld.py) out of the Statement's table words and the real class files: 36 classes; the members and pool entries that the words name. The judged class is class 1, her method 1. -/
namespace start1
open Jvm.ClassFile
def u (s : String) : CpInfo := .utf8 (stringToUtf16 s)
/-- a pool by its gaps: so many unusable entries, then the entry; so many at the end -/
def gap : Nat → List CpInfo → List CpInfo
  | 0, r => r
  | n + 1, r => .unusable :: gap n r
def poolList (es : List (Nat × CpInfo)) (last : Nat) : List CpInfo := es.foldr (fun e r => gap e.1 (e.2 :: r)) (gap last [])
def pool (es : List (Nat × CpInfo)) (last : Nat) : Array CpInfo := ⟨poolList es last⟩
def fileOf (pool : Array CpInfo) (this : Nat) (attrs : Array Attribute := #[]) (ms : Array MethodInfo := #[]) (fl : Nat := 33) (sup : Nat := 0) (ifs : Array Nat := #[]) (fds : Array FieldInfo := #[]) : ClassFile where
  minorVersion := 0
  majorVersion := 65
  constantPool := pool
  accessFlags := fl
  thisClass := this
  superClass := sup
  interfaces := ifs
  fields := fds
  methods := ms
  attributes := attrs
def plain (name : String) (sup : Option ClassId) : Class where
  name := name
  kind := .ordinary
  loader := none
  accessFlags := 33
  super := sup
  interfaces := #[]
  cf := none
  fields := #[]
  methods := #[]
  instanceTypes := #[]
  staticTypes := #[]
  resolved := #[]
  callSites := []
  init := .initialized
  statics := none
  mirror := none

def pool0 : Array CpInfo := pool [(5, u "<init>"), (0, u "()V"), (1, .class_ 10), (1, u "java/lang/Object"), (81, u "equals"), (0, u "(Ljava/lang/Object;)Z")] 30

def k0c0 : Code := { maxStack := 0, maxLocals := 1, code := object_method_1_code, exceptionTable := #[], attributes := #[] }
def k0m0 : Method := { name := "<init>", desc := "()V", sig := { parameters := [], returnType := none }, accessFlags := 1, code := some k0c0 }
def k0c1 : Code := { maxStack := 2, maxLocals := 2, code := ⟨#[0x2a, 0x2b, 0xa6, 0x00, 0x07, 0x04, 0xa7, 0x00, 0x04, 0x03, 0xac]⟩, exceptionTable := #[], attributes := #[] }
def k0m1 : Method := { name := "equals", desc := "(Ljava/lang/Object;)Z", sig := { parameters := [(.object "java/lang/Object")], returnType := some .boolean }, accessFlags := 1, code := some k0c1 }
/-- java/lang/Object -/
def k0 : Class := { plain "java/lang/Object" none with
  accessFlags := 33
  interfaces := #[]
  cf := some (fileOf pool0 8 #[] #[{ accessFlags := 1, nameIndex := 5, descriptorIndex := 6, attributes := #[] }, { accessFlags := 1, nameIndex := 92, descriptorIndex := 93, attributes := #[] }] 33 0 #[] #[])
  fields := #[]
  methods := #[k0m0, k0m1]
  instanceTypes := #[]
  staticTypes := #[]
  resolved := Array.replicate 124 none
  statics := none }

def pool1 : Array CpInfo := pool [(2, .class_ 4), (1, u "java/lang/Object"), (0, u "<init>"), (0, u "()V"), (0, .methodref 8 9), (0, .class_ 10), (0, .nameAndType 11 12), (0, u "java/lang/Integer"), (0, u "valueOf"), (0, u "(I)Ljava/lang/Integer;"), (0, .methodref 14 15), (0, .class_ 16), (0, .nameAndType 11 17), (0, u "java/lang/Long"), (0, u "(J)Ljava/lang/Long;"), (0, .class_ 19), (0, u "java/lang/String"), (0, .methodref 18 21), (0, .nameAndType 5 22), (0, u "([C)V"), (0, .methodref 24 25), (0, .class_ 26), (0, .nameAndType 27 28), (0, u "com/example/layered_mocks/layeredmocks/Answer"), (0, u "value"), (0, u "(Ljava/lang/Object;)Lcom/example/layered_mocks/layeredmocks/Answer;"), (0, .methodref 24 30), (0, .nameAndType 31 32), (0, u "kind"), (0, u "()Lcom/example/layered_mocks/layeredmocks/Answer$Kind;"), (0, .fieldref 34 35), (0, .class_ 36), (0, .nameAndType 37 38), (0, u "com/example/layered_mocks/layeredmocks/Answer$Kind"), (0, u "VALUE"), (0, u "Lcom/example/layered_mocks/layeredmocks/Answer$Kind;"), (0, .methodref 24 40), (0, .nameAndType 41 42), (0, u "result"), (0, u "()Ljava/lang/Object;"), (0, .methodref 24 44), (0, .nameAndType 45 46), (0, u "failure"), (0, u "()Ljava/lang/Throwable;"), (0, .methodref 24 48), (0, .nameAndType 49 50), (0, u "delay"), (0, u "()Ljava/time/Duration;"), (0, .methodref 24 52), (0, .nameAndType 53 54), (0, u "equals"), (0, u "(Ljava/lang/Object;)Z"), (0, .class_ 56), (0, u "com/example/layered_mocks/layeredmocks/AnswerValuePinLaw"), (2, u "law"), (0, u "(IIIJI)Z")] 5

def k1m0 : Method := { name := "<init>", desc := "()V", sig := { parameters := [], returnType := none }, accessFlags := 1, code := none }
def k1c1 : Code := { maxStack := 5, maxLocals := 12, code := code, exceptionTable := #[], attributes := #[] }
def k1m1 : Method := { name := "law", desc := "(IIIJI)Z", sig := { parameters := [.int, .int, .int, .long, .int], returnType := some .boolean }, accessFlags := 9, code := some k1c1 }
/-- com/example/layered_mocks/layeredmocks/AnswerValuePinLaw -/
def k1 : Class := { plain "com/example/layered_mocks/layeredmocks/AnswerValuePinLaw" (some 0) with
  accessFlags := 49
  interfaces := #[]
  cf := some (fileOf pool1 55 #[] #[{ accessFlags := 1, nameIndex := 5, descriptorIndex := 6, attributes := #[] }, { accessFlags := 9, nameIndex := 59, descriptorIndex := 60, attributes := #[] }] 49 2 #[] #[])
  fields := #[]
  methods := #[k1m0, k1m1]
  instanceTypes := #[]
  staticTypes := #[]
  resolved := Array.replicate 66 none
  statics := none }

def pool2 : Array CpInfo := pool [(1, .class_ 2), (0, u "java/io/Serializable"), (0, .class_ 4), (0, u "java/lang/Object")] 2

/-- java/io/Serializable -/
def k2 : Class := { plain "java/io/Serializable" (some 0) with
  accessFlags := 1537
  interfaces := #[]
  cf := some (fileOf pool2 1 #[] #[] 1537 3 #[] #[])
  fields := #[]
  methods := #[]
  instanceTypes := #[]
  staticTypes := #[]
  resolved := Array.replicate 7 none
  statics := none }

def pool3 : Array CpInfo := pool [(1, .methodref 2 3), (0, .class_ 4), (0, .nameAndType 5 6), (0, u "java/lang/Object"), (0, u "<init>"), (0, u "()V"), (1, .class_ 10), (1, u "java/lang/Number"), (2, .class_ 14), (0, u "java/io/Serializable"), (0, u "serialVersionUID"), (0, u "J")] 20

def k3c0 : Code := { maxStack := 1, maxLocals := 1, code := jdk_18_method_1_code, exceptionTable := #[], attributes := #[] }
def k3m0 : Method := { name := "<init>", desc := "()V", sig := { parameters := [], returnType := none }, accessFlags := 1, code := some k3c0 }
/-- java/lang/Number -/
def k3 : Class := { plain "java/lang/Number" (some 0) with
  accessFlags := 1057
  interfaces := #[2]
  cf := some (fileOf pool3 8 #[] #[{ accessFlags := 1, nameIndex := 5, descriptorIndex := 6, attributes := #[] }] 1057 2 #[13] #[{ accessFlags := 26, nameIndex := 15, descriptorIndex := 16, attributes := #[] }])
  fields := #[{ name := "serialVersionUID", type := .long, accessFlags := 26, slot := 0, constantValue := 0 }]
  methods := #[k3m0]
  instanceTypes := #[]
  staticTypes := #[.long]
  resolved := Array.replicate 37 none
  statics := none }

def pool4 : Array CpInfo := pool [(1, .class_ 2), (0, u "java/lang/Comparable"), (0, .class_ 4), (0, u "java/lang/Object")] 7

/-- java/lang/Comparable -/
def k4 : Class := { plain "java/lang/Comparable" (some 0) with
  accessFlags := 1537
  interfaces := #[]
  cf := some (fileOf pool4 1 #[] #[] 1537 3 #[] #[])
  fields := #[]
  methods := #[]
  instanceTypes := #[]
  staticTypes := #[]
  resolved := Array.replicate 12 none
  statics := none }

def pool5 : Array CpInfo := pool [(1, .class_ 2), (0, u "java/lang/constant/Constable"), (0, .class_ 4), (0, u "java/lang/Object")] 6

/-- java/lang/constant/Constable -/
def k5 : Class := { plain "java/lang/constant/Constable" (some 0) with
  accessFlags := 1537
  interfaces := #[]
  cf := some (fileOf pool5 1 #[] #[] 1537 3 #[] #[])
  fields := #[]
  methods := #[]
  instanceTypes := #[]
  staticTypes := #[]
  resolved := Array.replicate 11 none
  statics := none }

def pool6 : Array CpInfo := pool [(1, .class_ 2), (0, u "java/lang/constant/ConstantDesc"), (0, .class_ 4), (0, u "java/lang/Object")] 32

/-- java/lang/constant/ConstantDesc -/
def k6 : Class := { plain "java/lang/constant/ConstantDesc" (some 0) with
  accessFlags := 1537
  interfaces := #[]
  cf := some (fileOf pool6 1 #[] #[] 1537 3 #[] #[])
  fields := #[]
  methods := #[]
  instanceTypes := #[]
  staticTypes := #[]
  resolved := Array.replicate 37 none
  statics := none }

def pool7 : Array CpInfo := pool [(1, .class_ 2), (0, u "java/lang/Integer"), (16, u "digits"), (0, u "[C"), (46, u "<init>"), (17, u "DigitOnes"), (0, u "[B"), (2, u "DigitTens"), (10, .nameAndType 67 101), (0, u "()V"), (19, u "()I"), (65, u "valueOf"), (0, u "(I)Ljava/lang/Integer;"), (0, .class_ 190), (0, u "java/lang/Integer$IntegerCache"), (0, .fieldref 189 192), (0, .nameAndType 193 194), (0, u "high"), (0, u "I"), (0, .fieldref 189 196), (0, .nameAndType 197 198), (0, u "cache"), (0, u "[Ljava/lang/Integer;"), (0, .methodref 1 200), (0, .nameAndType 67 201), (0, u "(I)V"), (0, .methodref 203 100), (0, .class_ 204), (0, u "java/lang/Number"), (0, .fieldref 1 206), (0, .nameAndType 207 194), (0, u "value"), (3, .methodref 1 212), (0, .nameAndType 213 121), (0, u "intValue"), (88, u "TYPE"), (0, u "Ljava/lang/Class;"), (0, .class_ 305), (0, u "java/lang/Comparable"), (0, .class_ 307), (0, u "java/lang/constant/Constable"), (0, .class_ 309), (0, u "java/lang/constant/ConstantDesc"), (0, u "MIN_VALUE"), (1, u "MAX_VALUE"), (3, u "SIZE"), (1, u "BYTES"), (1, u "serialVersionUID"), (0, u "J"), (63, u "equals"), (0, u "(Ljava/lang/Object;)Z")] 66

def k7c0 : Code := { maxStack := 3, maxLocals := 1, code := jdk_33_method_22_code, exceptionTable := #[], attributes := #[] }
def k7m0 : Method := { name := "valueOf", desc := "(I)Ljava/lang/Integer;", sig := { parameters := [.int], returnType := some (.object "java/lang/Integer") }, accessFlags := 9, code := some k7c0 }
def k7c1 : Code := { maxStack := 2, maxLocals := 2, code := jdk_33_method_23_code, exceptionTable := #[], attributes := #[] }
def k7m1 : Method := { name := "<init>", desc := "(I)V", sig := { parameters := [.int], returnType := none }, accessFlags := 1, code := some k7c1 }
def k7c2 : Code := { maxStack := 1, maxLocals := 1, code := jdk_33_method_27_code, exceptionTable := #[], attributes := #[] }
def k7m2 : Method := { name := "intValue", desc := "()I", sig := { parameters := [], returnType := some .int }, accessFlags := 1, code := some k7c2 }
def k7c3 : Code := { maxStack := 2, maxLocals := 2, code := jdk_33_method_34_code, exceptionTable := #[], attributes := #[] }
def k7m3 : Method := { name := "equals", desc := "(Ljava/lang/Object;)Z", sig := { parameters := [(.object "java/lang/Object")], returnType := some .boolean }, accessFlags := 1, code := some k7c3 }
/-- java/lang/Integer -/
def k7 : Class := { plain "java/lang/Integer" (some 3) with
  accessFlags := 49
  interfaces := #[4, 5, 6]
  cf := some (fileOf pool7 1 #[.nestMembers #[189]] #[{ accessFlags := 9, nameIndex := 187, descriptorIndex := 188, attributes := #[] }, { accessFlags := 1, nameIndex := 67, descriptorIndex := 201, attributes := #[] }, { accessFlags := 1, nameIndex := 213, descriptorIndex := 121, attributes := #[] }, { accessFlags := 1, nameIndex := 385, descriptorIndex := 386, attributes := #[] }] 49 203 #[304, 306, 308] #[{ accessFlags := 25, nameIndex := 310, descriptorIndex := 194, attributes := #[] }, { accessFlags := 25, nameIndex := 312, descriptorIndex := 194, attributes := #[] }, { accessFlags := 25, nameIndex := 302, descriptorIndex := 303, attributes := #[] }, { accessFlags := 24, nameIndex := 19, descriptorIndex := 20, attributes := #[] }, { accessFlags := 24, nameIndex := 89, descriptorIndex := 86, attributes := #[] }, { accessFlags := 24, nameIndex := 85, descriptorIndex := 86, attributes := #[] }, { accessFlags := 18, nameIndex := 207, descriptorIndex := 194, attributes := #[] }, { accessFlags := 25, nameIndex := 316, descriptorIndex := 194, attributes := #[] }, { accessFlags := 25, nameIndex := 318, descriptorIndex := 194, attributes := #[] }, { accessFlags := 26, nameIndex := 320, descriptorIndex := 321, attributes := #[] }])
  fields := #[{ name := "MIN_VALUE", type := .int, accessFlags := 25, slot := 0, constantValue := 0 }, { name := "MAX_VALUE", type := .int, accessFlags := 25, slot := 1, constantValue := 0 }, { name := "TYPE", type := (.object "java/lang/Class"), accessFlags := 25, slot := 2, constantValue := 0 }, { name := "digits", type := (.array .char), accessFlags := 24, slot := 3, constantValue := 0 }, { name := "DigitTens", type := (.array .byte), accessFlags := 24, slot := 4, constantValue := 0 }, { name := "DigitOnes", type := (.array .byte), accessFlags := 24, slot := 5, constantValue := 0 }, { name := "value", type := .int, accessFlags := 18, slot := 0, constantValue := 0 }, { name := "SIZE", type := .int, accessFlags := 25, slot := 6, constantValue := 0 }, { name := "BYTES", type := .int, accessFlags := 25, slot := 7, constantValue := 0 }, { name := "serialVersionUID", type := .long, accessFlags := 26, slot := 8, constantValue := 0 }]
  methods := #[k7m0, k7m1, k7m2, k7m3]
  instanceTypes := #[.int]
  staticTypes := #[.int, .int, (.object "java/lang/Class"), (.array .char), (.array .byte), (.array .byte), .int, .int, .long]
  resolved := Array.replicate 453 none
  statics := none }

def pool8 : Array CpInfo := pool [(2, .class_ 4), (1, u "java/lang/Object"), (0, u "<init>"), (0, u "()V"), (0, .class_ 8), (0, u "java/lang/Integer"), (7, .class_ 18), (1, u "java/lang/Integer$IntegerCache"), (0, u "$assertionsDisabled"), (0, u "Z"), (26, u "high"), (0, u "I"), (8, u "archivedCache"), (0, u "[Ljava/lang/Integer;"), (12, u "cache"), (0, u "low")] 27

def k8m0 : Method := { name := "<init>", desc := "()V", sig := { parameters := [], returnType := none }, accessFlags := 2, code := none }
/-- java/lang/Integer$IntegerCache -/
def k8 : Class := { plain "java/lang/Integer$IntegerCache" (some 0) with
  accessFlags := 48
  interfaces := #[]
  cf := some (fileOf pool8 16 #[.nestHost 7] #[{ accessFlags := 2, nameIndex := 5, descriptorIndex := 6, attributes := #[] }] 48 2 #[] #[{ accessFlags := 24, nameIndex := 72, descriptorIndex := 48, attributes := #[] }, { accessFlags := 24, nameIndex := 47, descriptorIndex := 48, attributes := #[] }, { accessFlags := 24, nameIndex := 71, descriptorIndex := 58, attributes := #[] }, { accessFlags := 8, nameIndex := 57, descriptorIndex := 58, attributes := #[] }, { accessFlags := 4120, nameIndex := 19, descriptorIndex := 20, attributes := #[] }])
  fields := #[{ name := "low", type := .int, accessFlags := 24, slot := 0, constantValue := 0 }, { name := "high", type := .int, accessFlags := 24, slot := 1, constantValue := 0 }, { name := "cache", type := (.array (.object "java/lang/Integer")), accessFlags := 24, slot := 2, constantValue := 0 }, { name := "archivedCache", type := (.array (.object "java/lang/Integer")), accessFlags := 8, slot := 3, constantValue := 0 }, { name := "$assertionsDisabled", type := .boolean, accessFlags := 4120, slot := 4, constantValue := 0 }]
  methods := #[k8m0]
  instanceTypes := #[]
  staticTypes := #[.int, .int, (.array (.object "java/lang/Integer")), (.array (.object "java/lang/Integer")), .boolean]
  resolved := Array.replicate 100 none
  statics := some 0 }

def pool9 : Array CpInfo := pool [(1, .interfaceMethodref 2 3), (0, .class_ 4), (0, .nameAndType 5 6), (0, u "java/util/Map"), (0, u "of"), (0, u "()Ljava/util/Map;"), (0, .methodref 8 9), (0, .class_ 10), (0, .nameAndType 11 12), (0, u "com/example/layered_mocks/layeredmocks/Answer"), (0, u "<init>"), (0, u "(Lcom/example/layered_mocks/layeredmocks/Answer$Kind;Ljava/lang/Object;Ljava/lang/Throwable;Ljava/lang/String;Ljava/lang/String;Ljava/lang/String;Ljava/util/Map;Ljava/time/Duration;)V"), (0, .methodref 14 15), (0, .class_ 16), (0, .nameAndType 11 17), (0, u "java/lang/Object"), (0, u "()V"), (0, .fieldref 8 19), (0, .nameAndType 20 21), (0, u "kind"), (0, u "Lcom/example/layered_mocks/layeredmocks/Answer$Kind;"), (0, .fieldref 8 23), (0, .nameAndType 24 25), (0, u "result"), (0, u "Ljava/lang/Object;"), (0, .fieldref 8 27), (0, .nameAndType 28 29), (0, u "failure"), (0, u "Ljava/lang/Throwable;"), (0, .fieldref 8 31), (0, .nameAndType 32 33), (0, u "faultCode"), (0, u "Ljava/lang/String;"), (0, .fieldref 8 35), (0, .nameAndType 36 33), (0, u "faultMessage"), (0, .fieldref 8 38), (0, .nameAndType 39 33), (0, u "sharedKey"), (0, .fieldref 8 41), (0, .nameAndType 42 43), (0, u "updates"), (0, u "Ljava/util/Map;"), (0, .fieldref 8 45), (0, .nameAndType 46 47), (0, u "delay"), (0, u "Ljava/time/Duration;"), (0, .fieldref 49 50), (0, .class_ 51), (0, .nameAndType 52 21), (0, u "com/example/layered_mocks/layeredmocks/Answer$Kind"), (0, u "VALUE"), (0, .methodref 8 54), (0, .nameAndType 11 55), (0, u "(Lcom/example/layered_mocks/layeredmocks/Answer$Kind;Ljava/lang/Object;Ljava/lang/Throwable;Ljava/lang/String;Ljava/lang/String;Ljava/lang/String;)V"), (19, u "NOTHING"), (0, u "Lcom/example/layered_mocks/layeredmocks/Answer;"), (74, .methodref 152 153), (0, .class_ 154), (0, .nameAndType 155 156), (0, u "java/util/Objects"), (0, u "equals"), (0, u "(Ljava/lang/Object;Ljava/lang/Object;)Z"), (0, .interfaceMethodref 2 158), (0, .nameAndType 155 159), (0, u "(Ljava/lang/Object;)Z"), (76, u "value"), (0, u "(Ljava/lang/Object;)Lcom/example/layered_mocks/layeredmocks/Answer;"), (13, u "()Lcom/example/layered_mocks/layeredmocks/Answer$Kind;"), (0, u "()Ljava/lang/Object;"), (0, u "()Ljava/lang/Throwable;"), (1, u "()Ljava/time/Duration;")] 59

def k9c0 : Code := { maxStack := 9, maxLocals := 7, code := prog_1_method_1_code, exceptionTable := #[], attributes := #[] }
def k9m0 : Method := { name := "<init>", desc := "(Lcom/example/layered_mocks/layeredmocks/Answer$Kind;Ljava/lang/Object;Ljava/lang/Throwable;Ljava/lang/String;Ljava/lang/String;Ljava/lang/String;)V", sig := { parameters := [(.object "com/example/layered_mocks/layeredmocks/Answer$Kind"), (.object "java/lang/Object"), (.object "java/lang/Throwable"), (.object "java/lang/String"), (.object "java/lang/String"), (.object "java/lang/String")], returnType := none }, accessFlags := 2, code := some k9c0 }
def k9c1 : Code := { maxStack := 2, maxLocals := 9, code := prog_1_method_2_code, exceptionTable := #[], attributes := #[] }
def k9m1 : Method := { name := "<init>", desc := "(Lcom/example/layered_mocks/layeredmocks/Answer$Kind;Ljava/lang/Object;Ljava/lang/Throwable;Ljava/lang/String;Ljava/lang/String;Ljava/lang/String;Ljava/util/Map;Ljava/time/Duration;)V", sig := { parameters := [(.object "com/example/layered_mocks/layeredmocks/Answer$Kind"), (.object "java/lang/Object"), (.object "java/lang/Throwable"), (.object "java/lang/String"), (.object "java/lang/String"), (.object "java/lang/String"), (.object "java/util/Map"), (.object "java/time/Duration")], returnType := none }, accessFlags := 2, code := some k9c1 }
def k9c2 : Code := { maxStack := 8, maxLocals := 1, code := prog_1_method_3_code, exceptionTable := #[], attributes := #[] }
def k9m2 : Method := { name := "value", desc := "(Ljava/lang/Object;)Lcom/example/layered_mocks/layeredmocks/Answer;", sig := { parameters := [(.object "java/lang/Object")], returnType := some (.object "com/example/layered_mocks/layeredmocks/Answer") }, accessFlags := 9, code := some k9c2 }
def k9c3 : Code := { maxStack := 1, maxLocals := 1, code := prog_1_method_10_code, exceptionTable := #[], attributes := #[] }
def k9m3 : Method := { name := "kind", desc := "()Lcom/example/layered_mocks/layeredmocks/Answer$Kind;", sig := { parameters := [], returnType := some (.object "com/example/layered_mocks/layeredmocks/Answer$Kind") }, accessFlags := 0, code := some k9c3 }
def k9c4 : Code := { maxStack := 1, maxLocals := 1, code := prog_1_method_11_code, exceptionTable := #[], attributes := #[] }
def k9m4 : Method := { name := "result", desc := "()Ljava/lang/Object;", sig := { parameters := [], returnType := some (.object "java/lang/Object") }, accessFlags := 0, code := some k9c4 }
def k9c5 : Code := { maxStack := 1, maxLocals := 1, code := prog_1_method_12_code, exceptionTable := #[], attributes := #[] }
def k9m5 : Method := { name := "failure", desc := "()Ljava/lang/Throwable;", sig := { parameters := [], returnType := some (.object "java/lang/Throwable") }, accessFlags := 0, code := some k9c5 }
def k9c6 : Code := { maxStack := 1, maxLocals := 1, code := prog_1_method_14_code, exceptionTable := #[], attributes := #[] }
def k9m6 : Method := { name := "delay", desc := "()Ljava/time/Duration;", sig := { parameters := [], returnType := some (.object "java/time/Duration") }, accessFlags := 0, code := some k9c6 }
def k9c7 : Code := { maxStack := 2, maxLocals := 3, code := prog_1_method_16_code, exceptionTable := #[], attributes := #[] }
def k9m7 : Method := { name := "equals", desc := "(Ljava/lang/Object;)Z", sig := { parameters := [(.object "java/lang/Object")], returnType := some .boolean }, accessFlags := 1, code := some k9c7 }
/-- com/example/layered_mocks/layeredmocks/Answer -/
def k9 : Class := { plain "com/example/layered_mocks/layeredmocks/Answer" (some 0) with
  accessFlags := 49
  interfaces := #[]
  cf := some (fileOf pool9 8 #[.nestMembers #[49]] #[{ accessFlags := 2, nameIndex := 11, descriptorIndex := 55, attributes := #[] }, { accessFlags := 2, nameIndex := 11, descriptorIndex := 12, attributes := #[] }, { accessFlags := 9, nameIndex := 236, descriptorIndex := 237, attributes := #[] }, { accessFlags := 0, nameIndex := 20, descriptorIndex := 251, attributes := #[] }, { accessFlags := 0, nameIndex := 24, descriptorIndex := 252, attributes := #[] }, { accessFlags := 0, nameIndex := 28, descriptorIndex := 253, attributes := #[] }, { accessFlags := 0, nameIndex := 46, descriptorIndex := 255, attributes := #[] }, { accessFlags := 1, nameIndex := 155, descriptorIndex := 159, attributes := #[] }] 49 14 #[] #[{ accessFlags := 26, nameIndex := 75, descriptorIndex := 76, attributes := #[] }, { accessFlags := 18, nameIndex := 20, descriptorIndex := 21, attributes := #[] }, { accessFlags := 18, nameIndex := 24, descriptorIndex := 25, attributes := #[] }, { accessFlags := 18, nameIndex := 28, descriptorIndex := 29, attributes := #[] }, { accessFlags := 18, nameIndex := 32, descriptorIndex := 33, attributes := #[] }, { accessFlags := 18, nameIndex := 36, descriptorIndex := 33, attributes := #[] }, { accessFlags := 18, nameIndex := 39, descriptorIndex := 33, attributes := #[] }, { accessFlags := 18, nameIndex := 42, descriptorIndex := 43, attributes := #[] }, { accessFlags := 18, nameIndex := 46, descriptorIndex := 47, attributes := #[] }])
  fields := #[{ name := "NOTHING", type := (.object "com/example/layered_mocks/layeredmocks/Answer"), accessFlags := 26, slot := 0, constantValue := 0 }, { name := "kind", type := (.object "com/example/layered_mocks/layeredmocks/Answer$Kind"), accessFlags := 18, slot := 0, constantValue := 0 }, { name := "result", type := (.object "java/lang/Object"), accessFlags := 18, slot := 1, constantValue := 0 }, { name := "failure", type := (.object "java/lang/Throwable"), accessFlags := 18, slot := 2, constantValue := 0 }, { name := "faultCode", type := (.object "java/lang/String"), accessFlags := 18, slot := 3, constantValue := 0 }, { name := "faultMessage", type := (.object "java/lang/String"), accessFlags := 18, slot := 4, constantValue := 0 }, { name := "sharedKey", type := (.object "java/lang/String"), accessFlags := 18, slot := 5, constantValue := 0 }, { name := "updates", type := (.object "java/util/Map"), accessFlags := 18, slot := 6, constantValue := 0 }, { name := "delay", type := (.object "java/time/Duration"), accessFlags := 18, slot := 7, constantValue := 0 }]
  methods := #[k9m0, k9m1, k9m2, k9m3, k9m4, k9m5, k9m6, k9m7]
  instanceTypes := #[(.object "com/example/layered_mocks/layeredmocks/Answer$Kind"), (.object "java/lang/Object"), (.object "java/lang/Throwable"), (.object "java/lang/String"), (.object "java/lang/String"), (.object "java/lang/String"), (.object "java/util/Map"), (.object "java/time/Duration")]
  staticTypes := #[(.object "com/example/layered_mocks/layeredmocks/Answer")]
  resolved := Array.replicate 315 none
  statics := none }

def pool10 : Array CpInfo := pool [(2, .class_ 4), (1, u "java/lang/Enum"), (0, u "name"), (0, u "Ljava/lang/String;"), (2, u "ordinal"), (0, u "I"), (1, .class_ 14), (1, u "java/lang/Object"), (4, u "hash"), (86, .class_ 108), (1, u "java/lang/Enum$EnumDesc"), (2, .class_ 112), (0, u "java/lang/constant/Constable"), (0, .class_ 114), (0, u "java/lang/Comparable"), (0, .class_ 116), (0, u "java/io/Serializable")] 87

/-- java/lang/Enum -/
def k10 : Class := { plain "java/lang/Enum" (some 0) with
  accessFlags := 1057
  interfaces := #[5, 4, 2]
  cf := some (fileOf pool10 2 #[.nestMembers #[106]] #[] 1057 12 #[111, 113, 115] #[{ accessFlags := 18, nameIndex := 5, descriptorIndex := 6, attributes := #[] }, { accessFlags := 18, nameIndex := 9, descriptorIndex := 10, attributes := #[] }, { accessFlags := 2, nameIndex := 19, descriptorIndex := 10, attributes := #[] }])
  fields := #[{ name := "name", type := (.object "java/lang/String"), accessFlags := 18, slot := 0, constantValue := 0 }, { name := "ordinal", type := .int, accessFlags := 18, slot := 1, constantValue := 0 }, { name := "hash", type := .int, accessFlags := 2, slot := 2, constantValue := 0 }]
  methods := #[]
  instanceTypes := #[(.object "java/lang/String"), .int, .int]
  staticTypes := #[]
  resolved := Array.replicate 204 none
  statics := none }

def pool11 : Array CpInfo := pool [(1, .class_ 2), (0, u "com/example/layered_mocks/layeredmocks/Answer$Kind"), (2, u "VALUE"), (0, u "Lcom/example/layered_mocks/layeredmocks/Answer$Kind;"), (2, u "ERROR"), (2, u "FAULT"), (2, u "NOTHING"), (2, u "BOUND"), (2, u "$VALUES"), (0, u "[Lcom/example/layered_mocks/layeredmocks/Answer$Kind;"), (6, .class_ 31), (1, u "java/lang/Enum"), (28, .class_ 61), (0, u "com/example/layered_mocks/layeredmocks/Answer")] 2

/-- com/example/layered_mocks/layeredmocks/Answer$Kind -/
def k11 : Class := { plain "com/example/layered_mocks/layeredmocks/Answer$Kind" (some 10) with
  accessFlags := 16432
  interfaces := #[]
  cf := some (fileOf pool11 1 #[.nestHost 60] #[] 16432 29 #[] #[{ accessFlags := 16409, nameIndex := 5, descriptorIndex := 6, attributes := #[] }, { accessFlags := 16409, nameIndex := 9, descriptorIndex := 6, attributes := #[] }, { accessFlags := 16409, nameIndex := 12, descriptorIndex := 6, attributes := #[] }, { accessFlags := 16409, nameIndex := 15, descriptorIndex := 6, attributes := #[] }, { accessFlags := 16409, nameIndex := 18, descriptorIndex := 6, attributes := #[] }, { accessFlags := 4122, nameIndex := 21, descriptorIndex := 22, attributes := #[] }])
  fields := #[{ name := "VALUE", type := (.object "com/example/layered_mocks/layeredmocks/Answer$Kind"), accessFlags := 16409, slot := 0, constantValue := 0 }, { name := "ERROR", type := (.object "com/example/layered_mocks/layeredmocks/Answer$Kind"), accessFlags := 16409, slot := 1, constantValue := 0 }, { name := "FAULT", type := (.object "com/example/layered_mocks/layeredmocks/Answer$Kind"), accessFlags := 16409, slot := 2, constantValue := 0 }, { name := "NOTHING", type := (.object "com/example/layered_mocks/layeredmocks/Answer$Kind"), accessFlags := 16409, slot := 3, constantValue := 0 }, { name := "BOUND", type := (.object "com/example/layered_mocks/layeredmocks/Answer$Kind"), accessFlags := 16409, slot := 4, constantValue := 0 }, { name := "$VALUES", type := (.array (.object "com/example/layered_mocks/layeredmocks/Answer$Kind")), accessFlags := 4122, slot := 5, constantValue := 0 }]
  methods := #[]
  instanceTypes := #[(.object "java/lang/String"), .int, .int]
  staticTypes := #[(.object "com/example/layered_mocks/layeredmocks/Answer$Kind"), (.object "com/example/layered_mocks/layeredmocks/Answer$Kind"), (.object "com/example/layered_mocks/layeredmocks/Answer$Kind"), (.object "com/example/layered_mocks/layeredmocks/Answer$Kind"), (.object "com/example/layered_mocks/layeredmocks/Answer$Kind"), (.array (.object "com/example/layered_mocks/layeredmocks/Answer$Kind"))]
  resolved := Array.replicate 64 none
  statics := some 1 }

def pool12 : Array CpInfo := pool [(2, .class_ 4), (1, u "java/util/Map"), (5, u "(Ljava/lang/Object;)Z"), (25, .class_ 37), (0, u "java/util/Map$Entry"), (34, u "equals"), (8, .fieldref 82 83), (0, .class_ 84), (0, .nameAndType 85 86), (0, u "java/util/ImmutableCollections"), (0, u "EMPTY_MAP"), (0, u "Ljava/util/ImmutableCollections$MapN;"), (6, .class_ 94), (0, u "java/lang/Object"), (13, u "of"), (0, u "()Ljava/util/Map;")] 153

def k12m0 : Method := { name := "equals", desc := "(Ljava/lang/Object;)Z", sig := { parameters := [(.object "java/lang/Object")], returnType := some .boolean }, accessFlags := 1025, code := none }
def k12c1 : Code := { maxStack := 1, maxLocals := 0, code := jdk_72_method_26_code, exceptionTable := #[], attributes := #[] }
def k12m1 : Method := { name := "of", desc := "()Ljava/util/Map;", sig := { parameters := [], returnType := some (.object "java/util/Map") }, accessFlags := 9, code := some k12c1 }
/-- java/util/Map -/
def k12 : Class := { plain "java/util/Map" (some 0) with
  accessFlags := 1537
  interfaces := #[]
  cf := some (fileOf pool12 2 #[.nestMembers #[36]] #[{ accessFlags := 1025, nameIndex := 72, descriptorIndex := 10, attributes := #[] }, { accessFlags := 9, nameIndex := 108, descriptorIndex := 109, attributes := #[] }] 1537 93 #[] #[])
  fields := #[]
  methods := #[k12m0, k12m1]
  instanceTypes := #[]
  staticTypes := #[]
  resolved := Array.replicate 263 none
  statics := none }

def pool13 : Array CpInfo := pool [(2, .class_ 4), (1, u "java/lang/Object"), (0, u "<init>"), (0, u "()V"), (3, .class_ 11), (0, u "java/util/ImmutableCollections$List12"), (0, .class_ 13), (0, u "java/util/ImmutableCollections$ListN"), (3, u "Z"), (29, .class_ 49), (1, u "java/util/ImmutableCollections"), (0, u "$assertionsDisabled"), (5, u "[Ljava/lang/Object;"), (5, u "EMPTY_LIST"), (0, u "Ljava/util/ImmutableCollections$ListN;"), (8, u "EMPTY_LIST_NULLS"), (22, u "SALT32L"), (0, u "J"), (2, u "REVERSE"), (6, u "archivedObjects"), (2, u "EMPTY"), (0, u "Ljava/lang/Object;"), (0, .class_ 112), (0, u "java/util/ImmutableCollections$SetN"), (5, u "EMPTY_SET"), (0, u "Ljava/util/ImmutableCollections$SetN;"), (0, .class_ 121), (0, u "java/util/ImmutableCollections$MapN"), (3, u "EMPTY_MAP"), (0, u "Ljava/util/ImmutableCollections$MapN;"), (4, u "EXPAND_FACTOR"), (0, u "I"), (36, .class_ 170), (0, u "java/util/ImmutableCollections$MapN$MapNIterator"), (0, .class_ 172), (0, u "java/util/ImmutableCollections$MapN$1"), (0, .class_ 174), (0, u "java/util/ImmutableCollections$Map1"), (0, .class_ 176), (0, u "java/util/ImmutableCollections$AbstractImmutableMap"), (0, .class_ 178), (0, u "java/util/ImmutableCollections$SetN$SetNIterator"), (0, .class_ 180), (0, u "java/util/ImmutableCollections$Set12"), (0, .class_ 182), (0, u "java/util/ImmutableCollections$Set12$1"), (0, .class_ 184), (0, u "java/util/ImmutableCollections$AbstractImmutableSet"), (0, .class_ 186), (0, u "java/util/ImmutableCollections$SubList"), (0, .class_ 188), (0, u "java/util/ImmutableCollections$ListItr"), (0, .class_ 190), (0, u "java/util/ImmutableCollections$AbstractImmutableList"), (0, .class_ 192), (0, u "java/util/ImmutableCollections$AbstractImmutableCollection"), (0, .class_ 194), (0, u "java/util/ImmutableCollections$Access"), (0, .class_ 196), (0, u "java/util/ImmutableCollections$Access$1")] 16

def k13m0 : Method := { name := "<init>", desc := "()V", sig := { parameters := [], returnType := none }, accessFlags := 2, code := none }
/-- java/util/ImmutableCollections -/
def k13 : Class := { plain "java/util/ImmutableCollections" (some 0) with
  accessFlags := 32
  interfaces := #[]
  cf := some (fileOf pool13 47 #[.nestMembers #[120, 169, 171, 173, 175, 111, 177, 179, 181, 183, 12, 10, 185, 187, 189, 191, 193, 195]] #[{ accessFlags := 2, nameIndex := 5, descriptorIndex := 6, attributes := #[] }] 32 2 #[] #[{ accessFlags := 26, nameIndex := 95, descriptorIndex := 96, attributes := #[] }, { accessFlags := 26, nameIndex := 99, descriptorIndex := 17, attributes := #[] }, { accessFlags := 10, nameIndex := 106, descriptorIndex := 56, attributes := #[] }, { accessFlags := 26, nameIndex := 109, descriptorIndex := 110, attributes := #[] }, { accessFlags := 24, nameIndex := 62, descriptorIndex := 63, attributes := #[] }, { accessFlags := 24, nameIndex := 72, descriptorIndex := 63, attributes := #[] }, { accessFlags := 24, nameIndex := 118, descriptorIndex := 119, attributes := #[] }, { accessFlags := 24, nameIndex := 125, descriptorIndex := 126, attributes := #[] }, { accessFlags := 24, nameIndex := 131, descriptorIndex := 132, attributes := #[] }, { accessFlags := 4120, nameIndex := 50, descriptorIndex := 17, attributes := #[] }])
  fields := #[{ name := "SALT32L", type := .long, accessFlags := 26, slot := 0, constantValue := 0 }, { name := "REVERSE", type := .boolean, accessFlags := 26, slot := 1, constantValue := 0 }, { name := "archivedObjects", type := (.array (.object "java/lang/Object")), accessFlags := 10, slot := 2, constantValue := 0 }, { name := "EMPTY", type := (.object "java/lang/Object"), accessFlags := 26, slot := 3, constantValue := 0 }, { name := "EMPTY_LIST", type := (.object "java/util/ImmutableCollections$ListN"), accessFlags := 24, slot := 4, constantValue := 0 }, { name := "EMPTY_LIST_NULLS", type := (.object "java/util/ImmutableCollections$ListN"), accessFlags := 24, slot := 5, constantValue := 0 }, { name := "EMPTY_SET", type := (.object "java/util/ImmutableCollections$SetN"), accessFlags := 24, slot := 6, constantValue := 0 }, { name := "EMPTY_MAP", type := (.object "java/util/ImmutableCollections$MapN"), accessFlags := 24, slot := 7, constantValue := 0 }, { name := "EXPAND_FACTOR", type := .int, accessFlags := 24, slot := 8, constantValue := 0 }, { name := "$assertionsDisabled", type := .boolean, accessFlags := 4120, slot := 9, constantValue := 0 }]
  methods := #[k13m0]
  instanceTypes := #[]
  staticTypes := #[.long, .boolean, (.array (.object "java/lang/Object")), (.object "java/lang/Object"), (.object "java/util/ImmutableCollections$ListN"), (.object "java/util/ImmutableCollections$ListN"), (.object "java/util/ImmutableCollections$SetN"), (.object "java/util/ImmutableCollections$MapN"), .int, .boolean]
  resolved := Array.replicate 213 none
  statics := some 2 }

def pool14 : Array CpInfo := pool [(2, .class_ 4), (1, u "java/lang/Object"), (0, u "<init>"), (0, u "()V"), (7, .methodref 2 15), (0, .nameAndType 16 17), (0, u "equals"), (0, u "(Ljava/lang/Object;)Z"), (5, u "(Ljava/lang/Object;Ljava/lang/Object;)Z"), (18, .class_ 44), (1, u "java/util/Objects")] 139

def k14m0 : Method := { name := "<init>", desc := "()V", sig := { parameters := [], returnType := none }, accessFlags := 2, code := none }
def k14c1 : Code := { maxStack := 2, maxLocals := 2, code := jdk_31_method_2_code, exceptionTable := #[], attributes := #[] }
def k14m1 : Method := { name := "equals", desc := "(Ljava/lang/Object;Ljava/lang/Object;)Z", sig := { parameters := [(.object "java/lang/Object"), (.object "java/lang/Object")], returnType := some .boolean }, accessFlags := 9, code := some k14c1 }
/-- java/util/Objects -/
def k14 : Class := { plain "java/util/Objects" (some 0) with
  accessFlags := 49
  interfaces := #[]
  cf := some (fileOf pool14 42 #[] #[{ accessFlags := 2, nameIndex := 5, descriptorIndex := 6, attributes := #[] }, { accessFlags := 9, nameIndex := 16, descriptorIndex := 23, attributes := #[] }] 49 2 #[] #[])
  fields := #[]
  methods := #[k14m0, k14m1]
  instanceTypes := #[]
  staticTypes := #[]
  resolved := Array.replicate 184 none
  statics := none }

def pool15 : Array CpInfo := pool [(1, .class_ 2), (0, u "java/lang/Long"), (55, .nameAndType 59 60), (0, u "<init>"), (0, u "()V"), (24, u "valueOf"), (143, u "(J)Ljava/lang/Long;"), (0, .long 18446744073709551488), (1, .long 127), (1, .fieldref 235 236), (0, .class_ 237), (0, .nameAndType 238 239), (0, u "java/lang/Long$LongCache"), (0, u "cache"), (0, u "[Ljava/lang/Long;"), (0, .methodref 1 241), (0, .nameAndType 59 242), (0, u "(J)V"), (27, .methodref 271 58), (0, .class_ 272), (0, u "java/lang/Number"), (0, .fieldref 1 274), (0, .nameAndType 275 276), (0, u "value"), (0, u "J"), (84, u "TYPE"), (0, u "Ljava/lang/Class;"), (0, .class_ 364), (0, u "java/lang/Comparable"), (0, .class_ 366), (0, u "java/lang/constant/Constable"), (0, .class_ 368), (0, u "java/lang/constant/ConstantDesc"), (0, u "MIN_VALUE"), (1, u "MAX_VALUE"), (4, u "SIZE"), (0, u "I"), (1, u "BYTES"), (1, u "serialVersionUID"), (77, u "equals"), (0, u "(Ljava/lang/Object;)Z")] 63

def k15c0 : Code := { maxStack := 4, maxLocals := 3, code := jdk_35_method_24_code, exceptionTable := #[], attributes := #[] }
def k15m0 : Method := { name := "valueOf", desc := "(J)Ljava/lang/Long;", sig := { parameters := [.long], returnType := some (.object "java/lang/Long") }, accessFlags := 9, code := some k15c0 }
def k15c1 : Code := { maxStack := 3, maxLocals := 3, code := jdk_35_method_26_code, exceptionTable := #[], attributes := #[] }
def k15m1 : Method := { name := "<init>", desc := "(J)V", sig := { parameters := [.long], returnType := none }, accessFlags := 1, code := some k15c1 }
def k15c2 : Code := { maxStack := 4, maxLocals := 2, code := jdk_35_method_37_code, exceptionTable := #[], attributes := #[] }
def k15m2 : Method := { name := "equals", desc := "(Ljava/lang/Object;)Z", sig := { parameters := [(.object "java/lang/Object")], returnType := some .boolean }, accessFlags := 1, code := some k15c2 }
/-- java/lang/Long -/
def k15 : Class := { plain "java/lang/Long" (some 3) with
  accessFlags := 49
  interfaces := #[4, 5, 6]
  cf := some (fileOf pool15 1 #[.nestMembers #[235]] #[{ accessFlags := 9, nameIndex := 85, descriptorIndex := 229, attributes := #[] }, { accessFlags := 1, nameIndex := 59, descriptorIndex := 242, attributes := #[] }, { accessFlags := 1, nameIndex := 459, descriptorIndex := 460, attributes := #[] }] 49 271 #[363, 365, 367] #[{ accessFlags := 25, nameIndex := 369, descriptorIndex := 276, attributes := #[] }, { accessFlags := 25, nameIndex := 371, descriptorIndex := 276, attributes := #[] }, { accessFlags := 25, nameIndex := 361, descriptorIndex := 362, attributes := #[] }, { accessFlags := 18, nameIndex := 275, descriptorIndex := 276, attributes := #[] }, { accessFlags := 25, nameIndex := 376, descriptorIndex := 377, attributes := #[] }, { accessFlags := 25, nameIndex := 379, descriptorIndex := 377, attributes := #[] }, { accessFlags := 26, nameIndex := 381, descriptorIndex := 276, attributes := #[] }])
  fields := #[{ name := "MIN_VALUE", type := .long, accessFlags := 25, slot := 0, constantValue := 0 }, { name := "MAX_VALUE", type := .long, accessFlags := 25, slot := 1, constantValue := 0 }, { name := "TYPE", type := (.object "java/lang/Class"), accessFlags := 25, slot := 2, constantValue := 0 }, { name := "value", type := .long, accessFlags := 18, slot := 0, constantValue := 0 }, { name := "SIZE", type := .int, accessFlags := 25, slot := 3, constantValue := 0 }, { name := "BYTES", type := .int, accessFlags := 25, slot := 4, constantValue := 0 }, { name := "serialVersionUID", type := .long, accessFlags := 26, slot := 5, constantValue := 0 }]
  methods := #[k15m0, k15m1, k15m2]
  instanceTypes := #[.long]
  staticTypes := #[.long, .long, (.object "java/lang/Class"), .int, .int, .long]
  resolved := Array.replicate 524 none
  statics := none }

def pool16 : Array CpInfo := pool [(2, .class_ 4), (1, u "java/lang/CharSequence"), (42, .class_ 48), (0, u "java/lang/CharSequence$1CodePointIterator"), (10, .class_ 60), (0, u "java/lang/CharSequence$1CharIterator"), (5, .class_ 67), (0, u "java/lang/Object")] 63

/-- java/lang/CharSequence -/
def k16 : Class := { plain "java/lang/CharSequence" (some 0) with
  accessFlags := 1537
  interfaces := #[]
  cf := some (fileOf pool16 2 #[.nestMembers #[47, 59]] #[] 1537 66 #[] #[])
  fields := #[]
  methods := #[]
  instanceTypes := #[]
  staticTypes := #[]
  resolved := Array.replicate 131 none
  statics := none }

def pool17 : Array CpInfo := pool [(1, .methodref 2 3), (0, .class_ 4), (0, .nameAndType 5 6), (0, u "java/lang/Object"), (0, u "<init>"), (0, u "()V"), (2, .fieldref 10 11), (0, .class_ 12), (0, .nameAndType 13 14), (0, u "java/lang/String"), (0, u "value"), (0, u "[B"), (0, .fieldref 10 16), (0, .nameAndType 17 18), (0, u "coder"), (0, u "B"), (2, u "hash"), (0, u "I"), (2, u "hashIsZero"), (0, u "Z"), (0, .methodref 10 28), (0, .nameAndType 5 29), (0, u "([CIILjava/lang/Void;)V"), (8, .fieldref 10 39), (0, .nameAndType 40 26), (0, u "COMPACT_STRINGS"), (1, .class_ 44), (1, u "java/lang/StringUTF16"), (0, u "compress"), (1, .methodref 42 48), (0, .nameAndType 49 50), (0, u "coderFromArrayLen"), (0, u "([BI)B"), (126, .methodref 42 178), (0, .nameAndType 45 179), (0, u "([CII)[B"), (363, u "equals"), (29, u "(Ljava/lang/Object;)Z"), (1, .class_ 576), (0, u "java/lang/CharSequence"), (22, u "CASE_INSENSITIVE_ORDER"), (0, u "Ljava/util/Comparator;"), (409, u "([C)V"), (90, u "serialPersistentFields"), (0, u "[Ljava/io/ObjectStreamField;"), (0, .class_ 1104), (0, u "java/lang/String$CaseInsensitiveComparator"), (1, .class_ 1107), (0, u "java/io/Serializable"), (0, .class_ 1109), (0, u "java/lang/Comparable"), (0, .class_ 1111), (0, u "java/lang/constant/Constable"), (0, .class_ 1113), (0, u "java/lang/constant/ConstantDesc"), (2, u "serialVersionUID"), (0, u "J"), (3, u "REPL"), (0, u "C"), (2, u "LATIN1"), (1, u "UTF16")] 323

def k17m0 : Method := { name := "<init>", desc := "()V", sig := { parameters := [], returnType := none }, accessFlags := 1, code := none }
def k17c1 : Code := { maxStack := 5, maxLocals := 2, code := jdk_42_method_3_code, exceptionTable := #[], attributes := #[] }
def k17m1 : Method := { name := "<init>", desc := "([C)V", sig := { parameters := [(.array .char)], returnType := none }, accessFlags := 1, code := some k17c1 }
def k17c2 : Code := { maxStack := 2, maxLocals := 3, code := jdk_42_method_66_code, exceptionTable := #[], attributes := #[] }
def k17m2 : Method := { name := "equals", desc := "(Ljava/lang/Object;)Z", sig := { parameters := [(.object "java/lang/Object")], returnType := some .boolean }, accessFlags := 1, code := some k17c2 }
def k17c3 : Code := { maxStack := 4, maxLocals := 6, code := jdk_42_method_149_code, exceptionTable := #[], attributes := #[] }
def k17m3 : Method := { name := "<init>", desc := "([CIILjava/lang/Void;)V", sig := { parameters := [(.array .char), .int, .int, (.object "java/lang/Void")], returnType := none }, accessFlags := 2, code := some k17c3 }
/-- java/lang/String -/
def k17 : Class := { plain "java/lang/String" (some 0) with
  accessFlags := 49
  interfaces := #[2, 4, 16, 5, 6]
  cf := some (fileOf pool17 10 #[.nestMembers #[1103]] #[{ accessFlags := 1, nameIndex := 5, descriptorIndex := 6, attributes := #[] }, { accessFlags := 1, nameIndex := 5, descriptorIndex := 1010, attributes := #[] }, { accessFlags := 1, nameIndex := 543, descriptorIndex := 573, attributes := #[] }, { accessFlags := 2, nameIndex := 5, descriptorIndex := 29, attributes := #[] }] 49 2 #[1106, 1108, 575, 1110, 1112] #[{ accessFlags := 18, nameIndex := 13, descriptorIndex := 14, attributes := #[] }, { accessFlags := 18, nameIndex := 17, descriptorIndex := 18, attributes := #[] }, { accessFlags := 2, nameIndex := 21, descriptorIndex := 22, attributes := #[] }, { accessFlags := 2, nameIndex := 25, descriptorIndex := 26, attributes := #[] }, { accessFlags := 26, nameIndex := 1116, descriptorIndex := 1117, attributes := #[] }, { accessFlags := 24, nameIndex := 40, descriptorIndex := 26, attributes := #[] }, { accessFlags := 26, nameIndex := 1101, descriptorIndex := 1102, attributes := #[] }, { accessFlags := 26, nameIndex := 1121, descriptorIndex := 1122, attributes := #[] }, { accessFlags := 25, nameIndex := 599, descriptorIndex := 600, attributes := #[] }, { accessFlags := 24, nameIndex := 1125, descriptorIndex := 18, attributes := #[] }, { accessFlags := 24, nameIndex := 1127, descriptorIndex := 18, attributes := #[] }])
  fields := #[{ name := "value", type := (.array .byte), accessFlags := 18, slot := 0, constantValue := 0 }, { name := "coder", type := .byte, accessFlags := 18, slot := 1, constantValue := 0 }, { name := "hash", type := .int, accessFlags := 2, slot := 2, constantValue := 0 }, { name := "hashIsZero", type := .boolean, accessFlags := 2, slot := 3, constantValue := 0 }, { name := "serialVersionUID", type := .long, accessFlags := 26, slot := 0, constantValue := 0 }, { name := "COMPACT_STRINGS", type := .boolean, accessFlags := 24, slot := 1, constantValue := 0 }, { name := "serialPersistentFields", type := (.array (.object "java/io/ObjectStreamField")), accessFlags := 26, slot := 2, constantValue := 0 }, { name := "REPL", type := .char, accessFlags := 26, slot := 3, constantValue := 0 }, { name := "CASE_INSENSITIVE_ORDER", type := (.object "java/util/Comparator"), accessFlags := 25, slot := 4, constantValue := 0 }, { name := "LATIN1", type := .byte, accessFlags := 24, slot := 5, constantValue := 0 }, { name := "UTF16", type := .byte, accessFlags := 24, slot := 6, constantValue := 0 }]
  methods := #[k17m0, k17m1, k17m2, k17m3]
  instanceTypes := #[(.array .byte), .byte, .int, .boolean]
  staticTypes := #[.long, .boolean, (.array (.object "java/io/ObjectStreamField")), .char, (.object "java/util/Comparator"), .byte, .byte]
  resolved := Array.replicate 1451 none
  statics := some 3 }

def pool18 : Array CpInfo := pool [(6, .class_ 8), (1, u "java/lang/Object"), (0, u "<init>"), (0, u "()V"), (1, .class_ 14), (1, u "java/lang/StringUTF16"), (31, u "$assertionsDisabled"), (0, u "Z"), (13, u "HI_BYTE_SHIFT"), (0, u "I"), (2, u "LO_BYTE_SHIFT"), (49, .methodref 12 116), (0, .nameAndType 117 118), (0, u "compress"), (0, u "([CI[BII)I"), (3, u "([CII)[B"), (138, u "coderFromArrayLen"), (0, u "([BI)B"), (106, .class_ 371), (1, u "java/lang/StringUTF16$LinesSpliterator"), (58, u "MAX_LENGTH"), (196, .class_ 628), (0, u "java/lang/StringUTF16$CodePointsSpliterator"), (0, .class_ 630), (0, u "java/lang/StringUTF16$CharsSpliterator")] 4

def k18m0 : Method := { name := "<init>", desc := "()V", sig := { parameters := [], returnType := none }, accessFlags := 0, code := none }
def k18c1 : Code := { maxStack := 2, maxLocals := 2, code := jdk_52_method_15_code, exceptionTable := #[], attributes := #[] }
def k18m1 : Method := { name := "coderFromArrayLen", desc := "([BI)B", sig := { parameters := [(.array .byte), .int], returnType := some .byte }, accessFlags := 8, code := some k18c1 }
def k18c2 : Code := { maxStack := 5, maxLocals := 6, code := jdk_52_method_16_code, exceptionTable := #[], attributes := #[] }
def k18m2 : Method := { name := "compress", desc := "([CII)[B", sig := { parameters := [(.array .char), .int, .int], returnType := some (.array .byte) }, accessFlags := 9, code := some k18c2 }
def k18c3 : Code := { maxStack := 3, maxLocals := 7, code := jdk_52_method_21_code, exceptionTable := #[], attributes := #[] }
def k18m3 : Method := { name := "compress", desc := "([CI[BII)I", sig := { parameters := [(.array .char), .int, (.array .byte), .int, .int], returnType := some .int }, accessFlags := 9, code := some k18c3 }
/-- java/lang/StringUTF16 -/
def k18 : Class := { plain "java/lang/StringUTF16" (some 0) with
  accessFlags := 48
  interfaces := #[]
  cf := some (fileOf pool18 12 #[.nestMembers #[627, 629, 369]] #[{ accessFlags := 0, nameIndex := 9, descriptorIndex := 10, attributes := #[] }, { accessFlags := 8, nameIndex := 261, descriptorIndex := 262, attributes := #[] }, { accessFlags := 9, nameIndex := 117, descriptorIndex := 122, attributes := #[] }, { accessFlags := 9, nameIndex := 117, descriptorIndex := 118, attributes := #[] }] 48 6 #[] #[{ accessFlags := 26, nameIndex := 61, descriptorIndex := 62, attributes := #[] }, { accessFlags := 26, nameIndex := 65, descriptorIndex := 62, attributes := #[] }, { accessFlags := 24, nameIndex := 430, descriptorIndex := 62, attributes := #[] }, { accessFlags := 4120, nameIndex := 46, descriptorIndex := 47, attributes := #[] }])
  fields := #[{ name := "HI_BYTE_SHIFT", type := .int, accessFlags := 26, slot := 0, constantValue := 0 }, { name := "LO_BYTE_SHIFT", type := .int, accessFlags := 26, slot := 1, constantValue := 0 }, { name := "MAX_LENGTH", type := .int, accessFlags := 24, slot := 2, constantValue := 0 }, { name := "$assertionsDisabled", type := .boolean, accessFlags := 4120, slot := 3, constantValue := 0 }]
  methods := #[k18m0, k18m1, k18m2, k18m3]
  instanceTypes := #[]
  staticTypes := #[.int, .int, .int, .boolean]
  resolved := Array.replicate 635 none
  statics := none }

def pool19 : Array CpInfo := pool [(2, .class_ 4), (1, u "java/lang/Object"), (0, u "<init>"), (0, u "()V"), (0, .class_ 8), (0, u "java/lang/Long"), (7, .class_ 18), (1, u "java/lang/Long$LongCache"), (0, u "$assertionsDisabled"), (0, u "Z"), (8, u "archivedCache"), (0, u "[Ljava/lang/Long;"), (7, u "cache")] 24

def k19m0 : Method := { name := "<init>", desc := "()V", sig := { parameters := [], returnType := none }, accessFlags := 2, code := none }
/-- java/lang/Long$LongCache -/
def k19 : Class := { plain "java/lang/Long$LongCache" (some 0) with
  accessFlags := 48
  interfaces := #[]
  cf := some (fileOf pool19 16 #[.nestHost 7] #[{ accessFlags := 2, nameIndex := 5, descriptorIndex := 6, attributes := #[] }] 48 2 #[] #[{ accessFlags := 24, nameIndex := 38, descriptorIndex := 30, attributes := #[] }, { accessFlags := 8, nameIndex := 29, descriptorIndex := 30, attributes := #[] }, { accessFlags := 4120, nameIndex := 19, descriptorIndex := 20, attributes := #[] }])
  fields := #[{ name := "cache", type := (.array (.object "java/lang/Long")), accessFlags := 24, slot := 0, constantValue := 0 }, { name := "archivedCache", type := (.array (.object "java/lang/Long")), accessFlags := 8, slot := 1, constantValue := 0 }, { name := "$assertionsDisabled", type := .boolean, accessFlags := 4120, slot := 2, constantValue := 0 }]
  methods := #[k19m0]
  instanceTypes := #[]
  staticTypes := #[(.array (.object "java/lang/Long")), (.array (.object "java/lang/Long")), .boolean]
  resolved := Array.replicate 63 none
  statics := some 4 }

def pool20 : Array CpInfo := pool [(2, .class_ 4), (1, u "java/lang/Object"), (0, u "<init>"), (0, u "()V"), (1, .class_ 10), (1, u "java/util/AbstractMap"), (30, u "equals"), (0, u "(Ljava/lang/Object;)Z"), (10, .class_ 54), (0, u "java/util/Map"), (9, u "keySet"), (0, u "Ljava/util/Set;"), (0, .class_ 67), (0, u "java/util/AbstractMap$1"), (5, u "values"), (0, u "Ljava/util/Collection;"), (0, .class_ 76), (0, u "java/util/AbstractMap$2"), (104, .class_ 182), (0, u "java/util/AbstractMap$ViewCollection"), (0, .class_ 184), (0, u "java/util/AbstractMap$SimpleImmutableEntry"), (0, .class_ 186), (0, u "java/util/AbstractMap$SimpleEntry"), (0, .class_ 188), (0, u "java/util/AbstractMap$2$1"), (0, .class_ 190), (0, u "java/util/AbstractMap$1$1")] 5

def k20m0 : Method := { name := "<init>", desc := "()V", sig := { parameters := [], returnType := none }, accessFlags := 4, code := none }
def k20c1 : Code := { maxStack := 3, maxLocals := 7, code := jdk_71_method_14_code, exceptionTable := #[{ startPc := 39, endPc := 115, handlerPc := 140, catchType := 86 }, { startPc := 39, endPc := 115, handlerPc := 140, catchType := 88 }, { startPc := 116, endPc := 133, handlerPc := 140, catchType := 86 }, { startPc := 116, endPc := 133, handlerPc := 140, catchType := 88 }, { startPc := 134, endPc := 137, handlerPc := 140, catchType := 86 }, { startPc := 134, endPc := 137, handlerPc := 140, catchType := 88 }], attributes := #[] }
def k20m1 : Method := { name := "equals", desc := "(Ljava/lang/Object;)Z", sig := { parameters := [(.object "java/lang/Object")], returnType := some .boolean }, accessFlags := 1, code := some k20c1 }
/-- java/util/AbstractMap -/
def k20 : Class := { plain "java/util/AbstractMap" (some 0) with
  accessFlags := 1057
  interfaces := #[12]
  cf := some (fileOf pool20 8 #[.nestMembers #[181, 183, 185, 75, 187, 66, 189]] #[{ accessFlags := 4, nameIndex := 5, descriptorIndex := 6, attributes := #[] }, { accessFlags := 1, nameIndex := 41, descriptorIndex := 42, attributes := #[] }] 1057 2 #[53] #[{ accessFlags := 128, nameIndex := 64, descriptorIndex := 65, attributes := #[] }, { accessFlags := 128, nameIndex := 73, descriptorIndex := 74, attributes := #[] }])
  fields := #[{ name := "keySet", type := (.object "java/util/Set"), accessFlags := 128, slot := 0, constantValue := 0 }, { name := "values", type := (.object "java/util/Collection"), accessFlags := 128, slot := 1, constantValue := 0 }]
  methods := #[k20m0, k20m1]
  instanceTypes := #[(.object "java/util/Set"), (.object "java/util/Collection")]
  staticTypes := #[]
  resolved := Array.replicate 196 none
  statics := none }

def pool21 : Array CpInfo := pool [(2, .class_ 4), (1, u "java/util/AbstractMap"), (0, u "<init>"), (0, u "()V"), (1, .class_ 10), (1, u "java/util/ImmutableCollections"), (3, .class_ 16), (1, u "java/util/ImmutableCollections$AbstractImmutableMap"), (2, .class_ 20), (0, u "java/io/Serializable")] 66

def k21m0 : Method := { name := "<init>", desc := "()V", sig := { parameters := [], returnType := none }, accessFlags := 0, code := none }
/-- java/util/ImmutableCollections$AbstractImmutableMap -/
def k21 : Class := { plain "java/util/ImmutableCollections$AbstractImmutableMap" (some 20) with
  accessFlags := 1056
  interfaces := #[2]
  cf := some (fileOf pool21 14 #[.nestHost 8] #[{ accessFlags := 0, nameIndex := 5, descriptorIndex := 6, attributes := #[] }] 1056 2 #[19] #[])
  fields := #[]
  methods := #[k21m0]
  instanceTypes := #[(.object "java/util/Set"), (.object "java/util/Collection")]
  staticTypes := #[]
  resolved := Array.replicate 87 none
  statics := none }

def pool22 : Array CpInfo := pool [(1, .class_ 2), (0, u "java/util/ImmutableCollections"), (1, .class_ 6), (1, u "java/util/ImmutableCollections$AbstractImmutableMap"), (10, .class_ 19), (1, u "java/util/ImmutableCollections$MapN"), (0, u "size"), (0, u "I"), (4, u "table"), (0, u "[Ljava/lang/Object;")] 121

/-- java/util/ImmutableCollections$MapN -/
def k22 : Class := { plain "java/util/ImmutableCollections$MapN" (some 21) with
  accessFlags := 48
  interfaces := #[]
  cf := some (fileOf pool22 17 #[.nestHost 1] #[] 48 4 #[] #[{ accessFlags := 16, nameIndex := 26, descriptorIndex := 27, attributes := #[] }, { accessFlags := 16, nameIndex := 20, descriptorIndex := 21, attributes := #[] }])
  fields := #[{ name := "table", type := (.array (.object "java/lang/Object")), accessFlags := 16, slot := 2, constantValue := 0 }, { name := "size", type := .int, accessFlags := 16, slot := 3, constantValue := 0 }]
  methods := #[]
  instanceTypes := #[(.object "java/util/Set"), (.object "java/util/Collection"), (.array (.object "java/lang/Object")), .int]
  staticTypes := #[]
  resolved := Array.replicate 149 none
  statics := none }

def pool23 : Array CpInfo := pool [(4, .class_ 6), (1, u "java/lang/Object"), (0, u "<init>"), (0, u "()V"), (5, .class_ 16), (1, u "java/lang/StringLatin1"), (104, u "$assertionsDisabled"), (0, u "Z"), (98, .class_ 223), (1, u "java/lang/StringLatin1$LinesSpliterator"), (166, .class_ 391), (0, u "java/lang/StringLatin1$CharsSpliterator")] 3

def k23m0 : Method := { name := "<init>", desc := "()V", sig := { parameters := [], returnType := none }, accessFlags := 0, code := none }
/-- java/lang/StringLatin1 -/
def k23 : Class := { plain "java/lang/StringLatin1" (some 0) with
  accessFlags := 48
  interfaces := #[]
  cf := some (fileOf pool23 14 #[.nestMembers #[390, 221]] #[{ accessFlags := 0, nameIndex := 7, descriptorIndex := 8, attributes := #[] }] 48 4 #[] #[{ accessFlags := 4120, nameIndex := 121, descriptorIndex := 122, attributes := #[] }])
  fields := #[{ name := "$assertionsDisabled", type := .boolean, accessFlags := 4120, slot := 0, constantValue := 0 }]
  methods := #[k23m0]
  instanceTypes := #[]
  staticTypes := #[.boolean]
  resolved := Array.replicate 395 none
  statics := none }

def pool24 : Array CpInfo := pool [(2, .class_ 4), (1, u "java/lang/Object"), (0, u "<init>"), (0, u "()V"), (17, .class_ 26), (1, u "jdk/internal/util/Preconditions"), (28, .class_ 56), (0, u "jdk/internal/util/Preconditions$4"), (57, .class_ 115), (0, u "jdk/internal/util/Preconditions$1"), (7, u "SIOOBE_FORMATTER"), (0, u "Ljava/util/function/BiFunction;"), (0, .class_ 126), (0, u "jdk/internal/util/Preconditions$2"), (3, u "AIOOBE_FORMATTER"), (0, .class_ 132), (0, u "jdk/internal/util/Preconditions$3"), (3, u "IOOBE_FORMATTER")] 57

def k24m0 : Method := { name := "<init>", desc := "()V", sig := { parameters := [], returnType := none }, accessFlags := 1, code := none }
/-- jdk/internal/util/Preconditions -/
def k24 : Class := { plain "jdk/internal/util/Preconditions" (some 0) with
  accessFlags := 33
  interfaces := #[]
  cf := some (fileOf pool24 24 #[.nestMembers #[55, 131, 125, 114]] #[{ accessFlags := 1, nameIndex := 5, descriptorIndex := 6, attributes := #[] }] 33 2 #[] #[{ accessFlags := 25, nameIndex := 123, descriptorIndex := 124, attributes := #[] }, { accessFlags := 25, nameIndex := 130, descriptorIndex := 124, attributes := #[] }, { accessFlags := 25, nameIndex := 136, descriptorIndex := 124, attributes := #[] }])
  fields := #[{ name := "SIOOBE_FORMATTER", type := (.object "java/util/function/BiFunction"), accessFlags := 25, slot := 0, constantValue := 0 }, { name := "AIOOBE_FORMATTER", type := (.object "java/util/function/BiFunction"), accessFlags := 25, slot := 1, constantValue := 0 }, { name := "IOOBE_FORMATTER", type := (.object "java/util/function/BiFunction"), accessFlags := 25, slot := 2, constantValue := 0 }]
  methods := #[k24m0]
  instanceTypes := #[]
  staticTypes := #[(.object "java/util/function/BiFunction"), (.object "java/util/function/BiFunction"), (.object "java/util/function/BiFunction")]
  resolved := Array.replicate 194 none
  statics := some 5 }

def pool25 : Array CpInfo := pool [(9, u "<init>"), (6, .class_ 18), (1, u "java/lang/Object"), (0, u "()V"), (1, .class_ 23), (1, u "jdk/internal/util/ArraysSupport"), (0, u "LOG2_ARRAY_LONG_INDEX_SCALE"), (0, u "I"), (2, u "U"), (0, u "Ljdk/internal/misc/Unsafe;"), (8, u "BIG_ENDIAN"), (0, u "Z"), (8, u "LOG2_BYTE_BIT_SIZE"), (4, u "LOG2_ARRAY_INT_INDEX_SCALE"), (54, u "JLA"), (0, u "Ljdk/internal/access/JavaLangAccess;"), (11, u "LOG2_ARRAY_BOOLEAN_INDEX_SCALE"), (9, u "LOG2_ARRAY_BYTE_INDEX_SCALE"), (5, u "LOG2_ARRAY_CHAR_INDEX_SCALE"), (5, u "LOG2_ARRAY_SHORT_INDEX_SCALE"), (18, u "LOG2_ARRAY_FLOAT_INDEX_SCALE"), (24, u "LOG2_ARRAY_DOUBLE_INDEX_SCALE"), (89, u "T_BOOLEAN"), (2, u "T_CHAR"), (1, u "T_FLOAT"), (1, u "T_DOUBLE"), (1, u "T_BYTE"), (1, u "T_SHORT"), (1, u "T_INT"), (1, u "T_LONG"), (1, u "SOFT_MAX_ARRAY_LENGTH")] 83

def k25m0 : Method := { name := "<init>", desc := "()V", sig := { parameters := [], returnType := none }, accessFlags := 2, code := none }
/-- jdk/internal/util/ArraysSupport -/
def k25 : Class := { plain "jdk/internal/util/ArraysSupport" (some 0) with
  accessFlags := 33
  interfaces := #[]
  cf := some (fileOf pool25 21 #[] #[{ accessFlags := 2, nameIndex := 9, descriptorIndex := 19, attributes := #[] }] 33 16 #[] #[{ accessFlags := 24, nameIndex := 28, descriptorIndex := 29, attributes := #[] }, { accessFlags := 26, nameIndex := 38, descriptorIndex := 39, attributes := #[] }, { accessFlags := 25, nameIndex := 121, descriptorIndex := 25, attributes := #[] }, { accessFlags := 25, nameIndex := 131, descriptorIndex := 25, attributes := #[] }, { accessFlags := 25, nameIndex := 137, descriptorIndex := 25, attributes := #[] }, { accessFlags := 25, nameIndex := 143, descriptorIndex := 25, attributes := #[] }, { accessFlags := 25, nameIndex := 53, descriptorIndex := 25, attributes := #[] }, { accessFlags := 25, nameIndex := 24, descriptorIndex := 25, attributes := #[] }, { accessFlags := 25, nameIndex := 162, descriptorIndex := 25, attributes := #[] }, { accessFlags := 25, nameIndex := 187, descriptorIndex := 25, attributes := #[] }, { accessFlags := 26, nameIndex := 48, descriptorIndex := 25, attributes := #[] }, { accessFlags := 25, nameIndex := 277, descriptorIndex := 25, attributes := #[] }, { accessFlags := 25, nameIndex := 280, descriptorIndex := 25, attributes := #[] }, { accessFlags := 25, nameIndex := 282, descriptorIndex := 25, attributes := #[] }, { accessFlags := 25, nameIndex := 284, descriptorIndex := 25, attributes := #[] }, { accessFlags := 25, nameIndex := 286, descriptorIndex := 25, attributes := #[] }, { accessFlags := 25, nameIndex := 288, descriptorIndex := 25, attributes := #[] }, { accessFlags := 25, nameIndex := 290, descriptorIndex := 25, attributes := #[] }, { accessFlags := 25, nameIndex := 292, descriptorIndex := 25, attributes := #[] }, { accessFlags := 26, nameIndex := 108, descriptorIndex := 109, attributes := #[] }, { accessFlags := 25, nameIndex := 294, descriptorIndex := 25, attributes := #[] }])
  fields := #[{ name := "U", type := (.object "jdk/internal/misc/Unsafe"), accessFlags := 24, slot := 0, constantValue := 0 }, { name := "BIG_ENDIAN", type := .boolean, accessFlags := 26, slot := 1, constantValue := 0 }, { name := "LOG2_ARRAY_BOOLEAN_INDEX_SCALE", type := .int, accessFlags := 25, slot := 2, constantValue := 0 }, { name := "LOG2_ARRAY_BYTE_INDEX_SCALE", type := .int, accessFlags := 25, slot := 3, constantValue := 0 }, { name := "LOG2_ARRAY_CHAR_INDEX_SCALE", type := .int, accessFlags := 25, slot := 4, constantValue := 0 }, { name := "LOG2_ARRAY_SHORT_INDEX_SCALE", type := .int, accessFlags := 25, slot := 5, constantValue := 0 }, { name := "LOG2_ARRAY_INT_INDEX_SCALE", type := .int, accessFlags := 25, slot := 6, constantValue := 0 }, { name := "LOG2_ARRAY_LONG_INDEX_SCALE", type := .int, accessFlags := 25, slot := 7, constantValue := 0 }, { name := "LOG2_ARRAY_FLOAT_INDEX_SCALE", type := .int, accessFlags := 25, slot := 8, constantValue := 0 }, { name := "LOG2_ARRAY_DOUBLE_INDEX_SCALE", type := .int, accessFlags := 25, slot := 9, constantValue := 0 }, { name := "LOG2_BYTE_BIT_SIZE", type := .int, accessFlags := 26, slot := 10, constantValue := 0 }, { name := "T_BOOLEAN", type := .int, accessFlags := 25, slot := 11, constantValue := 0 }, { name := "T_CHAR", type := .int, accessFlags := 25, slot := 12, constantValue := 0 }, { name := "T_FLOAT", type := .int, accessFlags := 25, slot := 13, constantValue := 0 }, { name := "T_DOUBLE", type := .int, accessFlags := 25, slot := 14, constantValue := 0 }, { name := "T_BYTE", type := .int, accessFlags := 25, slot := 15, constantValue := 0 }, { name := "T_SHORT", type := .int, accessFlags := 25, slot := 16, constantValue := 0 }, { name := "T_INT", type := .int, accessFlags := 25, slot := 17, constantValue := 0 }, { name := "T_LONG", type := .int, accessFlags := 25, slot := 18, constantValue := 0 }, { name := "JLA", type := (.object "jdk/internal/access/JavaLangAccess"), accessFlags := 26, slot := 19, constantValue := 0 }, { name := "SOFT_MAX_ARRAY_LENGTH", type := .int, accessFlags := 25, slot := 20, constantValue := 0 }]
  methods := #[k25m0]
  instanceTypes := #[]
  staticTypes := #[(.object "jdk/internal/misc/Unsafe"), .boolean, .int, .int, .int, .int, .int, .int, .int, .int, .int, .int, .int, .int, .int, .int, .int, .int, .int, (.object "jdk/internal/access/JavaLangAccess"), .int]
  resolved := Array.replicate 378 none
  statics := none }

def pool26 : Array CpInfo := pool [(1, u "java/lang/Cloneable"), (0, .class_ 1), (0, u "java/lang/Object"), (0, .class_ 3)] 3

/-- java/lang/Cloneable -/
def k26 : Class := { plain "java/lang/Cloneable" (some 0) with
  accessFlags := 1537
  interfaces := #[]
  cf := some (fileOf pool26 2 #[] #[] 1537 4 #[] #[])
  fields := #[]
  methods := #[]
  instanceTypes := #[]
  staticTypes := #[]
  resolved := Array.replicate 8 none
  statics := none }

/-- the primitive byte -/
def k27 : Class := { plain "byte" none with kind := .primitive 'B', accessFlags := 0x411 }
/-- [B -/
def k28 : Class := { plain "[B" (some 0) with kind := .array 27 .byte, interfaces := #[26, 2], accessFlags := 1041 }

/-- the primitive char -/
def k29 : Class := { plain "char" none with kind := .primitive 'C', accessFlags := 0x411 }
/-- [C -/
def k30 : Class := { plain "[C" (some 0) with kind := .array 29 .char, interfaces := #[26, 2], accessFlags := 1041 }

/-- the primitive int -/
def k31 : Class := { plain "int" none with kind := .primitive 'I', accessFlags := 0x411 }
/-- [I -/
def k32 : Class := { plain "[I" (some 0) with kind := .array 31 .int, interfaces := #[26, 2], accessFlags := 1041 }

/-- [Ljava/lang/Integer; -/
def k33 : Class := { plain "[Ljava/lang/Integer;" (some 0) with kind := .array 7 (.object "java/lang/Integer"), interfaces := #[26, 2], accessFlags := 1041 }

/-- [Ljava/lang/Long; -/
def k34 : Class := { plain "[Ljava/lang/Long;" (some 0) with kind := .array 15 (.object "java/lang/Long"), interfaces := #[26, 2], accessFlags := 1041 }

/-- [Ljava/lang/Object; -/
def k35 : Class := { plain "[Ljava/lang/Object;" (some 0) with kind := .array 0 (.object "java/lang/Object"), interfaces := #[26, 2], accessFlags := 1041 }

def heap : Heap := #[{ cls := 8, slots := #[.int 0, .int 127, .ref 6, .null, .int 0], vm := .statics 8 },
  { cls := 11, slots := #[.ref 521, .null, .null, .null, .null, .null], vm := .statics 11 },
  { cls := 13, slots := #[.long 0, .int 0, .null, .null, .null, .null, .null, .ref 522, .int 0, .int 0], vm := .statics 13 },
  { cls := 17, slots := #[.long 0, .int 1, .null, .int 0, .null, .int 0, .int 0], vm := .statics 17 },
  { cls := 19, slots := #[.ref 7, .null, .int 0], vm := .statics 19 },
  { cls := 24, slots := #[.null, .null, .null], vm := .statics 24 },
  { cls := 33, slots := #[.ref 9, .ref 10, .ref 11, .ref 12, .ref 13, .ref 14, .ref 15, .ref 16, .ref 17, .ref 18, .ref 19, .ref 20, .ref 21, .ref 22, .ref 23, .ref 24, .ref 25, .ref 26, .ref 27, .ref 28, .ref 29, .ref 30, .ref 31, .ref 32, .ref 33, .ref 34, .ref 35, .ref 36, .ref 37, .ref 38, .ref 39, .ref 40, .ref 41, .ref 42, .ref 43, .ref 44, .ref 45, .ref 46, .ref 47, .ref 48, .ref 49, .ref 50, .ref 51, .ref 52, .ref 53, .ref 54, .ref 55, .ref 56, .ref 57, .ref 58, .ref 59, .ref 60, .ref 61, .ref 62, .ref 63, .ref 64, .ref 65, .ref 66, .ref 67, .ref 68, .ref 69, .ref 70, .ref 71, .ref 72, .ref 73, .ref 74, .ref 75, .ref 76, .ref 77, .ref 78, .ref 79, .ref 80, .ref 81, .ref 82, .ref 83, .ref 84, .ref 85, .ref 86, .ref 87, .ref 88, .ref 89, .ref 90, .ref 91, .ref 92, .ref 93, .ref 94, .ref 95, .ref 96, .ref 97, .ref 98, .ref 99, .ref 100, .ref 101, .ref 102, .ref 103, .ref 104, .ref 105, .ref 106, .ref 107, .ref 108, .ref 109, .ref 110, .ref 111, .ref 112, .ref 113, .ref 114, .ref 115, .ref 116, .ref 117, .ref 118, .ref 119, .ref 120, .ref 121, .ref 122, .ref 123, .ref 124, .ref 125, .ref 126, .ref 127, .ref 128, .ref 129, .ref 130, .ref 131, .ref 132, .ref 133, .ref 134, .ref 135, .ref 136, .ref 137, .ref 138, .ref 139, .ref 140, .ref 141, .ref 142, .ref 143, .ref 144, .ref 145, .ref 146, .ref 147, .ref 148, .ref 149, .ref 150, .ref 151, .ref 152, .ref 153, .ref 154, .ref 155, .ref 156, .ref 157, .ref 158, .ref 159, .ref 160, .ref 161, .ref 162, .ref 163, .ref 164, .ref 165, .ref 166, .ref 167, .ref 168, .ref 169, .ref 170, .ref 171, .ref 172, .ref 173, .ref 174, .ref 175, .ref 176, .ref 177, .ref 178, .ref 179, .ref 180, .ref 181, .ref 182, .ref 183, .ref 184, .ref 185, .ref 186, .ref 187, .ref 188, .ref 189, .ref 190, .ref 191, .ref 192, .ref 193, .ref 194, .ref 195, .ref 196, .ref 197, .ref 198, .ref 199, .ref 200, .ref 201, .ref 202, .ref 203, .ref 204, .ref 205, .ref 206, .ref 207, .ref 208, .ref 209, .ref 210, .ref 211, .ref 212, .ref 213, .ref 214, .ref 215, .ref 216, .ref 217, .ref 218, .ref 219, .ref 220, .ref 221, .ref 222, .ref 223, .ref 224, .ref 225, .ref 226, .ref 227, .ref 228, .ref 229, .ref 230, .ref 231, .ref 232, .ref 233, .ref 234, .ref 235, .ref 236, .ref 237, .ref 238, .ref 239, .ref 240, .ref 241, .ref 242, .ref 243, .ref 244, .ref 245, .ref 246, .ref 247, .ref 248, .ref 249, .ref 250, .ref 251, .ref 252, .ref 253, .ref 254, .ref 255, .ref 256, .ref 257, .ref 258, .ref 259, .ref 260, .ref 261, .ref 262, .ref 263, .ref 264], vm := .none },
  { cls := 34, slots := #[.ref 265, .ref 266, .ref 267, .ref 268, .ref 269, .ref 270, .ref 271, .ref 272, .ref 273, .ref 274, .ref 275, .ref 276, .ref 277, .ref 278, .ref 279, .ref 280, .ref 281, .ref 282, .ref 283, .ref 284, .ref 285, .ref 286, .ref 287, .ref 288, .ref 289, .ref 290, .ref 291, .ref 292, .ref 293, .ref 294, .ref 295, .ref 296, .ref 297, .ref 298, .ref 299, .ref 300, .ref 301, .ref 302, .ref 303, .ref 304, .ref 305, .ref 306, .ref 307, .ref 308, .ref 309, .ref 310, .ref 311, .ref 312, .ref 313, .ref 314, .ref 315, .ref 316, .ref 317, .ref 318, .ref 319, .ref 320, .ref 321, .ref 322, .ref 323, .ref 324, .ref 325, .ref 326, .ref 327, .ref 328, .ref 329, .ref 330, .ref 331, .ref 332, .ref 333, .ref 334, .ref 335, .ref 336, .ref 337, .ref 338, .ref 339, .ref 340, .ref 341, .ref 342, .ref 343, .ref 344, .ref 345, .ref 346, .ref 347, .ref 348, .ref 349, .ref 350, .ref 351, .ref 352, .ref 353, .ref 354, .ref 355, .ref 356, .ref 357, .ref 358, .ref 359, .ref 360, .ref 361, .ref 362, .ref 363, .ref 364, .ref 365, .ref 366, .ref 367, .ref 368, .ref 369, .ref 370, .ref 371, .ref 372, .ref 373, .ref 374, .ref 375, .ref 376, .ref 377, .ref 378, .ref 379, .ref 380, .ref 381, .ref 382, .ref 383, .ref 384, .ref 385, .ref 386, .ref 387, .ref 388, .ref 389, .ref 390, .ref 391, .ref 392, .ref 393, .ref 394, .ref 395, .ref 396, .ref 397, .ref 398, .ref 399, .ref 400, .ref 401, .ref 402, .ref 403, .ref 404, .ref 405, .ref 406, .ref 407, .ref 408, .ref 409, .ref 410, .ref 411, .ref 412, .ref 413, .ref 414, .ref 415, .ref 416, .ref 417, .ref 418, .ref 419, .ref 420, .ref 421, .ref 422, .ref 423, .ref 424, .ref 425, .ref 426, .ref 427, .ref 428, .ref 429, .ref 430, .ref 431, .ref 432, .ref 433, .ref 434, .ref 435, .ref 436, .ref 437, .ref 438, .ref 439, .ref 440, .ref 441, .ref 442, .ref 443, .ref 444, .ref 445, .ref 446, .ref 447, .ref 448, .ref 449, .ref 450, .ref 451, .ref 452, .ref 453, .ref 454, .ref 455, .ref 456, .ref 457, .ref 458, .ref 459, .ref 460, .ref 461, .ref 462, .ref 463, .ref 464, .ref 465, .ref 466, .ref 467, .ref 468, .ref 469, .ref 470, .ref 471, .ref 472, .ref 473, .ref 474, .ref 475, .ref 476, .ref 477, .ref 478, .ref 479, .ref 480, .ref 481, .ref 482, .ref 483, .ref 484, .ref 485, .ref 486, .ref 487, .ref 488, .ref 489, .ref 490, .ref 491, .ref 492, .ref 493, .ref 494, .ref 495, .ref 496, .ref 497, .ref 498, .ref 499, .ref 500, .ref 501, .ref 502, .ref 503, .ref 504, .ref 505, .ref 506, .ref 507, .ref 508, .ref 509, .ref 510, .ref 511, .ref 512, .ref 513, .ref 514, .ref 515, .ref 516, .ref 517, .ref 518, .ref 519, .ref 520], vm := .none },
  { cls := 35, slots := #[], vm := .none },
  { cls := 7, slots := #[.int (-128)], vm := .none },
  { cls := 7, slots := #[.int (-127)], vm := .none },
  { cls := 7, slots := #[.int (-126)], vm := .none },
  { cls := 7, slots := #[.int (-125)], vm := .none },
  { cls := 7, slots := #[.int (-124)], vm := .none },
  { cls := 7, slots := #[.int (-123)], vm := .none },
  { cls := 7, slots := #[.int (-122)], vm := .none },
  { cls := 7, slots := #[.int (-121)], vm := .none },
  { cls := 7, slots := #[.int (-120)], vm := .none },
  { cls := 7, slots := #[.int (-119)], vm := .none },
  { cls := 7, slots := #[.int (-118)], vm := .none },
  { cls := 7, slots := #[.int (-117)], vm := .none },
  { cls := 7, slots := #[.int (-116)], vm := .none },
  { cls := 7, slots := #[.int (-115)], vm := .none },
  { cls := 7, slots := #[.int (-114)], vm := .none },
  { cls := 7, slots := #[.int (-113)], vm := .none },
  { cls := 7, slots := #[.int (-112)], vm := .none },
  { cls := 7, slots := #[.int (-111)], vm := .none },
  { cls := 7, slots := #[.int (-110)], vm := .none },
  { cls := 7, slots := #[.int (-109)], vm := .none },
  { cls := 7, slots := #[.int (-108)], vm := .none },
  { cls := 7, slots := #[.int (-107)], vm := .none },
  { cls := 7, slots := #[.int (-106)], vm := .none },
  { cls := 7, slots := #[.int (-105)], vm := .none },
  { cls := 7, slots := #[.int (-104)], vm := .none },
  { cls := 7, slots := #[.int (-103)], vm := .none },
  { cls := 7, slots := #[.int (-102)], vm := .none },
  { cls := 7, slots := #[.int (-101)], vm := .none },
  { cls := 7, slots := #[.int (-100)], vm := .none },
  { cls := 7, slots := #[.int (-99)], vm := .none },
  { cls := 7, slots := #[.int (-98)], vm := .none },
  { cls := 7, slots := #[.int (-97)], vm := .none },
  { cls := 7, slots := #[.int (-96)], vm := .none },
  { cls := 7, slots := #[.int (-95)], vm := .none },
  { cls := 7, slots := #[.int (-94)], vm := .none },
  { cls := 7, slots := #[.int (-93)], vm := .none },
  { cls := 7, slots := #[.int (-92)], vm := .none },
  { cls := 7, slots := #[.int (-91)], vm := .none },
  { cls := 7, slots := #[.int (-90)], vm := .none },
  { cls := 7, slots := #[.int (-89)], vm := .none },
  { cls := 7, slots := #[.int (-88)], vm := .none },
  { cls := 7, slots := #[.int (-87)], vm := .none },
  { cls := 7, slots := #[.int (-86)], vm := .none },
  { cls := 7, slots := #[.int (-85)], vm := .none },
  { cls := 7, slots := #[.int (-84)], vm := .none },
  { cls := 7, slots := #[.int (-83)], vm := .none },
  { cls := 7, slots := #[.int (-82)], vm := .none },
  { cls := 7, slots := #[.int (-81)], vm := .none },
  { cls := 7, slots := #[.int (-80)], vm := .none },
  { cls := 7, slots := #[.int (-79)], vm := .none },
  { cls := 7, slots := #[.int (-78)], vm := .none },
  { cls := 7, slots := #[.int (-77)], vm := .none },
  { cls := 7, slots := #[.int (-76)], vm := .none },
  { cls := 7, slots := #[.int (-75)], vm := .none },
  { cls := 7, slots := #[.int (-74)], vm := .none },
  { cls := 7, slots := #[.int (-73)], vm := .none },
  { cls := 7, slots := #[.int (-72)], vm := .none },
  { cls := 7, slots := #[.int (-71)], vm := .none },
  { cls := 7, slots := #[.int (-70)], vm := .none },
  { cls := 7, slots := #[.int (-69)], vm := .none },
  { cls := 7, slots := #[.int (-68)], vm := .none },
  { cls := 7, slots := #[.int (-67)], vm := .none },
  { cls := 7, slots := #[.int (-66)], vm := .none },
  { cls := 7, slots := #[.int (-65)], vm := .none },
  { cls := 7, slots := #[.int (-64)], vm := .none },
  { cls := 7, slots := #[.int (-63)], vm := .none },
  { cls := 7, slots := #[.int (-62)], vm := .none },
  { cls := 7, slots := #[.int (-61)], vm := .none },
  { cls := 7, slots := #[.int (-60)], vm := .none },
  { cls := 7, slots := #[.int (-59)], vm := .none },
  { cls := 7, slots := #[.int (-58)], vm := .none },
  { cls := 7, slots := #[.int (-57)], vm := .none },
  { cls := 7, slots := #[.int (-56)], vm := .none },
  { cls := 7, slots := #[.int (-55)], vm := .none },
  { cls := 7, slots := #[.int (-54)], vm := .none },
  { cls := 7, slots := #[.int (-53)], vm := .none },
  { cls := 7, slots := #[.int (-52)], vm := .none },
  { cls := 7, slots := #[.int (-51)], vm := .none },
  { cls := 7, slots := #[.int (-50)], vm := .none },
  { cls := 7, slots := #[.int (-49)], vm := .none },
  { cls := 7, slots := #[.int (-48)], vm := .none },
  { cls := 7, slots := #[.int (-47)], vm := .none },
  { cls := 7, slots := #[.int (-46)], vm := .none },
  { cls := 7, slots := #[.int (-45)], vm := .none },
  { cls := 7, slots := #[.int (-44)], vm := .none },
  { cls := 7, slots := #[.int (-43)], vm := .none },
  { cls := 7, slots := #[.int (-42)], vm := .none },
  { cls := 7, slots := #[.int (-41)], vm := .none },
  { cls := 7, slots := #[.int (-40)], vm := .none },
  { cls := 7, slots := #[.int (-39)], vm := .none },
  { cls := 7, slots := #[.int (-38)], vm := .none },
  { cls := 7, slots := #[.int (-37)], vm := .none },
  { cls := 7, slots := #[.int (-36)], vm := .none },
  { cls := 7, slots := #[.int (-35)], vm := .none },
  { cls := 7, slots := #[.int (-34)], vm := .none },
  { cls := 7, slots := #[.int (-33)], vm := .none },
  { cls := 7, slots := #[.int (-32)], vm := .none },
  { cls := 7, slots := #[.int (-31)], vm := .none },
  { cls := 7, slots := #[.int (-30)], vm := .none },
  { cls := 7, slots := #[.int (-29)], vm := .none },
  { cls := 7, slots := #[.int (-28)], vm := .none },
  { cls := 7, slots := #[.int (-27)], vm := .none },
  { cls := 7, slots := #[.int (-26)], vm := .none },
  { cls := 7, slots := #[.int (-25)], vm := .none },
  { cls := 7, slots := #[.int (-24)], vm := .none },
  { cls := 7, slots := #[.int (-23)], vm := .none },
  { cls := 7, slots := #[.int (-22)], vm := .none },
  { cls := 7, slots := #[.int (-21)], vm := .none },
  { cls := 7, slots := #[.int (-20)], vm := .none },
  { cls := 7, slots := #[.int (-19)], vm := .none },
  { cls := 7, slots := #[.int (-18)], vm := .none },
  { cls := 7, slots := #[.int (-17)], vm := .none },
  { cls := 7, slots := #[.int (-16)], vm := .none },
  { cls := 7, slots := #[.int (-15)], vm := .none },
  { cls := 7, slots := #[.int (-14)], vm := .none },
  { cls := 7, slots := #[.int (-13)], vm := .none },
  { cls := 7, slots := #[.int (-12)], vm := .none },
  { cls := 7, slots := #[.int (-11)], vm := .none },
  { cls := 7, slots := #[.int (-10)], vm := .none },
  { cls := 7, slots := #[.int (-9)], vm := .none },
  { cls := 7, slots := #[.int (-8)], vm := .none },
  { cls := 7, slots := #[.int (-7)], vm := .none },
  { cls := 7, slots := #[.int (-6)], vm := .none },
  { cls := 7, slots := #[.int (-5)], vm := .none },
  { cls := 7, slots := #[.int (-4)], vm := .none },
  { cls := 7, slots := #[.int (-3)], vm := .none },
  { cls := 7, slots := #[.int (-2)], vm := .none },
  { cls := 7, slots := #[.int (-1)], vm := .none },
  { cls := 7, slots := #[.int (0)], vm := .none },
  { cls := 7, slots := #[.int (1)], vm := .none },
  { cls := 7, slots := #[.int (2)], vm := .none },
  { cls := 7, slots := #[.int (3)], vm := .none },
  { cls := 7, slots := #[.int (4)], vm := .none },
  { cls := 7, slots := #[.int (5)], vm := .none },
  { cls := 7, slots := #[.int (6)], vm := .none },
  { cls := 7, slots := #[.int (7)], vm := .none },
  { cls := 7, slots := #[.int (8)], vm := .none },
  { cls := 7, slots := #[.int (9)], vm := .none },
  { cls := 7, slots := #[.int (10)], vm := .none },
  { cls := 7, slots := #[.int (11)], vm := .none },
  { cls := 7, slots := #[.int (12)], vm := .none },
  { cls := 7, slots := #[.int (13)], vm := .none },
  { cls := 7, slots := #[.int (14)], vm := .none },
  { cls := 7, slots := #[.int (15)], vm := .none },
  { cls := 7, slots := #[.int (16)], vm := .none },
  { cls := 7, slots := #[.int (17)], vm := .none },
  { cls := 7, slots := #[.int (18)], vm := .none },
  { cls := 7, slots := #[.int (19)], vm := .none },
  { cls := 7, slots := #[.int (20)], vm := .none },
  { cls := 7, slots := #[.int (21)], vm := .none },
  { cls := 7, slots := #[.int (22)], vm := .none },
  { cls := 7, slots := #[.int (23)], vm := .none },
  { cls := 7, slots := #[.int (24)], vm := .none },
  { cls := 7, slots := #[.int (25)], vm := .none },
  { cls := 7, slots := #[.int (26)], vm := .none },
  { cls := 7, slots := #[.int (27)], vm := .none },
  { cls := 7, slots := #[.int (28)], vm := .none },
  { cls := 7, slots := #[.int (29)], vm := .none },
  { cls := 7, slots := #[.int (30)], vm := .none },
  { cls := 7, slots := #[.int (31)], vm := .none },
  { cls := 7, slots := #[.int (32)], vm := .none },
  { cls := 7, slots := #[.int (33)], vm := .none },
  { cls := 7, slots := #[.int (34)], vm := .none },
  { cls := 7, slots := #[.int (35)], vm := .none },
  { cls := 7, slots := #[.int (36)], vm := .none },
  { cls := 7, slots := #[.int (37)], vm := .none },
  { cls := 7, slots := #[.int (38)], vm := .none },
  { cls := 7, slots := #[.int (39)], vm := .none },
  { cls := 7, slots := #[.int (40)], vm := .none },
  { cls := 7, slots := #[.int (41)], vm := .none },
  { cls := 7, slots := #[.int (42)], vm := .none },
  { cls := 7, slots := #[.int (43)], vm := .none },
  { cls := 7, slots := #[.int (44)], vm := .none },
  { cls := 7, slots := #[.int (45)], vm := .none },
  { cls := 7, slots := #[.int (46)], vm := .none },
  { cls := 7, slots := #[.int (47)], vm := .none },
  { cls := 7, slots := #[.int (48)], vm := .none },
  { cls := 7, slots := #[.int (49)], vm := .none },
  { cls := 7, slots := #[.int (50)], vm := .none },
  { cls := 7, slots := #[.int (51)], vm := .none },
  { cls := 7, slots := #[.int (52)], vm := .none },
  { cls := 7, slots := #[.int (53)], vm := .none },
  { cls := 7, slots := #[.int (54)], vm := .none },
  { cls := 7, slots := #[.int (55)], vm := .none },
  { cls := 7, slots := #[.int (56)], vm := .none },
  { cls := 7, slots := #[.int (57)], vm := .none },
  { cls := 7, slots := #[.int (58)], vm := .none },
  { cls := 7, slots := #[.int (59)], vm := .none },
  { cls := 7, slots := #[.int (60)], vm := .none },
  { cls := 7, slots := #[.int (61)], vm := .none },
  { cls := 7, slots := #[.int (62)], vm := .none },
  { cls := 7, slots := #[.int (63)], vm := .none },
  { cls := 7, slots := #[.int (64)], vm := .none },
  { cls := 7, slots := #[.int (65)], vm := .none },
  { cls := 7, slots := #[.int (66)], vm := .none },
  { cls := 7, slots := #[.int (67)], vm := .none },
  { cls := 7, slots := #[.int (68)], vm := .none },
  { cls := 7, slots := #[.int (69)], vm := .none },
  { cls := 7, slots := #[.int (70)], vm := .none },
  { cls := 7, slots := #[.int (71)], vm := .none },
  { cls := 7, slots := #[.int (72)], vm := .none },
  { cls := 7, slots := #[.int (73)], vm := .none },
  { cls := 7, slots := #[.int (74)], vm := .none },
  { cls := 7, slots := #[.int (75)], vm := .none },
  { cls := 7, slots := #[.int (76)], vm := .none },
  { cls := 7, slots := #[.int (77)], vm := .none },
  { cls := 7, slots := #[.int (78)], vm := .none },
  { cls := 7, slots := #[.int (79)], vm := .none },
  { cls := 7, slots := #[.int (80)], vm := .none },
  { cls := 7, slots := #[.int (81)], vm := .none },
  { cls := 7, slots := #[.int (82)], vm := .none },
  { cls := 7, slots := #[.int (83)], vm := .none },
  { cls := 7, slots := #[.int (84)], vm := .none },
  { cls := 7, slots := #[.int (85)], vm := .none },
  { cls := 7, slots := #[.int (86)], vm := .none },
  { cls := 7, slots := #[.int (87)], vm := .none },
  { cls := 7, slots := #[.int (88)], vm := .none },
  { cls := 7, slots := #[.int (89)], vm := .none },
  { cls := 7, slots := #[.int (90)], vm := .none },
  { cls := 7, slots := #[.int (91)], vm := .none },
  { cls := 7, slots := #[.int (92)], vm := .none },
  { cls := 7, slots := #[.int (93)], vm := .none },
  { cls := 7, slots := #[.int (94)], vm := .none },
  { cls := 7, slots := #[.int (95)], vm := .none },
  { cls := 7, slots := #[.int (96)], vm := .none },
  { cls := 7, slots := #[.int (97)], vm := .none },
  { cls := 7, slots := #[.int (98)], vm := .none },
  { cls := 7, slots := #[.int (99)], vm := .none },
  { cls := 7, slots := #[.int (100)], vm := .none },
  { cls := 7, slots := #[.int (101)], vm := .none },
  { cls := 7, slots := #[.int (102)], vm := .none },
  { cls := 7, slots := #[.int (103)], vm := .none },
  { cls := 7, slots := #[.int (104)], vm := .none },
  { cls := 7, slots := #[.int (105)], vm := .none },
  { cls := 7, slots := #[.int (106)], vm := .none },
  { cls := 7, slots := #[.int (107)], vm := .none },
  { cls := 7, slots := #[.int (108)], vm := .none },
  { cls := 7, slots := #[.int (109)], vm := .none },
  { cls := 7, slots := #[.int (110)], vm := .none },
  { cls := 7, slots := #[.int (111)], vm := .none },
  { cls := 7, slots := #[.int (112)], vm := .none },
  { cls := 7, slots := #[.int (113)], vm := .none },
  { cls := 7, slots := #[.int (114)], vm := .none },
  { cls := 7, slots := #[.int (115)], vm := .none },
  { cls := 7, slots := #[.int (116)], vm := .none },
  { cls := 7, slots := #[.int (117)], vm := .none },
  { cls := 7, slots := #[.int (118)], vm := .none },
  { cls := 7, slots := #[.int (119)], vm := .none },
  { cls := 7, slots := #[.int (120)], vm := .none },
  { cls := 7, slots := #[.int (121)], vm := .none },
  { cls := 7, slots := #[.int (122)], vm := .none },
  { cls := 7, slots := #[.int (123)], vm := .none },
  { cls := 7, slots := #[.int (124)], vm := .none },
  { cls := 7, slots := #[.int (125)], vm := .none },
  { cls := 7, slots := #[.int (126)], vm := .none },
  { cls := 7, slots := #[.int (127)], vm := .none },
  { cls := 15, slots := #[.long (-128)], vm := .none },
  { cls := 15, slots := #[.long (-127)], vm := .none },
  { cls := 15, slots := #[.long (-126)], vm := .none },
  { cls := 15, slots := #[.long (-125)], vm := .none },
  { cls := 15, slots := #[.long (-124)], vm := .none },
  { cls := 15, slots := #[.long (-123)], vm := .none },
  { cls := 15, slots := #[.long (-122)], vm := .none },
  { cls := 15, slots := #[.long (-121)], vm := .none },
  { cls := 15, slots := #[.long (-120)], vm := .none },
  { cls := 15, slots := #[.long (-119)], vm := .none },
  { cls := 15, slots := #[.long (-118)], vm := .none },
  { cls := 15, slots := #[.long (-117)], vm := .none },
  { cls := 15, slots := #[.long (-116)], vm := .none },
  { cls := 15, slots := #[.long (-115)], vm := .none },
  { cls := 15, slots := #[.long (-114)], vm := .none },
  { cls := 15, slots := #[.long (-113)], vm := .none },
  { cls := 15, slots := #[.long (-112)], vm := .none },
  { cls := 15, slots := #[.long (-111)], vm := .none },
  { cls := 15, slots := #[.long (-110)], vm := .none },
  { cls := 15, slots := #[.long (-109)], vm := .none },
  { cls := 15, slots := #[.long (-108)], vm := .none },
  { cls := 15, slots := #[.long (-107)], vm := .none },
  { cls := 15, slots := #[.long (-106)], vm := .none },
  { cls := 15, slots := #[.long (-105)], vm := .none },
  { cls := 15, slots := #[.long (-104)], vm := .none },
  { cls := 15, slots := #[.long (-103)], vm := .none },
  { cls := 15, slots := #[.long (-102)], vm := .none },
  { cls := 15, slots := #[.long (-101)], vm := .none },
  { cls := 15, slots := #[.long (-100)], vm := .none },
  { cls := 15, slots := #[.long (-99)], vm := .none },
  { cls := 15, slots := #[.long (-98)], vm := .none },
  { cls := 15, slots := #[.long (-97)], vm := .none },
  { cls := 15, slots := #[.long (-96)], vm := .none },
  { cls := 15, slots := #[.long (-95)], vm := .none },
  { cls := 15, slots := #[.long (-94)], vm := .none },
  { cls := 15, slots := #[.long (-93)], vm := .none },
  { cls := 15, slots := #[.long (-92)], vm := .none },
  { cls := 15, slots := #[.long (-91)], vm := .none },
  { cls := 15, slots := #[.long (-90)], vm := .none },
  { cls := 15, slots := #[.long (-89)], vm := .none },
  { cls := 15, slots := #[.long (-88)], vm := .none },
  { cls := 15, slots := #[.long (-87)], vm := .none },
  { cls := 15, slots := #[.long (-86)], vm := .none },
  { cls := 15, slots := #[.long (-85)], vm := .none },
  { cls := 15, slots := #[.long (-84)], vm := .none },
  { cls := 15, slots := #[.long (-83)], vm := .none },
  { cls := 15, slots := #[.long (-82)], vm := .none },
  { cls := 15, slots := #[.long (-81)], vm := .none },
  { cls := 15, slots := #[.long (-80)], vm := .none },
  { cls := 15, slots := #[.long (-79)], vm := .none },
  { cls := 15, slots := #[.long (-78)], vm := .none },
  { cls := 15, slots := #[.long (-77)], vm := .none },
  { cls := 15, slots := #[.long (-76)], vm := .none },
  { cls := 15, slots := #[.long (-75)], vm := .none },
  { cls := 15, slots := #[.long (-74)], vm := .none },
  { cls := 15, slots := #[.long (-73)], vm := .none },
  { cls := 15, slots := #[.long (-72)], vm := .none },
  { cls := 15, slots := #[.long (-71)], vm := .none },
  { cls := 15, slots := #[.long (-70)], vm := .none },
  { cls := 15, slots := #[.long (-69)], vm := .none },
  { cls := 15, slots := #[.long (-68)], vm := .none },
  { cls := 15, slots := #[.long (-67)], vm := .none },
  { cls := 15, slots := #[.long (-66)], vm := .none },
  { cls := 15, slots := #[.long (-65)], vm := .none },
  { cls := 15, slots := #[.long (-64)], vm := .none },
  { cls := 15, slots := #[.long (-63)], vm := .none },
  { cls := 15, slots := #[.long (-62)], vm := .none },
  { cls := 15, slots := #[.long (-61)], vm := .none },
  { cls := 15, slots := #[.long (-60)], vm := .none },
  { cls := 15, slots := #[.long (-59)], vm := .none },
  { cls := 15, slots := #[.long (-58)], vm := .none },
  { cls := 15, slots := #[.long (-57)], vm := .none },
  { cls := 15, slots := #[.long (-56)], vm := .none },
  { cls := 15, slots := #[.long (-55)], vm := .none },
  { cls := 15, slots := #[.long (-54)], vm := .none },
  { cls := 15, slots := #[.long (-53)], vm := .none },
  { cls := 15, slots := #[.long (-52)], vm := .none },
  { cls := 15, slots := #[.long (-51)], vm := .none },
  { cls := 15, slots := #[.long (-50)], vm := .none },
  { cls := 15, slots := #[.long (-49)], vm := .none },
  { cls := 15, slots := #[.long (-48)], vm := .none },
  { cls := 15, slots := #[.long (-47)], vm := .none },
  { cls := 15, slots := #[.long (-46)], vm := .none },
  { cls := 15, slots := #[.long (-45)], vm := .none },
  { cls := 15, slots := #[.long (-44)], vm := .none },
  { cls := 15, slots := #[.long (-43)], vm := .none },
  { cls := 15, slots := #[.long (-42)], vm := .none },
  { cls := 15, slots := #[.long (-41)], vm := .none },
  { cls := 15, slots := #[.long (-40)], vm := .none },
  { cls := 15, slots := #[.long (-39)], vm := .none },
  { cls := 15, slots := #[.long (-38)], vm := .none },
  { cls := 15, slots := #[.long (-37)], vm := .none },
  { cls := 15, slots := #[.long (-36)], vm := .none },
  { cls := 15, slots := #[.long (-35)], vm := .none },
  { cls := 15, slots := #[.long (-34)], vm := .none },
  { cls := 15, slots := #[.long (-33)], vm := .none },
  { cls := 15, slots := #[.long (-32)], vm := .none },
  { cls := 15, slots := #[.long (-31)], vm := .none },
  { cls := 15, slots := #[.long (-30)], vm := .none },
  { cls := 15, slots := #[.long (-29)], vm := .none },
  { cls := 15, slots := #[.long (-28)], vm := .none },
  { cls := 15, slots := #[.long (-27)], vm := .none },
  { cls := 15, slots := #[.long (-26)], vm := .none },
  { cls := 15, slots := #[.long (-25)], vm := .none },
  { cls := 15, slots := #[.long (-24)], vm := .none },
  { cls := 15, slots := #[.long (-23)], vm := .none },
  { cls := 15, slots := #[.long (-22)], vm := .none },
  { cls := 15, slots := #[.long (-21)], vm := .none },
  { cls := 15, slots := #[.long (-20)], vm := .none },
  { cls := 15, slots := #[.long (-19)], vm := .none },
  { cls := 15, slots := #[.long (-18)], vm := .none },
  { cls := 15, slots := #[.long (-17)], vm := .none },
  { cls := 15, slots := #[.long (-16)], vm := .none },
  { cls := 15, slots := #[.long (-15)], vm := .none },
  { cls := 15, slots := #[.long (-14)], vm := .none },
  { cls := 15, slots := #[.long (-13)], vm := .none },
  { cls := 15, slots := #[.long (-12)], vm := .none },
  { cls := 15, slots := #[.long (-11)], vm := .none },
  { cls := 15, slots := #[.long (-10)], vm := .none },
  { cls := 15, slots := #[.long (-9)], vm := .none },
  { cls := 15, slots := #[.long (-8)], vm := .none },
  { cls := 15, slots := #[.long (-7)], vm := .none },
  { cls := 15, slots := #[.long (-6)], vm := .none },
  { cls := 15, slots := #[.long (-5)], vm := .none },
  { cls := 15, slots := #[.long (-4)], vm := .none },
  { cls := 15, slots := #[.long (-3)], vm := .none },
  { cls := 15, slots := #[.long (-2)], vm := .none },
  { cls := 15, slots := #[.long (-1)], vm := .none },
  { cls := 15, slots := #[.long (0)], vm := .none },
  { cls := 15, slots := #[.long (1)], vm := .none },
  { cls := 15, slots := #[.long (2)], vm := .none },
  { cls := 15, slots := #[.long (3)], vm := .none },
  { cls := 15, slots := #[.long (4)], vm := .none },
  { cls := 15, slots := #[.long (5)], vm := .none },
  { cls := 15, slots := #[.long (6)], vm := .none },
  { cls := 15, slots := #[.long (7)], vm := .none },
  { cls := 15, slots := #[.long (8)], vm := .none },
  { cls := 15, slots := #[.long (9)], vm := .none },
  { cls := 15, slots := #[.long (10)], vm := .none },
  { cls := 15, slots := #[.long (11)], vm := .none },
  { cls := 15, slots := #[.long (12)], vm := .none },
  { cls := 15, slots := #[.long (13)], vm := .none },
  { cls := 15, slots := #[.long (14)], vm := .none },
  { cls := 15, slots := #[.long (15)], vm := .none },
  { cls := 15, slots := #[.long (16)], vm := .none },
  { cls := 15, slots := #[.long (17)], vm := .none },
  { cls := 15, slots := #[.long (18)], vm := .none },
  { cls := 15, slots := #[.long (19)], vm := .none },
  { cls := 15, slots := #[.long (20)], vm := .none },
  { cls := 15, slots := #[.long (21)], vm := .none },
  { cls := 15, slots := #[.long (22)], vm := .none },
  { cls := 15, slots := #[.long (23)], vm := .none },
  { cls := 15, slots := #[.long (24)], vm := .none },
  { cls := 15, slots := #[.long (25)], vm := .none },
  { cls := 15, slots := #[.long (26)], vm := .none },
  { cls := 15, slots := #[.long (27)], vm := .none },
  { cls := 15, slots := #[.long (28)], vm := .none },
  { cls := 15, slots := #[.long (29)], vm := .none },
  { cls := 15, slots := #[.long (30)], vm := .none },
  { cls := 15, slots := #[.long (31)], vm := .none },
  { cls := 15, slots := #[.long (32)], vm := .none },
  { cls := 15, slots := #[.long (33)], vm := .none },
  { cls := 15, slots := #[.long (34)], vm := .none },
  { cls := 15, slots := #[.long (35)], vm := .none },
  { cls := 15, slots := #[.long (36)], vm := .none },
  { cls := 15, slots := #[.long (37)], vm := .none },
  { cls := 15, slots := #[.long (38)], vm := .none },
  { cls := 15, slots := #[.long (39)], vm := .none },
  { cls := 15, slots := #[.long (40)], vm := .none },
  { cls := 15, slots := #[.long (41)], vm := .none },
  { cls := 15, slots := #[.long (42)], vm := .none },
  { cls := 15, slots := #[.long (43)], vm := .none },
  { cls := 15, slots := #[.long (44)], vm := .none },
  { cls := 15, slots := #[.long (45)], vm := .none },
  { cls := 15, slots := #[.long (46)], vm := .none },
  { cls := 15, slots := #[.long (47)], vm := .none },
  { cls := 15, slots := #[.long (48)], vm := .none },
  { cls := 15, slots := #[.long (49)], vm := .none },
  { cls := 15, slots := #[.long (50)], vm := .none },
  { cls := 15, slots := #[.long (51)], vm := .none },
  { cls := 15, slots := #[.long (52)], vm := .none },
  { cls := 15, slots := #[.long (53)], vm := .none },
  { cls := 15, slots := #[.long (54)], vm := .none },
  { cls := 15, slots := #[.long (55)], vm := .none },
  { cls := 15, slots := #[.long (56)], vm := .none },
  { cls := 15, slots := #[.long (57)], vm := .none },
  { cls := 15, slots := #[.long (58)], vm := .none },
  { cls := 15, slots := #[.long (59)], vm := .none },
  { cls := 15, slots := #[.long (60)], vm := .none },
  { cls := 15, slots := #[.long (61)], vm := .none },
  { cls := 15, slots := #[.long (62)], vm := .none },
  { cls := 15, slots := #[.long (63)], vm := .none },
  { cls := 15, slots := #[.long (64)], vm := .none },
  { cls := 15, slots := #[.long (65)], vm := .none },
  { cls := 15, slots := #[.long (66)], vm := .none },
  { cls := 15, slots := #[.long (67)], vm := .none },
  { cls := 15, slots := #[.long (68)], vm := .none },
  { cls := 15, slots := #[.long (69)], vm := .none },
  { cls := 15, slots := #[.long (70)], vm := .none },
  { cls := 15, slots := #[.long (71)], vm := .none },
  { cls := 15, slots := #[.long (72)], vm := .none },
  { cls := 15, slots := #[.long (73)], vm := .none },
  { cls := 15, slots := #[.long (74)], vm := .none },
  { cls := 15, slots := #[.long (75)], vm := .none },
  { cls := 15, slots := #[.long (76)], vm := .none },
  { cls := 15, slots := #[.long (77)], vm := .none },
  { cls := 15, slots := #[.long (78)], vm := .none },
  { cls := 15, slots := #[.long (79)], vm := .none },
  { cls := 15, slots := #[.long (80)], vm := .none },
  { cls := 15, slots := #[.long (81)], vm := .none },
  { cls := 15, slots := #[.long (82)], vm := .none },
  { cls := 15, slots := #[.long (83)], vm := .none },
  { cls := 15, slots := #[.long (84)], vm := .none },
  { cls := 15, slots := #[.long (85)], vm := .none },
  { cls := 15, slots := #[.long (86)], vm := .none },
  { cls := 15, slots := #[.long (87)], vm := .none },
  { cls := 15, slots := #[.long (88)], vm := .none },
  { cls := 15, slots := #[.long (89)], vm := .none },
  { cls := 15, slots := #[.long (90)], vm := .none },
  { cls := 15, slots := #[.long (91)], vm := .none },
  { cls := 15, slots := #[.long (92)], vm := .none },
  { cls := 15, slots := #[.long (93)], vm := .none },
  { cls := 15, slots := #[.long (94)], vm := .none },
  { cls := 15, slots := #[.long (95)], vm := .none },
  { cls := 15, slots := #[.long (96)], vm := .none },
  { cls := 15, slots := #[.long (97)], vm := .none },
  { cls := 15, slots := #[.long (98)], vm := .none },
  { cls := 15, slots := #[.long (99)], vm := .none },
  { cls := 15, slots := #[.long (100)], vm := .none },
  { cls := 15, slots := #[.long (101)], vm := .none },
  { cls := 15, slots := #[.long (102)], vm := .none },
  { cls := 15, slots := #[.long (103)], vm := .none },
  { cls := 15, slots := #[.long (104)], vm := .none },
  { cls := 15, slots := #[.long (105)], vm := .none },
  { cls := 15, slots := #[.long (106)], vm := .none },
  { cls := 15, slots := #[.long (107)], vm := .none },
  { cls := 15, slots := #[.long (108)], vm := .none },
  { cls := 15, slots := #[.long (109)], vm := .none },
  { cls := 15, slots := #[.long (110)], vm := .none },
  { cls := 15, slots := #[.long (111)], vm := .none },
  { cls := 15, slots := #[.long (112)], vm := .none },
  { cls := 15, slots := #[.long (113)], vm := .none },
  { cls := 15, slots := #[.long (114)], vm := .none },
  { cls := 15, slots := #[.long (115)], vm := .none },
  { cls := 15, slots := #[.long (116)], vm := .none },
  { cls := 15, slots := #[.long (117)], vm := .none },
  { cls := 15, slots := #[.long (118)], vm := .none },
  { cls := 15, slots := #[.long (119)], vm := .none },
  { cls := 15, slots := #[.long (120)], vm := .none },
  { cls := 15, slots := #[.long (121)], vm := .none },
  { cls := 15, slots := #[.long (122)], vm := .none },
  { cls := 15, slots := #[.long (123)], vm := .none },
  { cls := 15, slots := #[.long (124)], vm := .none },
  { cls := 15, slots := #[.long (125)], vm := .none },
  { cls := 15, slots := #[.long (126)], vm := .none },
  { cls := 15, slots := #[.long (127)], vm := .none },
  { cls := 11, slots := #[.null, .int 0, .int 0], vm := .none },
  { cls := 22, slots := #[.null, .null, .ref 8, .int 0], vm := .none }]
def classes : Array Class := #[k0, k1, k2, k3, k4, k5, k6, k7, k8, k9, k10, k11, k12, k13, k14, k15, k16, k17, k18, k19, k20, k21, k22, k23, k24, k25, k26, k27, k28, k29, k30, k31, k32, k33, k34, k35]
def interned : List (Array UInt16 × Addr) := []
def slotsUsed : Nat := 1065
def theMethod : MethodId := ⟨1, 1⟩
def args0 : Array Value := #[.int 5, .int 3, .int 3, .long 7, .int 0]
def aboutOver (below : List Frame) : State where
  vm := { classes := classes, interned := interned.toArray }
  heap := heap
  slotsUsed := slotsUsed
  threads := #[{ frames := .invoking theMethod args0 :: below }]
def below0 : List Frame := [.native { method := ⟨0, 0⟩, args := #[] }]
def about1 : State := aboutOver below0
def p0 : Program := .bare "" "" ""
def e0 : Env := launch0.env 0 0 0
theorem w_frames : about1.frames = Frame.invoking theMethod args0 :: below0 := rfl
set_option maxRecDepth 65536 in
theorem w_args : argsFit about1.vm theMethod args0 = true := by decide +kernel
set_option maxRecDepth 65536 in
theorem w_heap : heapFits about1 = true := by decide +kernel
set_option maxRecDepth 65536 in
theorem w_runnable : about1.curStatus? = some .runnable := by decide +kernel
set_option maxRecDepth 65536 in
theorem w_alone : about1.alone = true := by decide +kernel
set_option maxRecDepth 65536 in
theorem w_named : about1.methodNamed? x = some theMethod := by decide +kernel
set_option maxRecDepth 65536 in
theorem w_hears : about1.hears theMethod below0 = true := by decide +kernel
set_option maxRecDepth 65536 in
theorem w_ripe : about1.ripe theMethod args0 below0 = true := by decide +kernel
theorem w_running : about1.status = .running := rfl
set_option maxRecDepth 65536 in
theorem w_room : about1.hasRoom e0.platform room_1 = true :=
  launch0.hasRoom_least _ room_1 (by decide +kernel) (by decide +kernel) (by decide +kernel) (by decide +kernel) (by decide +kernel) (by decide +kernel)
theorem allAtoms_all (ts : List Jvm.Cond) (a : Array Jvm.Value) (st : Jvm.State) : (allAtoms ts).before a st = ts.all (fun c => c.before a st) := by
  induction ts with
  | nil => rfl
  | cons c t ih =>
    show (Jvm.Cond.and c (allAtoms t)).before a st = _
    rw [Jvm.Cond.before_and, ih, List.all_cons]
def words1 : List Jvm.Cond := Jvm.Cond.code x code maxLocals ret :: tables_1
/-- a 'code' word, met by the world's own term for the bytes: nothing is compared byte by byte -/
theorem code_word {y : MethodName} {bytes : ByteArray} {mx : Nat} {rt : Option FieldType} {a : Array Value} {s : State} {m : MethodId} {meth : Method} {c : Code} (h1 : s.methodNamed? y = some m) (h2 : s.vm.method? m = some meth) (h3 : meth.code = some c) (h4 : c.code = bytes)
    (h5 : (c.maxLocals == mx && c.exceptionTable.isEmpty && decide (c.maxStack ≤ mostOperands) && decide (meth.sig.returnType = rt) && !meth.locks && decide (parseMethodDescriptor y.desc = some meth.sig)) = true) : (Jvm.Cond.code y bytes mx rt).before a s = true := by
  simp only [Bool.and_eq_true, beq_iff_eq, Bool.not_eq_true', decide_eq_true_eq] at h5
  obtain ⟨⟨⟨⟨⟨g1, g2⟩, g3⟩, g4⟩, g5⟩, g6⟩ := h5
  simp [Cond.before, Cond.holds, Cond.value, h1, h2, h3, h4, g1, g2, g3, g4, g5, g6]
def isCode : Jvm.Cond → Bool
  | .code _ _ _ _ => true
  | _ => false
theorem all_split {L : List Jvm.Cond} {P : Jvm.Cond → Bool} (h1 : L.all (fun c => isCode c || P c) = true) (h2 : ∀ c ∈ L.filter isCode, P c = true) : L.all P = true := by
  refine List.all_eq_true.mpr fun c hc => ?_
  have h := List.all_eq_true.mp h1 c hc
  rcases Bool.eq_false_or_eq_true (isCode c) with hi | hi
  · exact h2 c (List.mem_filter.mpr ⟨hc, hi⟩)
  · simpa [hi] using h
set_option maxRecDepth 65536 in
theorem w_c0 : (Jvm.Cond.code x code maxLocals ret).before args0 about1 = true := code_word (m := ⟨1, 1⟩) (meth := k1m1) (c := k1c1) (by decide +kernel) rfl rfl rfl (by decide +kernel)
set_option maxRecDepth 65536 in
theorem w_c1 : (Jvm.Cond.code ({ cls := "java/lang/Integer", name := "valueOf", desc := "(I)Ljava/lang/Integer;" } : Jvm.MethodName) jdk_33_method_22_code (1 : Nat) (Option.some (Jvm.ClassFile.FieldType.object "java/lang/Integer"))).before args0 about1 = true := code_word (m := ⟨7, 0⟩) (meth := k7m0) (c := k7c0) (by decide +kernel) rfl rfl rfl (by decide +kernel)
set_option maxRecDepth 65536 in
theorem w_c2 : (Jvm.Cond.code ({ cls := "com/example/layered_mocks/layeredmocks/Answer", name := "value", desc := "(Ljava/lang/Object;)Lcom/example/layered_mocks/layeredmocks/Answer;" } : Jvm.MethodName) prog_1_method_3_code (1 : Nat) (Option.some (Jvm.ClassFile.FieldType.object "com/example/layered_mocks/layeredmocks/Answer"))).before args0 about1 = true := code_word (m := ⟨9, 2⟩) (meth := k9m2) (c := k9c2) (by decide +kernel) rfl rfl rfl (by decide +kernel)
set_option maxRecDepth 65536 in
theorem w_c3 : (Jvm.Cond.code ({ cls := "com/example/layered_mocks/layeredmocks/Answer", name := "<init>", desc := "(Lcom/example/layered_mocks/layeredmocks/Answer$Kind;Ljava/lang/Object;Ljava/lang/Throwable;Ljava/lang/String;Ljava/lang/String;Ljava/lang/String;)V" } : Jvm.MethodName) prog_1_method_1_code (7 : Nat) (Option.none : Option Jvm.ClassFile.FieldType)).before args0 about1 = true := code_word (m := ⟨9, 0⟩) (meth := k9m0) (c := k9c0) (by decide +kernel) rfl rfl rfl (by decide +kernel)
set_option maxRecDepth 65536 in
theorem w_c4 : (Jvm.Cond.code ({ cls := "java/util/Map", name := "of", desc := "()Ljava/util/Map;" } : Jvm.MethodName) jdk_72_method_26_code (0 : Nat) (Option.some (Jvm.ClassFile.FieldType.object "java/util/Map"))).before args0 about1 = true := code_word (m := ⟨12, 1⟩) (meth := k12m1) (c := k12c1) (by decide +kernel) rfl rfl rfl (by decide +kernel)
set_option maxRecDepth 65536 in
theorem w_c5 : (Jvm.Cond.code ({ cls := "com/example/layered_mocks/layeredmocks/Answer", name := "<init>", desc := "(Lcom/example/layered_mocks/layeredmocks/Answer$Kind;Ljava/lang/Object;Ljava/lang/Throwable;Ljava/lang/String;Ljava/lang/String;Ljava/lang/String;Ljava/util/Map;Ljava/time/Duration;)V" } : Jvm.MethodName) prog_1_method_2_code (9 : Nat) (Option.none : Option Jvm.ClassFile.FieldType)).before args0 about1 = true := code_word (m := ⟨9, 1⟩) (meth := k9m1) (c := k9c1) (by decide +kernel) rfl rfl rfl (by decide +kernel)
set_option maxRecDepth 65536 in
theorem w_c6 : (Jvm.Cond.code ({ cls := "java/lang/Object", name := "<init>", desc := "()V" } : Jvm.MethodName) object_method_1_code (1 : Nat) (Option.none : Option Jvm.ClassFile.FieldType)).before args0 about1 = true := code_word (m := ⟨0, 0⟩) (meth := k0m0) (c := k0c0) (by decide +kernel) rfl rfl rfl (by decide +kernel)
set_option maxRecDepth 65536 in
theorem w_c7 : (Jvm.Cond.code ({ cls := "com/example/layered_mocks/layeredmocks/Answer", name := "kind", desc := "()Lcom/example/layered_mocks/layeredmocks/Answer$Kind;" } : Jvm.MethodName) prog_1_method_10_code (1 : Nat) (Option.some (Jvm.ClassFile.FieldType.object "com/example/layered_mocks/layeredmocks/Answer$Kind"))).before args0 about1 = true := code_word (m := ⟨9, 3⟩) (meth := k9m3) (c := k9c3) (by decide +kernel) rfl rfl rfl (by decide +kernel)
set_option maxRecDepth 65536 in
theorem w_c8 : (Jvm.Cond.code ({ cls := "com/example/layered_mocks/layeredmocks/Answer", name := "result", desc := "()Ljava/lang/Object;" } : Jvm.MethodName) prog_1_method_11_code (1 : Nat) (Option.some (Jvm.ClassFile.FieldType.object "java/lang/Object"))).before args0 about1 = true := code_word (m := ⟨9, 4⟩) (meth := k9m4) (c := k9c4) (by decide +kernel) rfl rfl rfl (by decide +kernel)
set_option maxRecDepth 65536 in
theorem w_c9 : (Jvm.Cond.code ({ cls := "com/example/layered_mocks/layeredmocks/Answer", name := "failure", desc := "()Ljava/lang/Throwable;" } : Jvm.MethodName) prog_1_method_12_code (1 : Nat) (Option.some (Jvm.ClassFile.FieldType.object "java/lang/Throwable"))).before args0 about1 = true := code_word (m := ⟨9, 5⟩) (meth := k9m5) (c := k9c5) (by decide +kernel) rfl rfl rfl (by decide +kernel)
set_option maxRecDepth 65536 in
theorem w_c10 : (Jvm.Cond.code ({ cls := "com/example/layered_mocks/layeredmocks/Answer", name := "delay", desc := "()Ljava/time/Duration;" } : Jvm.MethodName) prog_1_method_14_code (1 : Nat) (Option.some (Jvm.ClassFile.FieldType.object "java/time/Duration"))).before args0 about1 = true := code_word (m := ⟨9, 6⟩) (meth := k9m6) (c := k9c6) (by decide +kernel) rfl rfl rfl (by decide +kernel)
set_option maxRecDepth 65536 in
theorem w_c11 : (Jvm.Cond.code ({ cls := "com/example/layered_mocks/layeredmocks/Answer", name := "equals", desc := "(Ljava/lang/Object;)Z" } : Jvm.MethodName) prog_1_method_16_code (3 : Nat) (Option.some Jvm.ClassFile.FieldType.boolean)).before args0 about1 = true := code_word (m := ⟨9, 7⟩) (meth := k9m7) (c := k9c7) (by decide +kernel) rfl rfl rfl (by decide +kernel)
set_option maxRecDepth 65536 in
theorem w_c12 : (Jvm.Cond.code ({ cls := "java/util/Objects", name := "equals", desc := "(Ljava/lang/Object;Ljava/lang/Object;)Z" } : Jvm.MethodName) jdk_31_method_2_code (2 : Nat) (Option.some Jvm.ClassFile.FieldType.boolean)).before args0 about1 = true := code_word (m := ⟨14, 1⟩) (meth := k14m1) (c := k14c1) (by decide +kernel) rfl rfl rfl (by decide +kernel)
set_option maxRecDepth 65536 in
theorem w_c13 : (Jvm.Cond.code ({ cls := "java/lang/Long", name := "valueOf", desc := "(J)Ljava/lang/Long;" } : Jvm.MethodName) jdk_35_method_24_code (3 : Nat) (Option.some (Jvm.ClassFile.FieldType.object "java/lang/Long"))).before args0 about1 = true := code_word (m := ⟨15, 0⟩) (meth := k15m0) (c := k15c0) (by decide +kernel) rfl rfl rfl (by decide +kernel)
set_option maxRecDepth 65536 in
theorem w_c14 : (Jvm.Cond.code ({ cls := "java/lang/Long", name := "<init>", desc := "(J)V" } : Jvm.MethodName) jdk_35_method_26_code (3 : Nat) (Option.none : Option Jvm.ClassFile.FieldType)).before args0 about1 = true := code_word (m := ⟨15, 1⟩) (meth := k15m1) (c := k15c1) (by decide +kernel) rfl rfl rfl (by decide +kernel)
set_option maxRecDepth 65536 in
theorem w_c15 : (Jvm.Cond.code ({ cls := "java/lang/Number", name := "<init>", desc := "()V" } : Jvm.MethodName) jdk_18_method_1_code (1 : Nat) (Option.none : Option Jvm.ClassFile.FieldType)).before args0 about1 = true := code_word (m := ⟨3, 0⟩) (meth := k3m0) (c := k3c0) (by decide +kernel) rfl rfl rfl (by decide +kernel)
set_option maxRecDepth 65536 in
theorem w_c16 : (Jvm.Cond.code ({ cls := "java/lang/Long", name := "equals", desc := "(Ljava/lang/Object;)Z" } : Jvm.MethodName) jdk_35_method_37_code (2 : Nat) (Option.some Jvm.ClassFile.FieldType.boolean)).before args0 about1 = true := code_word (m := ⟨15, 2⟩) (meth := k15m2) (c := k15c2) (by decide +kernel) rfl rfl rfl (by decide +kernel)
set_option maxRecDepth 65536 in
theorem w_c17 : (Jvm.Cond.code ({ cls := "java/lang/Integer", name := "<init>", desc := "(I)V" } : Jvm.MethodName) jdk_33_method_23_code (2 : Nat) (Option.none : Option Jvm.ClassFile.FieldType)).before args0 about1 = true := code_word (m := ⟨7, 1⟩) (meth := k7m1) (c := k7c1) (by decide +kernel) rfl rfl rfl (by decide +kernel)
set_option maxRecDepth 65536 in
theorem w_c18 : (Jvm.Cond.code ({ cls := "java/lang/Integer", name := "equals", desc := "(Ljava/lang/Object;)Z" } : Jvm.MethodName) jdk_33_method_34_code (2 : Nat) (Option.some Jvm.ClassFile.FieldType.boolean)).before args0 about1 = true := code_word (m := ⟨7, 3⟩) (meth := k7m3) (c := k7c3) (by decide +kernel) rfl rfl rfl (by decide +kernel)
set_option maxRecDepth 65536 in
theorem w_c19 : (Jvm.Cond.code ({ cls := "java/lang/Integer", name := "intValue", desc := "()I" } : Jvm.MethodName) jdk_33_method_27_code (1 : Nat) (Option.some Jvm.ClassFile.FieldType.int)).before args0 about1 = true := code_word (m := ⟨7, 2⟩) (meth := k7m2) (c := k7c2) (by decide +kernel) rfl rfl rfl (by decide +kernel)
set_option maxRecDepth 65536 in
theorem w_c20 : (Jvm.Cond.code ({ cls := "java/lang/String", name := "<init>", desc := "([C)V" } : Jvm.MethodName) jdk_42_method_3_code (2 : Nat) (Option.none : Option Jvm.ClassFile.FieldType)).before args0 about1 = true := code_word (m := ⟨17, 1⟩) (meth := k17m1) (c := k17c1) (by decide +kernel) rfl rfl rfl (by decide +kernel)
set_option maxRecDepth 65536 in
theorem w_c21 : (Jvm.Cond.code ({ cls := "java/lang/String", name := "<init>", desc := "([CIILjava/lang/Void;)V" } : Jvm.MethodName) jdk_42_method_149_code (6 : Nat) (Option.none : Option Jvm.ClassFile.FieldType)).before args0 about1 = true := code_word (m := ⟨17, 3⟩) (meth := k17m3) (c := k17c3) (by decide +kernel) rfl rfl rfl (by decide +kernel)
set_option maxRecDepth 65536 in
theorem w_c22 : (Jvm.Cond.code ({ cls := "java/lang/StringUTF16", name := "compress", desc := "([CII)[B" } : Jvm.MethodName) jdk_52_method_16_code (6 : Nat) (Option.some (Jvm.ClassFile.FieldType.array Jvm.ClassFile.FieldType.byte))).before args0 about1 = true := code_word (m := ⟨18, 2⟩) (meth := k18m2) (c := k18c2) (by decide +kernel) rfl rfl rfl (by decide +kernel)
set_option maxRecDepth 65536 in
theorem w_c23 : (Jvm.Cond.code ({ cls := "java/lang/StringUTF16", name := "compress", desc := "([CI[BII)I" } : Jvm.MethodName) jdk_52_method_21_code (7 : Nat) (Option.some Jvm.ClassFile.FieldType.int)).before args0 about1 = true := code_word (m := ⟨18, 3⟩) (meth := k18m3) (c := k18c3) (by decide +kernel) rfl rfl rfl (by decide +kernel)
set_option maxRecDepth 65536 in
theorem w_c24 : (Jvm.Cond.code ({ cls := "java/lang/StringUTF16", name := "coderFromArrayLen", desc := "([BI)B" } : Jvm.MethodName) jdk_52_method_15_code (2 : Nat) (Option.some Jvm.ClassFile.FieldType.byte)).before args0 about1 = true := code_word (m := ⟨18, 1⟩) (meth := k18m1) (c := k18c1) (by decide +kernel) rfl rfl rfl (by decide +kernel)
set_option maxRecDepth 65536 in
theorem w_c25 : (Jvm.Cond.code ({ cls := "java/lang/String", name := "equals", desc := "(Ljava/lang/Object;)Z" } : Jvm.MethodName) jdk_42_method_66_code (3 : Nat) (Option.some Jvm.ClassFile.FieldType.boolean)).before args0 about1 = true := code_word (m := ⟨17, 2⟩) (meth := k17m2) (c := k17c2) (by decide +kernel) rfl rfl rfl (by decide +kernel)
def codes1 : List Jvm.Cond := [Jvm.Cond.code x code maxLocals ret, Jvm.Cond.code ({ cls := "java/lang/Integer", name := "valueOf", desc := "(I)Ljava/lang/Integer;" } : Jvm.MethodName) jdk_33_method_22_code (1 : Nat) (Option.some (Jvm.ClassFile.FieldType.object "java/lang/Integer")), Jvm.Cond.code ({ cls := "com/example/layered_mocks/layeredmocks/Answer", name := "value", desc := "(Ljava/lang/Object;)Lcom/example/layered_mocks/layeredmocks/Answer;" } : Jvm.MethodName) prog_1_method_3_code (1 : Nat) (Option.some (Jvm.ClassFile.FieldType.object "com/example/layered_mocks/layeredmocks/Answer")), Jvm.Cond.code ({ cls := "com/example/layered_mocks/layeredmocks/Answer", name := "<init>", desc := "(Lcom/example/layered_mocks/layeredmocks/Answer$Kind;Ljava/lang/Object;Ljava/lang/Throwable;Ljava/lang/String;Ljava/lang/String;Ljava/lang/String;)V" } : Jvm.MethodName) prog_1_method_1_code (7 : Nat) (Option.none : Option Jvm.ClassFile.FieldType), Jvm.Cond.code ({ cls := "java/util/Map", name := "of", desc := "()Ljava/util/Map;" } : Jvm.MethodName) jdk_72_method_26_code (0 : Nat) (Option.some (Jvm.ClassFile.FieldType.object "java/util/Map")), Jvm.Cond.code ({ cls := "com/example/layered_mocks/layeredmocks/Answer", name := "<init>", desc := "(Lcom/example/layered_mocks/layeredmocks/Answer$Kind;Ljava/lang/Object;Ljava/lang/Throwable;Ljava/lang/String;Ljava/lang/String;Ljava/lang/String;Ljava/util/Map;Ljava/time/Duration;)V" } : Jvm.MethodName) prog_1_method_2_code (9 : Nat) (Option.none : Option Jvm.ClassFile.FieldType), Jvm.Cond.code ({ cls := "java/lang/Object", name := "<init>", desc := "()V" } : Jvm.MethodName) object_method_1_code (1 : Nat) (Option.none : Option Jvm.ClassFile.FieldType), Jvm.Cond.code ({ cls := "com/example/layered_mocks/layeredmocks/Answer", name := "kind", desc := "()Lcom/example/layered_mocks/layeredmocks/Answer$Kind;" } : Jvm.MethodName) prog_1_method_10_code (1 : Nat) (Option.some (Jvm.ClassFile.FieldType.object "com/example/layered_mocks/layeredmocks/Answer$Kind")), Jvm.Cond.code ({ cls := "com/example/layered_mocks/layeredmocks/Answer", name := "result", desc := "()Ljava/lang/Object;" } : Jvm.MethodName) prog_1_method_11_code (1 : Nat) (Option.some (Jvm.ClassFile.FieldType.object "java/lang/Object")), Jvm.Cond.code ({ cls := "com/example/layered_mocks/layeredmocks/Answer", name := "failure", desc := "()Ljava/lang/Throwable;" } : Jvm.MethodName) prog_1_method_12_code (1 : Nat) (Option.some (Jvm.ClassFile.FieldType.object "java/lang/Throwable")), Jvm.Cond.code ({ cls := "com/example/layered_mocks/layeredmocks/Answer", name := "delay", desc := "()Ljava/time/Duration;" } : Jvm.MethodName) prog_1_method_14_code (1 : Nat) (Option.some (Jvm.ClassFile.FieldType.object "java/time/Duration")), Jvm.Cond.code ({ cls := "com/example/layered_mocks/layeredmocks/Answer", name := "equals", desc := "(Ljava/lang/Object;)Z" } : Jvm.MethodName) prog_1_method_16_code (3 : Nat) (Option.some Jvm.ClassFile.FieldType.boolean), Jvm.Cond.code ({ cls := "java/util/Objects", name := "equals", desc := "(Ljava/lang/Object;Ljava/lang/Object;)Z" } : Jvm.MethodName) jdk_31_method_2_code (2 : Nat) (Option.some Jvm.ClassFile.FieldType.boolean), Jvm.Cond.code ({ cls := "java/lang/Long", name := "valueOf", desc := "(J)Ljava/lang/Long;" } : Jvm.MethodName) jdk_35_method_24_code (3 : Nat) (Option.some (Jvm.ClassFile.FieldType.object "java/lang/Long")), Jvm.Cond.code ({ cls := "java/lang/Long", name := "<init>", desc := "(J)V" } : Jvm.MethodName) jdk_35_method_26_code (3 : Nat) (Option.none : Option Jvm.ClassFile.FieldType), Jvm.Cond.code ({ cls := "java/lang/Number", name := "<init>", desc := "()V" } : Jvm.MethodName) jdk_18_method_1_code (1 : Nat) (Option.none : Option Jvm.ClassFile.FieldType), Jvm.Cond.code ({ cls := "java/lang/Long", name := "equals", desc := "(Ljava/lang/Object;)Z" } : Jvm.MethodName) jdk_35_method_37_code (2 : Nat) (Option.some Jvm.ClassFile.FieldType.boolean), Jvm.Cond.code ({ cls := "java/lang/Integer", name := "<init>", desc := "(I)V" } : Jvm.MethodName) jdk_33_method_23_code (2 : Nat) (Option.none : Option Jvm.ClassFile.FieldType), Jvm.Cond.code ({ cls := "java/lang/Integer", name := "equals", desc := "(Ljava/lang/Object;)Z" } : Jvm.MethodName) jdk_33_method_34_code (2 : Nat) (Option.some Jvm.ClassFile.FieldType.boolean), Jvm.Cond.code ({ cls := "java/lang/Integer", name := "intValue", desc := "()I" } : Jvm.MethodName) jdk_33_method_27_code (1 : Nat) (Option.some Jvm.ClassFile.FieldType.int), Jvm.Cond.code ({ cls := "java/lang/String", name := "<init>", desc := "([C)V" } : Jvm.MethodName) jdk_42_method_3_code (2 : Nat) (Option.none : Option Jvm.ClassFile.FieldType), Jvm.Cond.code ({ cls := "java/lang/String", name := "<init>", desc := "([CIILjava/lang/Void;)V" } : Jvm.MethodName) jdk_42_method_149_code (6 : Nat) (Option.none : Option Jvm.ClassFile.FieldType), Jvm.Cond.code ({ cls := "java/lang/StringUTF16", name := "compress", desc := "([CII)[B" } : Jvm.MethodName) jdk_52_method_16_code (6 : Nat) (Option.some (Jvm.ClassFile.FieldType.array Jvm.ClassFile.FieldType.byte)), Jvm.Cond.code ({ cls := "java/lang/StringUTF16", name := "compress", desc := "([CI[BII)I" } : Jvm.MethodName) jdk_52_method_21_code (7 : Nat) (Option.some Jvm.ClassFile.FieldType.int), Jvm.Cond.code ({ cls := "java/lang/StringUTF16", name := "coderFromArrayLen", desc := "([BI)B" } : Jvm.MethodName) jdk_52_method_15_code (2 : Nat) (Option.some Jvm.ClassFile.FieldType.byte), Jvm.Cond.code ({ cls := "java/lang/String", name := "equals", desc := "(Ljava/lang/Object;)Z" } : Jvm.MethodName) jdk_42_method_66_code (3 : Nat) (Option.some Jvm.ClassFile.FieldType.boolean)]
set_option maxRecDepth 65536 in
theorem codes_eq : words1.filter isCode = codes1 := rfl
theorem w_codes : ∀ c ∈ words1.filter isCode, c.before args0 about1 = true := by
  rw [codes_eq]
  intro c hc
  simp only [codes1, List.mem_cons, List.not_mem_nil, or_false] at hc
  rcases hc with rfl | rfl | rfl | rfl | rfl | rfl | rfl | rfl | rfl | rfl | rfl | rfl | rfl | rfl | rfl | rfl | rfl | rfl | rfl | rfl | rfl | rfl | rfl | rfl | rfl | rfl
  · exact w_c0
  · exact w_c1
  · exact w_c2
  · exact w_c3
  · exact w_c4
  · exact w_c5
  · exact w_c6
  · exact w_c7
  · exact w_c8
  · exact w_c9
  · exact w_c10
  · exact w_c11
  · exact w_c12
  · exact w_c13
  · exact w_c14
  · exact w_c15
  · exact w_c16
  · exact w_c17
  · exact w_c18
  · exact w_c19
  · exact w_c20
  · exact w_c21
  · exact w_c22
  · exact w_c23
  · exact w_c24
  · exact w_c25
set_option maxRecDepth 65536 in
theorem w_t1 : (words1.take 24).all (fun c => isCode c || c.before args0 about1) = true := by decide +kernel
set_option maxRecDepth 65536 in
theorem w_t2 : ((words1.drop 24).take 24).all (fun c => isCode c || c.before args0 about1) = true := by decide +kernel
set_option maxRecDepth 65536 in
theorem w_t3 : (((words1.drop 24).drop 24).take 24).all (fun c => isCode c || c.before args0 about1) = true := by decide +kernel
set_option maxRecDepth 65536 in
theorem w_t4 : ((((words1.drop 24).drop 24).drop 24).take 24).all (fun c => isCode c || c.before args0 about1) = true := by decide +kernel
set_option maxRecDepth 65536 in
theorem w_t5 : (((((words1.drop 24).drop 24).drop 24).drop 24).take 24).all (fun c => isCode c || c.before args0 about1) = true := by decide +kernel
set_option maxRecDepth 65536 in
theorem w_t6 : ((((((words1.drop 24).drop 24).drop 24).drop 24).drop 24).take 24).all (fun c => isCode c || c.before args0 about1) = true := by decide +kernel
set_option maxRecDepth 65536 in
theorem w_t7 : (((((((words1.drop 24).drop 24).drop 24).drop 24).drop 24).drop 24).take 24).all (fun c => isCode c || c.before args0 about1) = true := by decide +kernel
set_option maxRecDepth 65536 in
theorem w_t8 : (((((((words1.drop 24).drop 24).drop 24).drop 24).drop 24).drop 24).drop 24).all (fun c => isCode c || c.before args0 about1) = true := by decide +kernel
theorem w_tables : (allAtoms (Jvm.Cond.code x code maxLocals ret :: tables_1)).before args0 about1 = true := by
  rw [allAtoms_all]
  show words1.all (fun c => c.before args0 about1) = true
  refine all_split ?_ w_codes
  rw [← List.take_append_drop 24 words1, List.all_append, w_t1, ← List.take_append_drop 24 (words1.drop 24), List.all_append, w_t2, ← List.take_append_drop 24 ((words1.drop 24).drop 24), List.all_append, w_t3, ← List.take_append_drop 24 (((words1.drop 24).drop 24).drop 24), List.all_append, w_t4, ← List.take_append_drop 24 ((((words1.drop 24).drop 24).drop 24).drop 24), List.all_append, w_t5, ← List.take_append_drop 24 (((((words1.drop 24).drop 24).drop 24).drop 24).drop 24), List.all_append, w_t6, ← List.take_append_drop 24 ((((((words1.drop 24).drop 24).drop 24).drop 24).drop 24).drop 24), List.all_append, w_t7, w_t8]
  rfl
set_option maxRecDepth 65536 in
theorem w_rest : rest_1_c.before args0 about1 = true := by decide +kernel
set_option maxRecDepth 65536 in
theorem w_case : (Jvm.Cond.and given_1 narrow_1).before args0 about1 = true := by decide +kernel
theorem w_applies : (headSpec (Jvm.Cond.code x code maxLocals ret :: tables_1) room_1).applies x e0.platform about1 = true :=
  (Spec.applies_iff w_frames).mpr ⟨w_running, w_runnable, w_alone, w_named, w_hears, w_ripe, w_room, w_tables⟩
theorem atStart : AtStart classFile x code maxLocals ret World_1 tables_1 room_1 Calls_1 rest_1 Pre_1 launch0 p0 e0 about1 theMethod args0 below0 :=
  ⟨lists_1, trivial, launch0.admits_env _ _ _, launch0.least_env, fairChoices_fair.cas, fairChoices_fair.clock, w_frames, w_args, w_heap, w_applies, trivial, w_rest, w_case⟩
end start1
theorem witness_1 : WitnessClaimed_1 := ⟨start1.p0, start1.e0, start1.about1, start1.theMethod, start1.args0, start1.below0, start1.atStart⟩
end Jvm.Pilot.@@N@@
