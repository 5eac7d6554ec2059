import JvmDerived
import JvmDerived.Pilot.@@N@@Statement
import JvmDerived.Pilot.@@N@@Code
set_option linter.unusedVariables false
set_option linter.unusedSimpArgs false
/- laws to paste: Road.backV (cut by pick.py; bodies as the Statement names them) -/
namespace Jvm.Pilot.@@N@@
namespace StrChars
open Jvm Sem ClassFile Op Lib Jvm.Stand Jvm.Free.XT Jvm.Free.ALB Jvm.Free.JM Jvm.Free
open Jvm.Lib.Cold (StaticIs)
/-- a char array whose places are chars -/
def Ch (a : Addr) (A : Cell) (U : State) : Prop := Arr .char a A U ∧ Typed .char A
theorem Ch.mv {a : Addr} {A : Cell} {U U' : State} (h : Ch a A U) (hal : U.vm.Alike U'.vm) (hh : U'.heap = U.heap) : Ch a A U' := ⟨h.1.mv hal hh, h.2⟩
theorem Ch.keep {a : Addr} {A : Cell} {U U' : State} (h : Ch a A U) (hal : U.vm.Alike U'.vm) (hk : U'.heap[a]? = some A) : Ch a A U' := ⟨h.1.keep hal hk, h.2⟩
/-- what place i of a char[]'s cell holds -/
def cv (A : Cell) (i : Nat) : Int32 := match A.slots[i]? with | some (.int x) => x | _ => 0
theorem Ch.get {a : Addr} {A : Cell} {U : State} (h : Ch a A U) {i : Nat} (hi : i < A.slots.size) : A.slots[i]? = some (.int (cv A i)) := by
  have e := Array.getElem?_eq_getElem hi
  have f := h.2 i _ e
  unfold cv; rw [e]
  generalize A.slots[i] = v at f
  cases v <;> simp [fits] at f ⊢
/-- the byte that i2b leaves of a char -/
def lo8 (x : Int32) : Int32 := x.toInt8.toInt32
theorem fits_lo8 (y : Int32) : fits .byte (.int (lo8 y)) = true := by
  have h1 := y.toInt8.le_toInt
  have h2 := y.toInt8.toInt_lt
  simp only [lo8, fits, Bool.and_eq_true, decide_eq_true_eq, Int32.le_iff_toInt_le, Int8.toInt_toInt32, show (-128 : Int32).toInt = -128 from by decide, show (127 : Int32).toInt = 127 from by decide]
  omega
/-- A' is A but that each place j of lo .. hi - 1 holds f j -/
def Laid (A A' : Cell) (lo hi : Nat) (f : Nat → Value) : Prop := A'.cls = A.cls ∧ A'.vm = A.vm ∧ A'.slots.size = A.slots.size ∧ ∀ i, A'.slots[i]? = if lo ≤ i ∧ i < hi then some (f i) else A.slots[i]?
theorem Laid.zero (A : Cell) (lo : Nat) (f : Nat → Value) : Laid A A lo (lo + 0) f := ⟨rfl, rfl, rfl, fun i => by rw [if_neg (by omega)]⟩
theorem Laid.step {A Ak : Cell} {lo k : Nat} {f : Nat → Value} {v : Value} (h : Laid A Ak lo k f) (hlo : lo ≤ k) (hk : k < Ak.slots.size) (hv : v = f k) : Laid A (Ak.setSlot k v) lo (k + 1) f := by
  refine ⟨h.1, h.2.1, by simpa [Cell.setSlot] using h.2.2.1, fun i => ?_⟩
  by_cases e : k = i
  · subst e; rw [Cell.slots_setSlot_self v hk, if_pos (by omega), hv]
  · rw [Cell.slots_setSlot_ne v e, h.2.2.2 i]
    by_cases q : lo ≤ i ∧ i < k
    · rw [if_pos q, if_pos (by omega)]
    · rw [if_neg q, if_neg (by omega)]
def U16 : String := "java/lang/StringUTF16"
namespace Cmp5
def yN : MethodName := ⟨"java/lang/StringUTF16", "compress", "([CI[BII)I"⟩
abbrev yB : ByteArray := jdk_52_method_21_code
theorem d0 : decode yB 0 = .ok (.iconst 0, 1) := by decide +kernel
theorem d1 : decode yB 1 = .ok (.istore 5, 2) := by decide +kernel
theorem d3 : decode yB 3 = .ok (.iload 5, 2) := by decide +kernel
theorem d5 : decode yB 5 = .ok (.iload 4, 2) := by decide +kernel
theorem d7 : decode yB 7 = .ok (.if_icmp (.ge) 37, 3) := by decide +kernel
theorem d10 : decode yB 10 = .ok (.aload_n 0, 1) := by decide +kernel
theorem d11 : decode yB 11 = .ok (.iload_n 1, 1) := by decide +kernel
theorem d12 : decode yB 12 = .ok (.caload, 1) := by decide +kernel
theorem d13 : decode yB 13 = .ok (.istore 6, 2) := by decide +kernel
theorem d15 : decode yB 15 = .ok (.iload 6, 2) := by decide +kernel
theorem d17 : decode yB 17 = .ok (.sipush 255, 3) := by decide +kernel
theorem d20 : decode yB 20 = .ok (.if_icmp (.le) 6, 3) := by decide +kernel
theorem d26 : decode yB 26 = .ok (.aload_n 2, 1) := by decide +kernel
theorem d27 : decode yB 27 = .ok (.iload_n 3, 1) := by decide +kernel
theorem d28 : decode yB 28 = .ok (.iload 6, 2) := by decide +kernel
theorem d30 : decode yB 30 = .ok (.i2b, 1) := by decide +kernel
theorem d31 : decode yB 31 = .ok (.bastore, 1) := by decide +kernel
theorem d32 : decode yB 32 = .ok (.iinc 1 1, 3) := by decide +kernel
theorem d35 : decode yB 35 = .ok (.iinc 3 1, 3) := by decide +kernel
theorem d38 : decode yB 38 = .ok (.iinc 5 1, 3) := by decide +kernel
theorem d41 : decode yB 41 = .ok (.goto (-38), 3) := by decide +kernel
theorem d44 : decode yB 44 = .ok (.iload 4, 2) := by decide +kernel
theorem d46 : decode yB 46 = .ok (.ireturn, 1) := by decide +kernel
def site : List Cond := []
def tab : Cond := tabOf yN yB 7 (some .int) site
def P (b : Addr) (A : Cell) (d : Addr) (B : Cell) (o q len : Nat) (args : Array Value) (s : State) : Prop := args = #[.ref b, .int (Int32.ofNat o), .ref d, .int (Int32.ofNat q), .int (Int32.ofNat len)] ∧ Ch b A s ∧ Arr .byte d B s ∧ b ≠ d ∧ o + len ≤ A.slots.size ∧ q + len ≤ B.slots.size ∧ ∀ i, i < len → ¬ 255 < cv A (o + i)
def E (b : Addr) (A : Cell) (d : Addr) (B : Cell) (o q len : Nat) (r : Option Value) (s u : State) : Prop := r = some (.int (Int32.ofNat len)) ∧ ∃ B', Put d B' s u ∧ Laid B B' q (q + len) (fun j => Value.int (lo8 (cv A (o + (j - q)))))
/-- no char of the range above 255: len; the places written hold each char's low byte -/
theorem law (l : Launch) (b : Addr) (A : Cell) (d : Addr) (B : Cell) (o q len : Nat) : Law l yN 5 5 0 0 yB 7 (some .int) site (P b A d B o q len) (E b A d B o q len) (copyLocs d q len) 0 0 := by
  refine Law.of_walk (plainFor_of_name (by decide +kernel)) (by decide +kernel) (by decide +kernel) (by decide) (fun _ _ h => by rw [h.1]; rfl) (fun _ U U' hal hh h => ⟨h.1, h.2.1.mv hal hh, h.2.2.1.mv hal hh, h.2.2.2⟩) (fun r U U' V V' h1 hal h2 h => ⟨h.1, h.2.elim fun B' q => ⟨B', q.1.mv h1 h2, q.2⟩⟩) ?_
  intro p e s m args below meth c s₁ X0 hexec hbytes hml hret hlk hnm hown hh0 W hP
  obtain ⟨rfl, hA, hB, hne, l1, l2, hp⟩ := hP
  have c1 : Steps p.tables e below (s₁.setTop (entryFrame m #[.ref b, .int (Int32.ofNat o), .ref d, .int (Int32.ofNat q), .int (Int32.ofNat len)] 7)) (s₁.setTop (mkF m 0 #[.val (.ref b), .val (.int (Int32.ofNat o)), .val (.ref d), .val (.int (Int32.ofNat q)), .val (.int (Int32.ofNat len)), .unset, .unset] [])) := entry rfl
  have hA0 := hA.1.mv X0.warmed.alike hh0
  have hB0 := hB.mv X0.warmed.alike hh0
  have a31 := hA.1.2.2.2
  have c2 : Steps p.tables e below (s₁.setTop (entryFrame m #[.ref b, .int (Int32.ofNat o), .ref d, .int (Int32.ofNat q), .int (Int32.ofNat len)] 7)) (s₁.setTop (mkF m 3 #[.val (.ref b), .val (.int (Int32.ofNat o)), .val (.ref d), .val (.int (Int32.ofNat q)), .val (.int (Int32.ofNat len)), .val (.int 0), .unset] [])) := c1.trans (by
    refine iconstV X0.here hexec rfl 0 (hb hbytes d0) (by decide) ?_
    refine XS.istore X0.here hexec rfl (hb hbytes d1) rfl rfl ?_
    exact Steps.refl _)
  have loop : ∀ (r i : Nat), i + r = len → ∀ (z : Slot), (z = .unset ∨ ∃ w, z = .val w ∧ w.category = 1) → ∀ (Tl : State) (Bk : Cell), Stand p l e { frames := 0, locals := 0, cells := 0, slots := 0 } s m #[.ref b, .int (Int32.ofNat o), .ref d, .int (Int32.ofNat q), .int (Int32.ofNat len)] below meth c Tl ([] ++ copyLocs d q i) 0 0 → Put d Bk s₁ Tl → Laid B Bk q (q + i) (fun j => Value.int (lo8 (cv A (o + (j - q))))) →
      Steps p.tables e below (s₁.setTop (entryFrame m #[.ref b, .int (Int32.ofNat o), .ref d, .int (Int32.ofNat q), .int (Int32.ofNat len)] 7)) (Tl.setTop (mkF m 3 #[.val (.ref b), .val (.int (Int32.ofNat (o + i))), .val (.ref d), .val (.int (Int32.ofNat (q + i))), .val (.int (Int32.ofNat len)), .val (.int (Int32.ofNat i)), z] [])) → ∃ (T' : State) (B' : Cell) (z' : Slot), Stand p l e { frames := 0, locals := 0, cells := 0, slots := 0 } s m #[.ref b, .int (Int32.ofNat o), .ref d, .int (Int32.ofNat q), .int (Int32.ofNat len)] below meth c T' ([] ++ copyLocs d q len) 0 0 ∧ Put d B' s₁ T' ∧ Laid B B' q (q + len) (fun j => Value.int (lo8 (cv A (o + (j - q))))) ∧
      Steps p.tables e below (s₁.setTop (entryFrame m #[.ref b, .int (Int32.ofNat o), .ref d, .int (Int32.ofNat q), .int (Int32.ofNat len)] 7)) (T'.setTop (mkF m 3 #[.val (.ref b), .val (.int (Int32.ofNat (o + len))), .val (.ref d), .val (.int (Int32.ofNat (q + len))), .val (.int (Int32.ofNat len)), .val (.int (Int32.ofNat len)), z'] [])) := by
    intro r
    induction r with
    | zero =>
      intro i hi z hz Tl Bk Xl pl fl cl
      have hil : i = len := by omega
      rw [hil] at Xl fl cl
      exact ⟨Tl, Bk, z, Xl, pl, fl, cl⟩
    | succ r ih =>
      intro i hi z hz Tl Bk Xl pl fl cl
      have all := X0.warmed.alike.symm.trans Xl.warmed.alike
      have hAl := hA0.keep all (pl.other hne hA0.1)
      have hBk := hB0.like all pl.1 fl.1 fl.2.1 fl.2.2.1
      have hlt : q + i < Bk.slots.size := by rw [fl.2.2.1]; omega
      have c3 : Steps p.tables e below (s₁.setTop (entryFrame m #[.ref b, .int (Int32.ofNat o), .ref d, .int (Int32.ofNat q), .int (Int32.ofNat len)] 7)) (Tl.setTop (mkF m 12 #[.val (.ref b), .val (.int (Int32.ofNat (o + i))), .val (.ref d), .val (.int (Int32.ofNat (q + i))), .val (.int (Int32.ofNat len)), .val (.int (Int32.ofNat i)), z] [.int (Int32.ofNat (o + i)), .ref b])) := cl.trans (by
        refine XS.iload Xl.here hexec rfl (hb hbytes d3) rfl ?_
        refine XS.iload Xl.here hexec rfl (hb hbytes d5) rfl ?_
        refine XS.icmpNo Xl.here hexec rfl (hb hbytes d7) rfl (ii_ge_f (lt32 (by omega) (by omega))) ?_
        refine XS.aloadN Xl.here hexec rfl (hb hbytes d10) rfl rfl ?_
        refine XS.iloadN Xl.here hexec rfl (hb hbytes d11) rfl ?_
        exact Steps.refl _)
      have c4 : Steps p.tables e below (s₁.setTop (entryFrame m #[.ref b, .int (Int32.ofNat o), .ref d, .int (Int32.ofNat q), .int (Int32.ofNat len)] 7)) (Tl.setTop (mkF m 13 #[.val (.ref b), .val (.int (Int32.ofNat (o + i))), .val (.ref d), .val (.int (Int32.ofNat (q + i))), .val (.int (Int32.ofNat len)), .val (.int (Int32.ofNat i)), z] [.int (cv A (o + i))])) := c3.trans (by
        refine Xl.aget hexec hAl rfl (hA.get (i := o + i) (by omega)) rfl rfl (hb hbytes d12) ?_
        exact Steps.refl _)
      have c5 : Steps p.tables e below (s₁.setTop (entryFrame m #[.ref b, .int (Int32.ofNat o), .ref d, .int (Int32.ofNat q), .int (Int32.ofNat len)] 7)) (Tl.setTop (mkF m 15 #[.val (.ref b), .val (.int (Int32.ofNat (o + i))), .val (.ref d), .val (.int (Int32.ofNat (q + i))), .val (.int (Int32.ofNat len)), .val (.int (Int32.ofNat i)), .val (.int (cv A (o + i)))] [])) := c4.trans (by
        refine XS.istoreS Xl.here hexec rfl (hb hbytes d13) rfl rfl hz ?_
        exact Steps.refl _)
      have c6 : Steps p.tables e below (s₁.setTop (entryFrame m #[.ref b, .int (Int32.ofNat o), .ref d, .int (Int32.ofNat q), .int (Int32.ofNat len)] 7)) (Tl.setTop (mkF m 31 #[.val (.ref b), .val (.int (Int32.ofNat (o + i))), .val (.ref d), .val (.int (Int32.ofNat (q + i))), .val (.int (Int32.ofNat len)), .val (.int (Int32.ofNat i)), .val (.int (cv A (o + i)))] [.int (lo8 (cv A (o + i))), .int (Int32.ofNat (q + i)), .ref d])) := c5.trans (by
        refine XS.iload Xl.here hexec rfl (hb hbytes d15) rfl ?_
        refine sipushV Xl.here hexec rfl 255 (hb hbytes d17) (by decide) ?_
        refine XS.icmpYes Xl.here hexec rfl (pc0 := 20) rfl (hb hbytes d20) rfl (ii_le_t (hp i (by omega))) (by decide) rfl ?_
        refine XS.aloadN Xl.here hexec rfl (hb hbytes d26) rfl rfl ?_
        refine XS.iloadN Xl.here hexec rfl (hb hbytes d27) rfl ?_
        refine XS.iload Xl.here hexec rfl (hb hbytes d28) rfl ?_
        refine i2b Xl.here hexec rfl (hb hbytes d30) rfl ?_
        exact Steps.refl _)
      obtain ⟨T7, X7, p7, st7⟩ := Xl.aput hexec hBk rfl hlt rfl (fits_lo8 (cv A (o + i))) (g := (mkF m 31 #[.val (.ref b), .val (.int (Int32.ofNat (o + i))), .val (.ref d), .val (.int (Int32.ofNat (q + i))), .val (.int (Int32.ofNat len)), .val (.int (Int32.ofNat i)), .val (.int (cv A (o + i)))] [.int (lo8 (cv A (o + i))), .int (Int32.ofNat (q + i)), .ref d])) rfl (rest := []) rfl (hb hbytes d31)
      have c8 : Steps p.tables e below (s₁.setTop (entryFrame m #[.ref b, .int (Int32.ofNat o), .ref d, .int (Int32.ofNat q), .int (Int32.ofNat len)] 7)) (T7.setTop (mkF m 32 #[.val (.ref b), .val (.int (Int32.ofNat (o + i))), .val (.ref d), .val (.int (Int32.ofNat (q + i))), .val (.int (Int32.ofNat len)), .val (.int (Int32.ofNat i)), .val (.int (cv A (o + i)))] [])) := c6.trans (st7 _ (Steps.refl _))
      have c9 : Steps p.tables e below (s₁.setTop (entryFrame m #[.ref b, .int (Int32.ofNat o), .ref d, .int (Int32.ofNat q), .int (Int32.ofNat len)] 7)) (T7.setTop (mkF m 3 #[.val (.ref b), .val (.int (Int32.ofNat (o + i) + 1)), .val (.ref d), .val (.int (Int32.ofNat (q + i) + 1)), .val (.int (Int32.ofNat len)), .val (.int (Int32.ofNat i + 1)), .val (.int (cv A (o + i)))] [])) := c8.trans (by
        refine iincV X7.here hexec rfl 1 (hb hbytes d32) (by decide) rfl rfl ?_
        refine iincV X7.here hexec rfl 1 (hb hbytes d35) (by decide) rfl rfl ?_
        refine iincV X7.here hexec rfl 1 (hb hbytes d38) (by decide) rfl rfl ?_
        refine XS.goto X7.here hexec rfl (pc0 := 41) rfl (hb hbytes d41) (by decide) rfl ?_
        exact Steps.refl _)
      have c10 : Steps p.tables e below (s₁.setTop (entryFrame m #[.ref b, .int (Int32.ofNat o), .ref d, .int (Int32.ofNat q), .int (Int32.ofNat len)] 7)) (T7.setTop (mkF m 3 #[.val (.ref b), .val (.int (Int32.ofNat (o + (i + 1)))), .val (.ref d), .val (.int (Int32.ofNat (q + (i + 1)))), .val (.int (Int32.ofNat len)), .val (.int (Int32.ofNat (i + 1))), .val (.int (cv A (o + i)))] [])) := by
        have := c9
        rw [succ32, succ32, succ32] at this
        exact this
      exact ih (i + 1) (by omega) _ (Or.inr ⟨_, rfl, rfl⟩) T7 _ (by rw [copyLocs_step, ← List.append_assoc]; exact X7) (pl.trans p7) (fl.step (by omega) hlt (by simp)) c10
  obtain ⟨T9, B9, z9, X9, p9, f9, g9⟩ := loop len 0 (by omega) .unset (Or.inl rfl) s₁ B (by simpa [copyLocs] using X0) ⟨hB0.1, fun _ _ => rfl, rfl⟩ (Laid.zero _ _ _) c2
  have c11 : Steps p.tables e below (s₁.setTop (entryFrame m #[.ref b, .int (Int32.ofNat o), .ref d, .int (Int32.ofNat q), .int (Int32.ofNat len)] 7)) (T9.setTop (mkF m 46 #[.val (.ref b), .val (.int (Int32.ofNat (o + len))), .val (.ref d), .val (.int (Int32.ofNat (q + len))), .val (.int (Int32.ofNat len)), .val (.int (Int32.ofNat len)), z9] [.int (Int32.ofNat len)])) := g9.trans (by
    refine XS.iload X9.here hexec rfl (hb hbytes d3) rfl ?_
    refine XS.iload X9.here hexec rfl (hb hbytes d5) rfl ?_
    refine XS.icmpYes X9.here hexec rfl (pc0 := 7) rfl (hb hbytes d7) rfl (ii_ge_t (nlt32 (by omega) (Nat.le_refl _))) (by decide) rfl ?_
    refine XS.iload X9.here hexec rfl (hb hbytes d44) rfl ?_
    exact Steps.refl _)
  exact ⟨T9, some (.int (Int32.ofNat len)), _, _, _, X9, by simp, rfl, rfl, (fun h => by cases h), ⟨rfl, B9, p9.from hh0, f9⟩, fun fs hl => c11.trans (X9.ireturnOut hexec hret rfl (Or.inl rfl) (hb hbytes d46) hl)⟩
end Cmp5
namespace Cmp3
def yN : MethodName := ⟨"java/lang/StringUTF16", "compress", "([CII)[B"⟩
abbrev yB : ByteArray := jdk_52_method_16_code
theorem d0 : decode yB 0 = .ok (.iload_n 2, 1) := by decide +kernel
theorem d1 : decode yB 1 = .ok (.newarray .byte, 2) := by decide +kernel
theorem d3 : decode yB 3 = .ok (.astore_n 3, 1) := by decide +kernel
theorem d4 : decode yB 4 = .ok (.aload_n 0, 1) := by decide +kernel
theorem d5 : decode yB 5 = .ok (.iload_n 1, 1) := by decide +kernel
theorem d6 : decode yB 6 = .ok (.aload_n 3, 1) := by decide +kernel
theorem d7 : decode yB 7 = .ok (.iconst 0, 1) := by decide +kernel
theorem d8 : decode yB 8 = .ok (.iload_n 2, 1) := by decide +kernel
theorem d9 : decode yB 9 = .ok (.invokestatic 115, 3) := by decide +kernel
theorem d12 : decode yB 12 = .ok (.istore 4, 2) := by decide +kernel
theorem d14 : decode yB 14 = .ok (.iload 4, 2) := by decide +kernel
theorem d16 : decode yB 16 = .ok (.iload_n 2, 1) := by decide +kernel
theorem d17 : decode yB 17 = .ok (.if_icmp (.eq) 40, 3) := by decide +kernel
theorem d57 : decode yB 57 = .ok (.aload_n 3, 1) := by decide +kernel
theorem d58 : decode yB 58 = .ok (.areturn, 1) := by decide +kernel
def site : List Cond := [.arrayClass .byte, Cmp5.tab] ++ staticW U16 115 Cmp5.yN
def tab : Cond := tabOf yN yB 6 (some (.array .byte)) site
def P (b : Addr) (A : Cell) (o len : Nat) (args : Array Value) (s : State) : Prop := args = #[.ref b, .int (Int32.ofNat o), .int (Int32.ofNat len)] ∧ Ch b A s ∧ o + len ≤ A.slots.size ∧ len ≤ 536870912 ∧ ∀ i, i < len → ¬ 255 < cv A (o + i)
def E (b : Addr) (A : Cell) (o len : Nat) (r : Option Value) (s u : State) : Prop := NewArr .byte "[B" len (fun j => .int (lo8 (cv A (o + j)))) r s u ∧ u.heap.size = s.heap.size + 1
/-- no char of the range above 255: a new byte[] of their low bytes -/
theorem law (l : Launch) (b : Addr) (A : Cell) (o len : Nat) : Law l yN 3 3 1 18 yB 6 (some (.array .byte)) site (P b A o len) (E b A o len) [] 1 len := by
  refine Law.of_walk (plainFor_of_name (by decide +kernel)) (by decide +kernel) (by decide +kernel) (by decide) (fun _ _ h => by rw [h.1]; rfl) (fun _ U U' hal hh h => ⟨h.1, h.2.1.mv hal hh, h.2.2⟩) (fun r U U' V V' h1 hal h2 h => ⟨NewArr.mv r U U' V V' h1 hal h2 h.1, by rw [h1, h2]; exact h.2⟩) ?_
  intro p e s m args below meth c s₁ X0 hexec hbytes hml hret hlk hnm hown hh0 W hP
  obtain ⟨rfl, hA, l1, l2, hp⟩ := hP
  have a31 := hA.1.2.2.2
  have c1 : Steps p.tables e below (s₁.setTop (entryFrame m #[.ref b, .int (Int32.ofNat o), .int (Int32.ofNat len)] 6)) (s₁.setTop (mkF m 0 #[.val (.ref b), .val (.int (Int32.ofNat o)), .val (.int (Int32.ofNat len)), .unset, .unset, .unset] [])) := entry rfl
  have c2 : Steps p.tables e below (s₁.setTop (entryFrame m #[.ref b, .int (Int32.ofNat o), .int (Int32.ofNat len)] 6)) (s₁.setTop (mkF m 1 #[.val (.ref b), .val (.int (Int32.ofNat o)), .val (.int (Int32.ofNat len)), .unset, .unset, .unset] [.int (Int32.ofNat len)])) := c1.trans (by
    refine XS.iloadN X0.here hexec rfl (hb hbytes d0) rfl ?_
    exact Steps.refl _)
  obtain ⟨T3, B3, X3, ba3, bs3, bv3, bh3, bf3, st3⟩ := X0.anew hexec (atype := .byte) (wk W (.arrayClass .byte)) rfl (by show len * 1 ≤ _; omega) (by omega) (g := (mkF m 1 #[.val (.ref b), .val (.int (Int32.ofNat o)), .val (.int (Int32.ofNat len)), .unset, .unset, .unset] [.int (Int32.ofNat len)])) rfl (hb hbytes d1) (rest := []) rfl (Nat.le_refl _) (by show 0 + len ≤ len; omega)
  rw [hh0] at ba3 st3
  have kp3 : XT.Kept s T3 := (XT.Kept.of_eq hh0).push bh3
  have hA3 := hA.keep X3.warmed.alike (kp3 _ _ hA.1.1)
  have hne : b ≠ s.heap.size := hA.1.ne
  have c4 : Steps p.tables e below (s₁.setTop (entryFrame m #[.ref b, .int (Int32.ofNat o), .int (Int32.ofNat len)] 6)) (T3.setTop (mkF m 3 #[.val (.ref b), .val (.int (Int32.ofNat o)), .val (.int (Int32.ofNat len)), .unset, .unset, .unset] [.ref s.heap.size])) := c2.trans (st3 _ (Steps.refl _))
  have c5 : Steps p.tables e below (s₁.setTop (entryFrame m #[.ref b, .int (Int32.ofNat o), .int (Int32.ofNat len)] 6)) (T3.setTop (mkF m 9 #[.val (.ref b), .val (.int (Int32.ofNat o)), .val (.int (Int32.ofNat len)), .val (.ref s.heap.size), .unset, .unset] [.int (Int32.ofNat len), .int 0, .ref s.heap.size, .int (Int32.ofNat o), .ref b])) := c4.trans (by
    refine XS.astoreN X3.here hexec rfl (hb hbytes d3) rfl rfl rfl ?_
    refine XS.aloadN X3.here hexec rfl (hb hbytes d4) rfl rfl ?_
    refine XS.iloadN X3.here hexec rfl (hb hbytes d5) rfl ?_
    refine XS.aloadN X3.here hexec rfl (hb hbytes d6) rfl rfl ?_
    refine iconstV X3.here hexec rfl 0 (hb hbytes d7) (by decide) ?_
    refine XS.iloadN X3.here hexec rfl (hb hbytes d8) rfl ?_
    exact Steps.refl _)
  obtain ⟨v6, T6, X6, E6, g6⟩ := X3.callS hexec (Cmp5.law l b A s.heap.size B3 o 0 len) hown (wks W (staticW U16 115 Cmp5.yN)) (wk W Cmp5.tab) (W := 0) (Nat.le_of_ble_eq_true rfl) (Nat.le_of_ble_eq_true rfl) (Nat.le_refl _) (by show 0 + len + 0 ≤ len; omega) (g := (mkF m 9 #[.val (.ref b), .val (.int (Int32.ofNat o)), .val (.int (Int32.ofNat len)), .val (.ref s.heap.size), .unset, .unset] [.int (Int32.ofNat len), .int (Int32.ofNat 0), .ref s.heap.size, .int (Int32.ofNat o), .ref b])) rfl (by rw [hml]; rfl) c5 (argsL := [.ref b, .int (Int32.ofNat o), .ref s.heap.size, .int (Int32.ofNat 0), .int (Int32.ofNat len)]) (rest := []) rfl rfl (by show 2 * 0 + 0 ≤ _; decide) (hb hbytes d9) (⟨rfl, hA3, ba3, hne, l1, by rw [bs3]; simp, hp⟩)
  obtain ⟨rfl, B6, p6, f6⟩ := E6
  have c7 : Steps p.tables e below (s₁.setTop (entryFrame m #[.ref b, .int (Int32.ofNat o), .int (Int32.ofNat len)] 6)) (T6.setTop (mkF m 12 #[.val (.ref b), .val (.int (Int32.ofNat o)), .val (.int (Int32.ofNat len)), .val (.ref s.heap.size), .unset, .unset] [.int (Int32.ofNat len)])) := g6
  have c8 : Steps p.tables e below (s₁.setTop (entryFrame m #[.ref b, .int (Int32.ofNat o), .int (Int32.ofNat len)] 6)) (T6.setTop (mkF m 58 #[.val (.ref b), .val (.int (Int32.ofNat o)), .val (.int (Int32.ofNat len)), .val (.ref s.heap.size), .val (.int (Int32.ofNat len)), .unset] [.ref s.heap.size])) := c7.trans (by
    refine XS.istore X6.here hexec rfl (hb hbytes d12) rfl rfl ?_
    refine XS.iload X6.here hexec rfl (hb hbytes d14) rfl ?_
    refine XS.iloadN X6.here hexec rfl (hb hbytes d16) rfl ?_
    refine XS.icmpYes X6.here hexec rfl (pc0 := 17) rfl (hb hbytes d17) rfl (ii_eq_t rfl) (by decide) rfl ?_
    refine XS.aloadN X6.here hexec rfl (hb hbytes d57) rfl rfl ?_
    exact Steps.refl _)
  have X8 := X6.wide (L' := []) (cells' := 1) (slots' := len) (fun x hx hlt => by
    simp only [List.nil_append, copyLocs, List.mem_map, List.mem_range] at hx
    obtain ⟨i, -, rfl⟩ := hx
    exact absurd hlt (Nat.lt_irrefl _)) (Nat.le_refl _) (by omega)
  exact ⟨T6, some (.ref s.heap.size), _, _, _, X8, rfl, rfl, rfl, (fun h => by cases h), ⟨⟨rfl, B6, ba3.like (X3.warmed.alike.symm.trans X6.warmed.alike) p6.1 f6.1 f6.2.1 f6.2.2.1, f6.2.1.trans bv3, by rw [X6.warmed.alike.findClass, f6.1]; exact bf3, by rw [f6.2.2.1, bs3]; simp, fun j hj => by rw [f6.2.2.2 j, if_pos (by omega)]; rfl, kp3.put p6 (Nat.le_refl _)⟩, by rw [p6.2.2, bh3, hh0]; simp⟩, fun fs hl => c8.trans (X8.areturnOut hexec rfl hret rfl (hb hbytes d58) hl)⟩
end Cmp3
namespace CodL
def yN : MethodName := ⟨"java/lang/StringUTF16", "coderFromArrayLen", "([BI)B"⟩
abbrev yB : ByteArray := jdk_52_method_15_code
theorem d0 : decode yB 0 = .ok (.iload_n 1, 1) := by decide +kernel
theorem d1 : decode yB 1 = .ok (.aload_n 0, 1) := by decide +kernel
theorem d2 : decode yB 2 = .ok (.arraylength, 1) := by decide +kernel
theorem d3 : decode yB 3 = .ok (.isub, 1) := by decide +kernel
theorem d4 : decode yB 4 = .ok (.bipush 31, 2) := by decide +kernel
theorem d6 : decode yB 6 = .ok (.iushr, 1) := by decide +kernel
theorem d7 : decode yB 7 = .ok (.i2b, 1) := by decide +kernel
theorem d8 : decode yB 8 = .ok (.ireturn, 1) := by decide +kernel
def site : List Cond := []
def tab : Cond := tabOf yN yB 2 (some .byte) site
def P (d : Addr) (B : Cell) (args : Array Value) (s : State) : Prop := args = #[.ref d, .int (Int32.ofNat B.slots.size)] ∧ Arr .byte d B s
def E (r : Option Value) (s u : State) : Prop := XT.PureE (some (.int 0)) r s u
/-- an array as long as the number of chars: LATIN1 -/
theorem law (l : Launch) (d : Addr) (B : Cell) : Law l yN 2 2 0 0 yB 2 (some .byte) site (P d B) E [] 0 0 := by
  refine Law.of_walk (plainFor_of_name (by decide +kernel)) (by decide +kernel) (by decide +kernel) (by decide) (fun _ _ h => by rw [h.1]; rfl) (fun _ U U' hal hh h => ⟨h.1, h.2.mv hal hh⟩) (fun r U U' V V' h1 hal h2 h => XT.PureE.mv r U U' V V' h1 hal h2 h) ?_
  intro p e s m args below meth c s₁ X0 hexec hbytes hml hret hlk hnm hown hh0 W hP
  obtain ⟨rfl, hB⟩ := hP
  have hB0 := hB.mv X0.warmed.alike hh0
  have c1 : Steps p.tables e below (s₁.setTop (entryFrame m #[.ref d, .int (Int32.ofNat B.slots.size)] 2)) (s₁.setTop (mkF m 0 #[.val (.ref d), .val (.int (Int32.ofNat B.slots.size))] [])) := entry rfl
  have c2 : Steps p.tables e below (s₁.setTop (entryFrame m #[.ref d, .int (Int32.ofNat B.slots.size)] 2)) (s₁.setTop (mkF m 2 #[.val (.ref d), .val (.int (Int32.ofNat B.slots.size))] [.ref d, .int (Int32.ofNat B.slots.size)])) := c1.trans (by
    refine XS.iloadN X0.here hexec rfl (hb hbytes d0) rfl ?_
    refine XS.aloadN X0.here hexec rfl (hb hbytes d1) rfl rfl ?_
    exact Steps.refl _)
  have c3 : Steps p.tables e below (s₁.setTop (entryFrame m #[.ref d, .int (Int32.ofNat B.slots.size)] 2)) (s₁.setTop (mkF m 8 #[.val (.ref d), .val (.int (Int32.ofNat B.slots.size))] [.int (lo8 (ushr (Int32.ofNat B.slots.size - Int32.ofNat B.slots.size) 31))])) := c2.trans (by
    refine X0.alen hexec hB0 rfl rfl (hb hbytes d2) ?_
    refine XS.isub X0.here hexec rfl (hb hbytes d3) rfl ?_
    refine bipushV X0.here hexec rfl 31 (hb hbytes d4) (by decide) ?_
    refine iushr X0.here hexec rfl (hb hbytes d6) rfl ?_
    refine i2b X0.here hexec rfl (hb hbytes d7) rfl ?_
    exact Steps.refl _)
  have e0 : lo8 (ushr (Int32.ofNat B.slots.size - Int32.ofNat B.slots.size) 31) = 0 := by rw [Int32.sub_self]; decide
  rw [e0] at c3
  exact ⟨s₁, some (.int 0), _, _, _, X0, rfl, rfl, rfl, (fun h => by cases h), ⟨rfl, hh0⟩, fun fs hl => c3.trans (X0.ireturnOut hexec hret rfl (Or.inr (Or.inr (Or.inl rfl))) (hb hbytes d8) hl)⟩
end CodL
/-- the String at a is Latin-1 over a new byte[] (the heap's one new cell): the low bytes of the len chars of A from o on; every cell but a is kept -/
def Got (a : Addr) (D : Cell) (fV fC : Field) (A : Cell) (o len : Nat) (r : Option Value) (s u : State) : Prop := r = none ∧ ∃ D' V : Cell, Blank "java/lang/String" a D' u ∧ Same D D' [fV.slot, fC.slot] ∧ D'.slots[fV.slot]? = some (.ref s.heap.size) ∧ D'.slots[fC.slot]? = some (.int 0) ∧ Arr .byte s.heap.size V u ∧ V.vm = .none ∧ u.vm.findClass "[B" = some V.cls ∧ V.slots.size = len ∧ (∀ j, j < len → V.slots[j]? = some (.int (lo8 (cv A (o + j))))) ∧ (∀ (y : Addr) (c : Cell), y ≠ a → s.heap[y]? = some c → u.heap[y]? = some c) ∧ u.heap.size = s.heap.size + 1
theorem Got.mv {a : Addr} {D A : Cell} {fV fC : Field} {o len : Nat} : ∀ r (U U' V V' : State), U'.heap = U.heap → V.vm.Alike V'.vm → V'.heap = V.heap → Got a D fV fC A o len r U V → Got a D fV fC A o len r U' V' :=
  fun r U U' V V' h1 hal h2 ⟨e0, D', X, a1, a2, a3, a4, a5, a6, a7, a8, a9, a10, a11⟩ => ⟨e0, D', X, a1.mv hal h2, a2, by rw [h1]; exact a3, a4, by rw [h1]; exact a5.mv hal h2, a6, by rw [hal.findClass]; exact a7, a8, a9, by rw [h1, h2]; exact a10, by rw [h1, h2]; exact a11⟩
namespace New4
def yN : MethodName := ⟨"java/lang/String", "<init>", "([CIILjava/lang/Void;)V"⟩
abbrev yB : ByteArray := jdk_42_method_149_code
theorem d0 : decode yB 0 = .ok (.aload_n 0, 1) := by decide +kernel
theorem d1 : decode yB 1 = .ok (.invokespecial 1, 3) := by decide +kernel
theorem d4 : decode yB 4 = .ok (.iload_n 3, 1) := by decide +kernel
theorem d5 : decode yB 5 = .ok (.ifCond (.ne) 22, 3) := by decide +kernel
theorem d27 : decode yB 27 = .ok (.getstatic 38, 3) := by decide +kernel
theorem d30 : decode yB 30 = .ok (.ifCond (.eq) 28, 3) := by decide +kernel
theorem d33 : decode yB 33 = .ok (.aload_n 1, 1) := by decide +kernel
theorem d34 : decode yB 34 = .ok (.iload_n 2, 1) := by decide +kernel
theorem d35 : decode yB 35 = .ok (.iload_n 3, 1) := by decide +kernel
theorem d36 : decode yB 36 = .ok (.invokestatic 177, 3) := by decide +kernel
theorem d39 : decode yB 39 = .ok (.astore 5, 2) := by decide +kernel
theorem d41 : decode yB 41 = .ok (.aload_n 0, 1) := by decide +kernel
theorem d42 : decode yB 42 = .ok (.aload 5, 2) := by decide +kernel
theorem d44 : decode yB 44 = .ok (.iload_n 3, 1) := by decide +kernel
theorem d45 : decode yB 45 = .ok (.invokestatic 47, 3) := by decide +kernel
theorem d48 : decode yB 48 = .ok (.putfield 15, 3) := by decide +kernel
theorem d51 : decode yB 51 = .ok (.aload_n 0, 1) := by decide +kernel
theorem d52 : decode yB 52 = .ok (.aload 5, 2) := by decide +kernel
theorem d54 : decode yB 54 = .ok (.putfield 9, 3) := by decide +kernel
theorem d57 : decode yB 57 = .ok (.return_, 1) := by decide +kernel
def site : List Cond := [.fieldLink "java/lang/String" 38 "java/lang/String" "COMPACT_STRINGS" "Z", Cmp3.tab, CodL.tab, .laysFinal "java/lang/String" "java/lang/String" "value" "[B", .fieldLink "java/lang/String" 9 "java/lang/String" "value" "[B", .laysFinal "java/lang/String" "java/lang/String" "coder" "B", .fieldLink "java/lang/String" 15 "java/lang/String" "coder" "B"] ++ objW "java/lang/String" 1 ++ staticW "java/lang/String" 177 Cmp3.yN ++ staticW "java/lang/String" 47 CodL.yN
def tab : Cond := tabOf yN yB 6 none site
def P (a : Addr) (D : Cell) (fV fC : Field) (b : Addr) (A : Cell) (z : Int32) (o len : Nat) (args : Array Value) (s : State) : Prop := args = #[.ref a, .ref b, .int (Int32.ofNat o), .int (Int32.ofNat len), .null] ∧ Blank "java/lang/String" a D s ∧ Found "java/lang/String" "value" "[B" fV s ∧ Found "java/lang/String" "coder" "B" fC s ∧ Ch b A s ∧ StaticIs s "java/lang/String" "COMPACT_STRINGS" "Z" (.int z) ∧ ¬ z = 0 ∧ 0 < len ∧ o + len ≤ A.slots.size ∧ len ≤ 536870912 ∧ ∀ i, i < len → ¬ 255 < cv A (o + i)
def E (a : Addr) (D : Cell) (fV fC : Field) (A : Cell) (o len : Nat) (r : Option Value) (s u : State) : Prop := Got a D fV fC A o len r s u
/-- len > 0, no char of the range above 255: a Latin-1 String of their low bytes -/
theorem law (l : Launch) (a : Addr) (D : Cell) (fV fC : Field) (b : Addr) (A : Cell) (z : Int32) (o len : Nat) : Law l yN 5 4 2 35 yB 6 none site (P a D fV fC b A z o len) (E a D fV fC A o len) [⟨a, fC.slot⟩, ⟨a, fV.slot⟩] 1 len := by
  refine Law.of_walk (plainFor_of_name (by decide +kernel)) (by decide +kernel) (by decide +kernel) (by decide) (fun _ _ h => by rw [h.1]; rfl) (fun _ U U' hal hh h => ⟨h.1, h.2.1.mv hal hh, h.2.2.1.al hal, h.2.2.2.1.al hal, h.2.2.2.2.1.mv hal hh, h.2.2.2.2.2.1.there hal hh, h.2.2.2.2.2.2⟩) (fun r U U' V V' h1 hal h2 h => Got.mv r U U' V V' h1 hal h2 h) ?_
  intro p e s m args below meth c s₁ X0 hexec hbytes hml hret hlk hnm hown hh0 W hP
  obtain ⟨rfl, hB, f1, f2, hA, s1, hz, l0, l1, l2, hp⟩ := hP
  have a31 := hA.1.2.2.2
  have c1 : Steps p.tables e below (s₁.setTop (entryFrame m #[.ref a, .ref b, .int (Int32.ofNat o), .int (Int32.ofNat len), .null] 6)) (s₁.setTop (mkF m 0 #[.val (.ref a), .val (.ref b), .val (.int (Int32.ofNat o)), .val (.int (Int32.ofNat len)), .val .null, .unset] [])) := entry rfl
  have c2 : Steps p.tables e below (s₁.setTop (entryFrame m #[.ref a, .ref b, .int (Int32.ofNat o), .int (Int32.ofNat len), .null] 6)) (s₁.setTop (mkF m 1 #[.val (.ref a), .val (.ref b), .val (.int (Int32.ofNat o)), .val (.int (Int32.ofNat len)), .val .null, .unset] [.ref a])) := c1.trans (by
    refine XS.aloadN X0.here hexec rfl (hb hbytes d0) rfl rfl ?_
    exact Steps.refl _)
  obtain ⟨T3, X3, q3, st3⟩ := X0.oinit hexec hown (wks W (objW "java/lang/String" 1)) (g := (mkF m 1 #[.val (.ref a), .val (.ref b), .val (.int (Int32.ofNat o)), .val (.int (Int32.ofNat len)), .val .null, .unset] [.ref a])) rfl (by rw [hml]; rfl) (rest := []) rfl (hb hbytes d1) (W := 0) (by show 2 * 0 + 0 ≤ _; decide) (Nat.le_of_ble_eq_true rfl) (Nat.le_of_ble_eq_true rfl)
  have hh3 := q3.trans hh0
  have c4 : Steps p.tables e below (s₁.setTop (entryFrame m #[.ref a, .ref b, .int (Int32.ofNat o), .int (Int32.ofNat len), .null] 6)) (T3.setTop (mkF m 27 #[.val (.ref a), .val (.ref b), .val (.int (Int32.ofNat o)), .val (.int (Int32.ofNat len)), .val .null, .unset] [])) := (c2.trans (st3 _ (Steps.refl _))).trans (by
    refine XS.iloadN X3.here hexec rfl (hb hbytes d4) rfl ?_
    refine XS.ifYes X3.here hexec rfl (pc0 := 5) rfl (hb hbytes d5) rfl (i0_ne_t (nz32 (by omega) l0)) (by decide) rfl ?_
    exact Steps.refl _)
  obtain ⟨T5, X5, q5, st5⟩ := X3.sget hexec hown (wk W (.fieldLink "java/lang/String" 38 "java/lang/String" "COMPACT_STRINGS" "Z")) s1 (fun _ _ h => by rw [hh3]; exact h) (g := (mkF m 27 #[.val (.ref a), .val (.ref b), .val (.int (Int32.ofNat o)), .val (.int (Int32.ofNat len)), .val .null, .unset] [])) rfl (hb hbytes d27)
  have hh5 := q5.trans hh3
  have c6 : Steps p.tables e below (s₁.setTop (entryFrame m #[.ref a, .ref b, .int (Int32.ofNat o), .int (Int32.ofNat len), .null] 6)) (T5.setTop (mkF m 30 #[.val (.ref a), .val (.ref b), .val (.int (Int32.ofNat o)), .val (.int (Int32.ofNat len)), .val .null, .unset] [.int z])) := c4.trans (st5 _ (Steps.refl _))
  have c7 : Steps p.tables e below (s₁.setTop (entryFrame m #[.ref a, .ref b, .int (Int32.ofNat o), .int (Int32.ofNat len), .null] 6)) (T5.setTop (mkF m 36 #[.val (.ref a), .val (.ref b), .val (.int (Int32.ofNat o)), .val (.int (Int32.ofNat len)), .val .null, .unset] [.int (Int32.ofNat len), .int (Int32.ofNat o), .ref b])) := c6.trans (by
    refine XS.ifNo X5.here hexec rfl (hb hbytes d30) rfl (i0_eq_f hz) ?_
    refine XS.aloadN X5.here hexec rfl (hb hbytes d33) rfl rfl ?_
    refine XS.iloadN X5.here hexec rfl (hb hbytes d34) rfl ?_
    refine XS.iloadN X5.here hexec rfl (hb hbytes d35) rfl ?_
    exact Steps.refl _)
  obtain ⟨v8, T8, X8, E8, g8⟩ := X5.callS hexec (Cmp3.law l b A o len) hown (wks W (staticW "java/lang/String" 177 Cmp3.yN)) (wk W Cmp3.tab) (W := 0) (Nat.le_of_ble_eq_true rfl) (Nat.le_of_ble_eq_true rfl) (Nat.le_refl _) (by show 0 + len ≤ len; omega) (g := (mkF m 36 #[.val (.ref a), .val (.ref b), .val (.int (Int32.ofNat o)), .val (.int (Int32.ofNat len)), .val .null, .unset] [.int (Int32.ofNat len), .int (Int32.ofNat o), .ref b])) rfl (by rw [hml]; rfl) c7 (argsL := [.ref b, .int (Int32.ofNat o), .int (Int32.ofNat len)]) (rest := []) rfl rfl (by show 2 * 0 + 0 ≤ _; decide) (hb hbytes d36) (⟨rfl, hA.mv X5.warmed.alike hh5, l1, l2, hp⟩)
  obtain ⟨e8, z8⟩ := E8
  obtain ⟨rfl, N, n1, n2, n3, n4, n5, n6⟩ := NewArr.mv _ T5 s _ _ hh5.symm (Vm.Alike.refl _) rfl e8
  rw [hh5] at z8
  have hB1 := hB.keep X8.warmed.alike (n6 _ _ hB.1)
  have hne : s.heap.size ≠ a := (Nat.ne_of_lt (Array.getElem?_eq_some_iff.mp hB.1).1).symm
  have c9 : Steps p.tables e below (s₁.setTop (entryFrame m #[.ref a, .ref b, .int (Int32.ofNat o), .int (Int32.ofNat len), .null] 6)) (T8.setTop (mkF m 39 #[.val (.ref a), .val (.ref b), .val (.int (Int32.ofNat o)), .val (.int (Int32.ofNat len)), .val .null, .unset] [.ref s.heap.size])) := g8
  have c10 : Steps p.tables e below (s₁.setTop (entryFrame m #[.ref a, .ref b, .int (Int32.ofNat o), .int (Int32.ofNat len), .null] 6)) (T8.setTop (mkF m 45 #[.val (.ref a), .val (.ref b), .val (.int (Int32.ofNat o)), .val (.int (Int32.ofNat len)), .val .null, .val (.ref s.heap.size)] [.int (Int32.ofNat N.slots.size), .ref s.heap.size, .ref a])) := by
    have hc : Steps p.tables e below (s₁.setTop (entryFrame m #[.ref a, .ref b, .int (Int32.ofNat o), .int (Int32.ofNat len), .null] 6)) (T8.setTop (mkF m 45 #[.val (.ref a), .val (.ref b), .val (.int (Int32.ofNat o)), .val (.int (Int32.ofNat len)), .val .null, .val (.ref s.heap.size)] [.int (Int32.ofNat len), .ref s.heap.size, .ref a])) := c9.trans (by
      refine XS.astore X8.here hexec rfl (hb hbytes d39) rfl rfl rfl ?_
      refine XS.aloadN X8.here hexec rfl (hb hbytes d41) rfl rfl ?_
      refine XS.aload X8.here hexec rfl (hb hbytes d42) rfl rfl ?_
      refine XS.iloadN X8.here hexec rfl (hb hbytes d44) rfl ?_
      exact Steps.refl _)
    rw [n4]; exact hc
  obtain ⟨v11, T11, X11, E11, g11⟩ := X8.callS hexec (CodL.law l s.heap.size N) hown (wks W (staticW "java/lang/String" 47 CodL.yN)) (wk W CodL.tab) (W := 1) (Nat.le_of_ble_eq_true rfl) (Nat.le_of_ble_eq_true rfl) (Nat.le_refl _) (by show 0 + len + 0 ≤ len; omega) (g := (mkF m 45 #[.val (.ref a), .val (.ref b), .val (.int (Int32.ofNat o)), .val (.int (Int32.ofNat len)), .val .null, .val (.ref s.heap.size)] [.int (Int32.ofNat N.slots.size), .ref s.heap.size, .ref a])) rfl (by rw [hml]; rfl) c10 (argsL := [.ref s.heap.size, .int (Int32.ofNat N.slots.size)]) (rest := [.ref a]) rfl rfl (by show 2 * 0 + (1 + 0) ≤ _; decide) (hb hbytes d45) (⟨rfl, n1⟩)
  obtain ⟨rfl, q11⟩ := E11
  have hB11 := hB1.mv (X8.warmed.alike.symm.trans X11.warmed.alike) q11
  have c12 : Steps p.tables e below (s₁.setTop (entryFrame m #[.ref a, .ref b, .int (Int32.ofNat o), .int (Int32.ofNat len), .null] 6)) (T11.setTop (mkF m 48 #[.val (.ref a), .val (.ref b), .val (.int (Int32.ofNat o)), .val (.int (Int32.ofNat len)), .val .null, .val (.ref s.heap.size)] [.int 0, .ref a])) := g11
  obtain ⟨T13, X13, p13, bl13, sl13, st13⟩ := X11.finit hexec hown (wk W (.fieldLink "java/lang/String" 15 "java/lang/String" "coder" "B")) (Or.inr ⟨_, (wk W (.laysFinal "java/lang/String" "java/lang/String" "coder" "B"))⟩) (Or.inl ⟨rfl, hnm⟩) f2 (Or.inl rfl) hB11 (t := .byte) (by decide +kernel) rfl (g := (mkF m 48 #[.val (.ref a), .val (.ref b), .val (.int (Int32.ofNat o)), .val (.int (Int32.ofNat len)), .val .null, .val (.ref s.heap.size)] [.int 0, .ref a])) rfl (rest := []) rfl (hb hbytes d48)
  have c14 : Steps p.tables e below (s₁.setTop (entryFrame m #[.ref a, .ref b, .int (Int32.ofNat o), .int (Int32.ofNat len), .null] 6)) (T13.setTop (mkF m 54 #[.val (.ref a), .val (.ref b), .val (.int (Int32.ofNat o)), .val (.int (Int32.ofNat len)), .val .null, .val (.ref s.heap.size)] [.ref s.heap.size, .ref a])) := (c12.trans (st13 _ (Steps.refl _))).trans (by
    refine XS.aloadN X13.here hexec rfl (hb hbytes d51) rfl rfl ?_
    refine XS.aload X13.here hexec rfl (hb hbytes d52) rfl rfl ?_
    exact Steps.refl _)
  obtain ⟨T15, X15, p15, bl15, sl15, st15⟩ := X13.finit hexec hown (wk W (.fieldLink "java/lang/String" 9 "java/lang/String" "value" "[B")) (Or.inr ⟨_, (wk W (.laysFinal "java/lang/String" "java/lang/String" "value" "[B"))⟩) (Or.inl ⟨rfl, hnm⟩) f1 (Or.inl rfl) bl13 (t := (.array .byte)) (by decide +kernel) rfl (g := (mkF m 54 #[.val (.ref a), .val (.ref b), .val (.int (Int32.ofNat o)), .val (.int (Int32.ofNat len)), .val .null, .val (.ref s.heap.size)] [.ref s.heap.size, .ref a])) rfl (rest := []) rfl (hb hbytes d54)
  have c16 : Steps p.tables e below (s₁.setTop (entryFrame m #[.ref a, .ref b, .int (Int32.ofNat o), .int (Int32.ofNat len), .null] 6)) (T15.setTop (mkF m 57 #[.val (.ref a), .val (.ref b), .val (.int (Int32.ofNat o)), .val (.int (Int32.ofNat len)), .val .null, .val (.ref s.heap.size)] [])) := c14.trans (st15 _ (Steps.refl _))
  have ap := apart (Or.inr ⟨_, (wk W (.laysFinal "java/lang/String" "java/lang/String" "value" "[B"))⟩) (Or.inr ⟨_, (wk W (.laysFinal "java/lang/String" "java/lang/String" "coder" "B"))⟩) f1 f2 (t₁ := .array .byte) (t₂ := .byte) (by decide +kernel) (by decide +kernel) (by decide)
  have al := X8.warmed.alike.symm.trans X15.warmed.alike
  have n7 : T11.heap[s.heap.size]? = some N := by rw [q11]; exact n1.1
  exact ⟨T15, none, _, _, _, X15, by simp, rfl, by omega, (fun _ => rfl), ⟨rfl, _, N, bl15, ((Same.refl D _).set _ (by simp)).set _ (by simp), sl15, (Cell.slots_setSlot_ne _ ap).trans sl13, n1.keep al (p15.other hne (p13.other hne n7)), n2, by rw [al.findClass]; exact n3, n4, n5, fun y c h1 h2 => p15.other h1 (p13.other h1 (by rw [q11]; exact n6 y c h2)), by rw [p15.2.2, p13.2.2, q11]; exact z8⟩, fun fs hl => c16.trans (X15.returnOut hexec hret (hb hbytes d57) hl)⟩
end New4
namespace New1
def yN : MethodName := ⟨"java/lang/String", "<init>", "([C)V"⟩
abbrev yB : ByteArray := jdk_42_method_3_code
theorem d0 : decode yB 0 = .ok (.aload_n 0, 1) := by decide +kernel
theorem d1 : decode yB 1 = .ok (.aload_n 1, 1) := by decide +kernel
theorem d2 : decode yB 2 = .ok (.iconst 0, 1) := by decide +kernel
theorem d3 : decode yB 3 = .ok (.aload_n 1, 1) := by decide +kernel
theorem d4 : decode yB 4 = .ok (.arraylength, 1) := by decide +kernel
theorem d5 : decode yB 5 = .ok (.aconst_null, 1) := by decide +kernel
theorem d6 : decode yB 6 = .ok (.invokespecial 27, 3) := by decide +kernel
theorem d9 : decode yB 9 = .ok (.return_, 1) := by decide +kernel
def site : List Cond := [New4.tab] ++ initW "java/lang/String" 27 New4.yN
def tab : Cond := tabOf yN yB 2 none site
def P (a : Addr) (D : Cell) (fV fC : Field) (b : Addr) (A : Cell) (z : Int32) (args : Array Value) (s : State) : Prop := args = #[.ref a, .ref b] ∧ Blank "java/lang/String" a D s ∧ Found "java/lang/String" "value" "[B" fV s ∧ Found "java/lang/String" "coder" "B" fC s ∧ Ch b A s ∧ StaticIs s "java/lang/String" "COMPACT_STRINGS" "Z" (.int z) ∧ ¬ z = 0 ∧ 0 < A.slots.size ∧ A.slots.size ≤ 536870912 ∧ ∀ i, i < A.slots.size → ¬ 255 < cv A i
def E (a : Addr) (D : Cell) (fV fC : Field) (A : Cell) (r : Option Value) (s u : State) : Prop := Got a D fV fC A 0 A.slots.size r s u
/-- new String(chars), not empty, no char above 255: a Latin-1 String of their low bytes -/
theorem law (l : Launch) (a : Addr) (D : Cell) (fV fC : Field) (b : Addr) (A : Cell) (z : Int32) : Law l yN 2 1 3 52 yB 2 none site (P a D fV fC b A z) (E a D fV fC A) [⟨a, fC.slot⟩, ⟨a, fV.slot⟩] 1 A.slots.size := by
  refine Law.of_walk (plainFor_of_name (by decide +kernel)) (by decide +kernel) (by decide +kernel) (by decide) (fun _ _ h => by rw [h.1]; rfl) (fun _ U U' hal hh h => ⟨h.1, h.2.1.mv hal hh, h.2.2.1.al hal, h.2.2.2.1.al hal, h.2.2.2.2.1.mv hal hh, h.2.2.2.2.2.1.there hal hh, h.2.2.2.2.2.2⟩) (fun r U U' V V' h1 hal h2 h => Got.mv r U U' V V' h1 hal h2 h) ?_
  intro p e s m args below meth c s₁ X0 hexec hbytes hml hret hlk hnm hown hh0 W hP
  obtain ⟨rfl, hB, f1, f2, hA, s1, hz, l0, l2, hp⟩ := hP
  have c1 : Steps p.tables e below (s₁.setTop (entryFrame m #[.ref a, .ref b] 2)) (s₁.setTop (mkF m 0 #[.val (.ref a), .val (.ref b)] [])) := entry rfl
  have c2 : Steps p.tables e below (s₁.setTop (entryFrame m #[.ref a, .ref b] 2)) (s₁.setTop (mkF m 6 #[.val (.ref a), .val (.ref b)] [.null, .int (Int32.ofNat A.slots.size), .int 0, .ref b, .ref a])) := c1.trans (by
    refine XS.aloadN X0.here hexec rfl (hb hbytes d0) rfl rfl ?_
    refine XS.aloadN X0.here hexec rfl (hb hbytes d1) rfl rfl ?_
    refine iconstV X0.here hexec rfl 0 (hb hbytes d2) (by decide) ?_
    refine XS.aloadN X0.here hexec rfl (hb hbytes d3) rfl rfl ?_
    refine X0.alen hexec (hA.1.mv X0.warmed.alike hh0) rfl rfl (hb hbytes d4) ?_
    refine XS.aconstNull X0.here hexec rfl (hb hbytes d5) ?_
    exact Steps.refl _)
  obtain ⟨v3, T3, X3, E3, g3⟩ := X0.callN hexec (New4.law l a D fV fC b A z 0 A.slots.size) rfl hown (wks W (initW "java/lang/String" 27 New4.yN)) (W New4.tab (by simp only [site, List.mem_cons, List.mem_append, true_or, or_true])) (W := 0) (Nat.le_of_ble_eq_true rfl) (Nat.le_of_ble_eq_true rfl) (Nat.le_refl _) (by show 0 + A.slots.size ≤ A.slots.size; omega) (g := (mkF m 6 #[.val (.ref a), .val (.ref b)] [.null, .int (Int32.ofNat A.slots.size), .int (Int32.ofNat 0), .ref b, .ref a])) rfl (by rw [hml]; rfl) c2 (argsL := [.ref b, .int (Int32.ofNat 0), .int (Int32.ofNat A.slots.size), .null]) (rest := []) rfl rfl (by show 2 * 0 + 0 ≤ _; decide) (hb hbytes d6) (⟨rfl, hB.mv X0.warmed.alike hh0, f1.al X0.warmed.alike, f2.al X0.warmed.alike, hA.mv X0.warmed.alike hh0, s1.there X0.warmed.alike hh0, hz, l0, by omega, l2, fun i hi => by rw [Nat.zero_add]; exact hp i hi⟩)
  have e0 := Got.mv _ s₁ s _ _ hh0.symm (Vm.Alike.refl _) rfl E3
  obtain rfl := e0.1
  have c4 : Steps p.tables e below (s₁.setTop (entryFrame m #[.ref a, .ref b] 2)) (T3.setTop (mkF m 9 #[.val (.ref a), .val (.ref b)] [])) := g3
  exact ⟨T3, none, _, _, _, X3, by simp, rfl, by omega, (fun _ => rfl), e0, fun fs hl => c4.trans (X3.returnOut hexec hret (hb hbytes d9) hl)⟩
theorem pays {l : Launch} {R : Room} {p : Program} {e : Env} {below : List Frame} {s : State} {sargs : Array Value} {len W : Nat} (a : Addr) (D : Cell) (fV fC : Field) (b : Addr) (A : Cell) (z : Int32) (htab : tab.before sargs s = true) (hfr : 4 ≤ R.frames) (hlo : W + 65 ≤ R.locals) :
    Back l R p e below s sargs yN len W (fun A₁ a₁ => A₁.cells + 1 ≤ R.cells ∧ A₁.slots + A.slots.size ≤ R.slots ∧ P a D fV fC b A z a₁ A₁.U) (fun A₁ _ v₁ B₁ => E a D fV fC A v₁ A₁.U B₁.U ∧ B₁.locs = A₁.locs ++ [⟨a, fC.slot⟩, ⟨a, fV.slot⟩] ∧ B₁.cells = A₁.cells + 1 ∧ B₁.slots = A₁.slots + A.slots.size) :=
  (law l a D fV fC b A z).pays htab hfr (by omega)
end New1
end StrChars
namespace StrChars.Road
open Jvm Sem ClassFile Op Lib Jvm.Stand Jvm.Free Jvm.Free.XT
open Jvm.Lib.Cold (StaticIs)
abbrev ST : String := "java/lang/String"
/-- every table word that New1's law asks, flat -/
abbrev words : List Jvm.Cond := [.code New1.yN New1.yB 2 none, .initialized ST, .methodLink ST 27 New4.yN, .instanceMethod New4.yN,
  .code New4.yN New4.yB 6 none, .fieldLink ST 38 ST "COMPACT_STRINGS" "Z", .laysFinal ST ST "value" "[B", .fieldLink ST 9 ST "value" "[B", .laysFinal ST ST "coder" "B", .fieldLink ST 15 ST "coder" "B",
  .methodLink ST 1 Lib.objectInit, .instanceMethod Lib.objectInit, .code Lib.objectInit ⟨#[0xb1]⟩ 1 none, .methodLink ST 177 Cmp3.yN, .static Cmp3.yN, .methodLink ST 47 CodL.yN, .static CodL.yN,
  .code Cmp3.yN Cmp3.yB 6 (some (.array .byte)), .initialized U16, .arrayClass .byte, .methodLink U16 115 Cmp5.yN, .static Cmp5.yN, .code Cmp5.yN Cmp5.yB 7 (some .int), .code CodL.yN CodL.yB 2 (some .byte)]
theorem tab_of {a : Array Value} {s : State} (h : ∀ w ∈ words, w.before a s = true) : New1.tab.before a s = true := by
  have h5 : Cmp5.tab.before a s = true := unparts (wk h (.code Cmp5.yN Cmp5.yB 7 (some .int))) (wks h (.initialized Cmp5.yN.cls :: Cmp5.site))
  have hc : CodL.tab.before a s = true := unparts (wk h (.code CodL.yN CodL.yB 2 (some .byte))) (wks h (.initialized CodL.yN.cls :: CodL.site))
  have q5 : ∀ w ∈ Cmp5.tab :: words, w.before a s = true := fun w hw => (List.mem_cons.mp hw).elim (fun e => e ▸ h5) (h w)
  have h3 : Cmp3.tab.before a s = true := unparts (wk q5 (.code Cmp3.yN Cmp3.yB 6 (some (.array .byte)))) (wks q5 (.initialized Cmp3.yN.cls :: Cmp3.site))
  have q3 : ∀ w ∈ Cmp3.tab :: CodL.tab :: words, w.before a s = true := fun w hw => (List.mem_cons.mp hw).elim (fun e => e ▸ h3) fun hw => (List.mem_cons.mp hw).elim (fun e => e ▸ hc) (h w)
  have h4 : New4.tab.before a s = true := unparts (wk q3 (.code New4.yN New4.yB 6 none)) (wks q3 (.initialized New4.yN.cls :: New4.site))
  have q4 : ∀ w ∈ New4.tab :: words, w.before a s = true := fun w hw => (List.mem_cons.mp hw).elim (fun e => e ▸ h4) (h w)
  exact unparts (wk q4 (.code New1.yN New1.yB 2 none)) (wks q4 (.initialized New1.yN.cls :: New1.site))
/-- the words ride from the start Z to the walk's own state -/
theorem moved {Z s : State} {a0 args : Array Value} (hZ : Z.Warmed39 s.vm) (hw : ∀ d ∈ words, d.before a0 Z = true) : ∀ d ∈ words, d.before args s = true := fun d hd => by
  have q := hw d hd
  have t : ∀ d ∈ words, d = .arrayClass .byte ∨ (d.onTables && d.keepsFace) = true := by decide +kernel
  rcases t d hd with rfl | t
  · exact RoadKit.mvA hZ q
  · exact RoadKit.mv hZ q t
/-- WHAT COMES BACK, over the tables of the start Z: h the heap at the call, h' behind it -/
def Q (Z : State) (x : Addr) (A : Cell) (h : Heap) (v : Option Value) (h' : Heap) (L : List Loc) : Prop := v = none ∧ (∀ y ∈ L, y.base = x) ∧ RoadKit.Keep h h' [x] ∧ h'.size = h.size + 1 ∧ RoadKit.Exa Z h' x ST ∧ RoadKit.Fld Z h' x ST "value" "[B" (.ref h.size) ∧ RoadKit.Fld Z h' x ST "coder" "B" (.int 0) ∧
  (∃ V : Cell, RoadKit.Arr Z h' h.size V .byte ∧ V.vm = .none ∧ Z.vm.findClass "[B" = some V.cls ∧ V.slots.size = A.slots.size ∧ ∀ j, j < A.slots.size → V.slots[j]? = some (.int (lo8 (cv A j)))) ∧
  ∀ (O n d : String) (w : Value), RoadKit.Fld Z h x O n d w → RoadKit.slotOf Z O n d ≠ RoadKit.slotOf Z ST "value" "[B" → RoadKit.slotOf Z O n d ≠ RoadKit.slotOf Z ST "coder" "B" → RoadKit.Fld Z h' x O n d w
/-- **new String(chars) AT A CALL, IN THE ROAD'S FORM**: for specialBack behind newO: x the fresh String, b the char[] with the cell A -/
theorem back {p : Program} {l : Launch} {e : Env} {R : Room} {s : State} {args : Array Value} {below : List Frame} {len W : Nat} {Z : State} {a0 : Array Value} {h : Heap} (hZ : Z.Warmed39 s.vm) (hw : ∀ d ∈ words, d.before a0 Z = true) {kI : Nat} (wi : (Jvm.Cond.instantiable ST kI).before a0 Z = true)
    {x b : Addr} {A : Cell} {z : Int32} {v0 c0 : Value} (E : RoadKit.Exa Z h x ST) (V : RoadKit.Fld Z h x ST "value" "[B" v0) (C : RoadKit.Fld Z h x ST "coder" "B" c0) (K : RoadKit.Arr Z h b A .char) (hty : Typed .char A) (S : RoadKit.Sta Z h ST "COMPACT_STRINGS" "Z" (.int z)) (hz : ¬ z = 0)
    (l0 : 0 < A.slots.size) (l2 : A.slots.size ≤ 536870912) (hp : ∀ i, i < A.slots.size → ¬ 255 < cv A i) (hfr : 4 ≤ R.frames) (hlo : W + 65 ≤ R.locals) :
    Back l R p e below s args New1.yN len W (fun P a => a = #[.ref x, .ref b] ∧ P.U.heap = h ∧ P.cells + 1 ≤ R.cells ∧ P.slots + A.slots.size ≤ R.slots)
      (fun P _ v B => ∃ L, Q Z x A h v B.U.heap L ∧ B.locs = P.locs ++ L ∧ B.cells = P.cells + 1 ∧ B.slots = P.slots + A.slots.size) := by
  intro m meth c P g ig mk a X hg hsize hdg hW hn hp'
  obtain ⟨rfl, rfl, r1, r2⟩ := hp'
  have al : Z.vm.Alike P.U.vm := hZ.alike.trans X.warmed.alike
  obtain ⟨D, cfV, kV, iV, fV, hD, gV, stV, knV, obV, asV, slV⟩ := id V
  obtain ⟨D', cfC, kC, iC, fC, hD', gC, stC, -, -, asC, slC⟩ := id C
  cases hD.symm.trans hD'
  obtain ⟨D2, kD, e1, e2, e3, e4, e5⟩ := id E
  cases hD.symm.trans e1
  obtain ⟨c2, k2, i1, i2, i3, -⟩ := Cond.instantiable_spec wi
  cases e2.symm.trans i1
  cases e3.symm.trans i2
  obtain ⟨kU, u1, u2⟩ := al.2.2 _ _ e3
  have hB : Blank ST x D P.U := ⟨hD, ⟨knV, fun q hq => by rw [hq] at obV; cases obV⟩, by rw [al.findClass]; exact e2, kU, u1, by rw [u2]; exact i3, by rw [u2]; exact e5 i3⟩
  have F1 : Found ST "value" "[B" fV P.U := ⟨SBG.found_only al ⟨cfV, kV, iV, gV⟩, stV⟩
  have F2 : Found ST "coder" "B" fC P.U := ⟨SBG.found_only al ⟨cfC, kC, iC, gC⟩, stC⟩
  have hA : Ch b A P.U := ⟨⟨K.1, State.isArrayOf_alike al K.2.1, K.2.2, by omega⟩, hty⟩
  have hS : StaticIs P.U ST "COMPACT_STRINGS" "Z" (.int z) := by
    obtain ⟨cfS, iS, kS, fS, st, cS, t1, t2, t3, t4, t5, t6, t7⟩ := S
    exact StaticIs.there (s := { Z with heap := P.U.heap }) ⟨cfS, iS, kS, fS, st, cS, t1, t2, t3, t4, t5, (fun q => by rw [q] at t6; cases t6), t7⟩ al rfl
  obtain ⟨v, B, X', ⟨⟨hv, E', V', q1, q2, q3, q4, q5, q6, q7, q8, q9, q10, q11⟩, hl, hc, hs⟩, st⟩ := New1.pays x D fV fC b A z (tab_of (moved hZ hw)) hfr hlo m meth c P g ig mk _ X hg hsize hdg hW hn ⟨r1, r2, rfl, hB, F1, F2, hA, hS, hz, l0, l2, hp⟩
  have al' : Z.vm.Alike B.U.vm := hZ.alike.trans X'.warmed.alike
  have hsz : E'.slots.size = D.slots.size := by
    obtain ⟨-, -, -, kB, w1, w2, w3⟩ := q1
    obtain ⟨kB', y1, y2⟩ := al'.2.2 _ _ e3
    rw [q2.2.1] at w1
    cases w1.symm.trans y1
    rw [w3, e5 i3, y2]
  refine ⟨v, B, X', ⟨_, ⟨hv, ?_, ⟨by omega, fun y cy hy hn' => q10 y cy (by simpa using hn') hy, fun y cy hy => ?_⟩, q11, ⟨E', _, q1.1, by rw [q2.2.1]; exact e2, by rw [q2.2.1]; exact e3, by rw [q2.1]; exact obV, fun _ => by rw [hsz]; exact e5 i3⟩,
    ⟨E', cfV, kV, iV, fV, q1.1, gV, stV, by rw [q2.1]; exact knV, by rw [q2.1]; exact obV, by rw [q2.2.1]; exact asV, q3⟩, ⟨E', cfC, kC, iC, fC, q1.1, gC, stC, by rw [q2.1]; exact knV, by rw [q2.1]; exact obV, by rw [q2.2.1]; exact asC, q4⟩,
    ⟨V', ⟨q5.1, State.isArrayOf_alike al'.symm q5.2.1, q5.2.2.1⟩, q6, by rw [← al'.findClass]; exact q7, q8, fun j hj => by have := q9 j hj; rwa [Nat.zero_add] at this⟩, fun O n d w F n1 n2 => ?_⟩, hl, hc, hs⟩, st⟩
  · intro y hy
    simp only [List.mem_cons, List.not_mem_nil, or_false] at hy
    rcases hy with rfl | rfl <;> rfl
  · by_cases q : y = x
    · subst q
      cases hD.symm.trans hy
      exact ⟨E', q1.1, q2.2.1, q2.1, hsz⟩
    · exact ⟨cy, q10 y cy q hy, rfl, rfl, rfl⟩
  · obtain ⟨D3, cf, k, i, f, g1, g2, g3, g4, g5, g6, g7⟩ := F
    cases hD.symm.trans g1
    simp only [RoadKit.slotOf, g2, gV, gC, Option.map_some, Option.getD_some] at n1 n2
    exact ⟨E', cf, k, i, f, q1.1, g2, g3, by rw [q2.1]; exact g4, by rw [q2.1]; exact g5, by rw [q2.2.1]; exact g6, by rw [q2.2.2 f.slot (by simp [n1, n2])]; exact g7⟩
end StrChars.Road
namespace StrChars.Road
open Jvm Sem ClassFile Op Lib Jvm.Stand Jvm.Free Jvm.Free.XT
/-- WHAT COMES BACK, the byte[] as a list of values -/
def QA (Z : State) (x : Addr) (zn : Int32) (cs : List Int32) (h : Heap) (v : Option Value) (h' : Heap) (L : List Loc) : Prop := v = none ∧ (∀ y ∈ L, y.base = x) ∧ RoadKit.Keep h h' [x] ∧ h'.size = h.size + 1 ∧ RoadKit.Exa Z h' x ST ∧ RoadKit.Fld Z h' x ST "value" "[B" (.ref h.size) ∧ RoadKit.Fld Z h' x ST "coder" "B" (.int 0) ∧
  (∃ kb, Z.vm.findClass "[B" = some kb ∧ RoadKit.Arv Z h' h.size kb .byte zn (cs.map fun c => .int (lo8 c)) (.int 0)) ∧
  ∀ (O n d : String) (w : Value), RoadKit.Fld Z h x O n d w → RoadKit.slotOf Z O n d ≠ RoadKit.slotOf Z ST "value" "[B" → RoadKit.slotOf Z O n d ≠ RoadKit.slotOf Z ST "coder" "B" → RoadKit.Fld Z h' x O n d w
/-- **new String(chars) AT A CALL, THE ARRAYS AS LISTS**: the char[] at b holds cs, not empty, no char above 255 -/
theorem backArv {p : Program} {l : Launch} {e : Env} {R : Room} {s : State} {args : Array Value} {below : List Frame} {len W : Nat} {Z : State} {a0 : Array Value} {h : Heap} (hZ : Z.Warmed39 s.vm) (hw : ∀ d ∈ words, d.before a0 Z = true) {kI : Nat} (wi : (Jvm.Cond.instantiable ST kI).before a0 Z = true)
    {x b : Addr} {k : ClassId} {zn z : Int32} {cs : List Int32} {dv v0 c0 : Value} (E : RoadKit.Exa Z h x ST) (V : RoadKit.Fld Z h x ST "value" "[B" v0) (C : RoadKit.Fld Z h x ST "coder" "B" c0) (K : RoadKit.Arv Z h b k .char zn (cs.map Value.int) dv) (S : RoadKit.Sta Z h ST "COMPACT_STRINGS" "Z" (.int z)) (hz : ¬ z = 0)
    (hlen : zn.toNatClampNeg = cs.length) (h0 : 0 < cs.length) (hbig : cs.length ≤ 536870912) (hall : ∀ c ∈ cs, ¬ 255 < c) (hfr : 4 ≤ R.frames) (hlo : W + 65 ≤ R.locals) :
    Back l R p e below s args New1.yN len W (fun P a => a = #[.ref x, .ref b] ∧ P.U.heap = h ∧ P.cells + 1 ≤ R.cells ∧ P.slots + cs.length ≤ R.slots)
      (fun P _ v B => ∃ L, QA Z x zn cs h v B.U.heap L ∧ B.locs = P.locs ++ L ∧ B.cells = P.cells + 1 ∧ B.slots = P.slots + cs.length) := by
  obtain ⟨A, K1, K2, K3, K4, K5, K6⟩ := K
  have e : A.slots.size = cs.length := K3.trans hlen
  have hat : ∀ (i : Nat) (hi : i < cs.length), A.slots[i]? = some (.int cs[i]) := fun i hi => by rw [K5 i (by omega)]; simp [List.getD_eq_getElem?_getD, hi]
  have hcv : ∀ (i : Nat) (hi : i < cs.length), cv A i = cs[i] := fun i hi => by unfold cv; rw [hat i hi]
  have hty : Typed .char A := fun i v hv => by
    have hi : i < A.slots.size := (Array.getElem?_eq_some_iff.mp hv).1
    have q := K5 i hi
    rw [hv] at q
    rw [Option.some.inj q]
    exact K6 i hi
  refine Back.mono (back hZ hw wi E V C K1 hty S hz (by omega) (by omega) (fun i hi => by rw [hcv i (by omega)]; exact hall _ (List.getElem_mem _)) hfr hlo) (fun P a hp => ⟨hp.1, hp.2.1, hp.2.2.1, by rw [e]; exact hp.2.2.2⟩) (fun P a v B hp hq => ?_)
  obtain ⟨L, ⟨q1, q2, q3, q4, q5, q6, q7, ⟨V', v1, v2, v3, v4, v5⟩, q9⟩, hl, hc, hs⟩ := hq
  refine ⟨L, ⟨q1, q2, q3, q4, q5, q6, q7, ⟨V'.cls, v3, V', v1, rfl, by rw [v4, e, hlen], K4, fun i hi => ?_, fun i hi => ?_⟩, q9⟩, hl, hc, by rw [hs, e]⟩
  · have hi' : i < cs.length := by omega
    rw [v5 i (by omega), hcv i hi']; simp [List.getD_eq_getElem?_getD, hi']
  · have hi' : i < cs.length := by omega
    simp only [List.getD_eq_getElem?_getD, List.getElem?_map, List.getElem?_eq_getElem hi', Option.map_some, Option.getD_some]
    exact fits_lo8 _
end StrChars.Road
namespace StrChars.Road
open Jvm Sem ClassFile Op Lib Jvm.Stand Jvm.Free Jvm.Free.XT
/-- WHAT COMES BACK, in the writer's own shape -/
def QV (Z : State) (x : Addr) (N : Int32) (bs : List Int32) (h : Heap) (n0 : Nat) (v : Option Value) (h' : Heap) (L : List Loc) : Prop := v = none ∧ RoadKit.Fr n0 L ∧ RoadKit.Keep h h' [x] ∧ RoadKit.Exa Z h' x ST ∧ RoadKit.Fld Z h' x ST "coder" "B" (.int 0) ∧
  ∃ (t : Addr) (kb : ClassId), n0 ≤ t ∧ h.size ≤ t ∧ ¬ t = x ∧ RoadKit.Fld Z h' x ST "value" "[B" (.ref t) ∧ RoadKit.Arv Z h' t kb .byte N (bs.map Value.int) (.int 0)
/-- **new String(chars) AT A CALL, FOR THE WRITER**: a char[] of n known ints, each 0 to 255 -/
theorem backV {p : Program} {l : Launch} {e : Env} {R : Room} {s : State} {args : Array Value} {below : List Frame} {len W : Nat} {Z : State} {a0 : Array Value} {h : Heap} (hZ : Z.Warmed39 s.vm) (hw : ∀ d ∈ words, d.before a0 Z = true) {kI : Nat} (wi : (Jvm.Cond.instantiable ST kI).before a0 Z = true)
    {x b : Addr} {kC : ClassId} {cs bs : List Int32} {d v0 c0 : Value} {z N : Int32} {n n0 : Nat} (hx0 : n0 ≤ x) (hh0 : n0 ≤ h.size) (E : RoadKit.Exa Z h x ST) (V : RoadKit.Fld Z h x ST "value" "[B" v0) (C : RoadKit.Fld Z h x ST "coder" "B" c0) (K : RoadKit.Arv Z h b kC .char N (cs.map Value.int) d) (S : RoadKit.Sta Z h ST "COMPACT_STRINGS" "Z" (.int z)) (hz : ¬ z = 0)
    (hn : cs.length = n) (hN : N = Int32.ofNat n) (l0 : 0 < n) (l2 : n ≤ 4000) (hp : ∀ c ∈ cs, ¬ c < 0 ∧ ¬ (255 : Int32) < c) (hb : bs = cs.map (fun c => c.toInt8.toInt32)) (hfr : 4 ≤ R.frames) (hlo : W + 65 ≤ R.locals) :
    Back l R p e below s args (⟨"java/lang/String", "<init>", "([C)V"⟩ : MethodName) len W (fun P a => a = #[.ref x, .ref b] ∧ P.U.heap = h ∧ P.cells + 1 ≤ R.cells ∧ P.slots + n ≤ R.slots)
      (fun P _ v B => ∃ L, QV Z x N bs h n0 v B.U.heap L ∧ B.locs = P.locs ++ L ∧ B.cells = P.cells + 1 ∧ B.slots = P.slots + n) := by
  subst hn hN hb
  refine Back.mono (backArv hZ hw wi E V C K S hz (n32 (by omega)) l0 (by omega) (fun c hc => (hp c hc).2) hfr hlo) (fun P a hp => hp) (fun P a v B hp hq => ?_)
  obtain ⟨L, ⟨q1, q2, q3, q4, q5, q6, q7, ⟨kb, v1, v2⟩, q9⟩, hl, hc, hs⟩ := hq
  exact ⟨L, ⟨q1, fun y hy => by rw [q2 y hy]; exact hx0, q3, q5, q7, h.size, kb, hh0, Nat.le_refl _, Nat.ne_of_gt E.lt, q6, by rw [List.map_map]; exact v2⟩, hl, hc, hs⟩
end StrChars.Road
end Jvm.Pilot.@@N@@

namespace Jvm.Pilot.@@N@@
open Jvm Jvm.ClassFile Sem Op Lib Jvm.Free Jvm.Stand Jvm.LawKit Jvm.RoadKit Bundle Jvm.Pilot.@@N@@.Jvm.D
section Own
variable {p : Program} {l : Launch} {e : Env} {R : Room} {s : State} {m : MethodId} {args : Array Value} {below : List Frame} {meth : Method} {c : Code} {T : State} {locs : List Loc} {cells slots : Nat}
/-- from t on the body comes to an end, with at most C cells and S slots made, and Q says of it -/
def own_Comes (p : Program) (e : Env) (below : List Frame) (s : State) (C S : Nat) (Q : Option Value → Heap → List Loc → Prop) (t : State) : Prop :=
  ∃ (U : State) (o : Outcome), Steps p.tables e below t U ∧ U.status = .running ∧ Ended U below o ∧ ∃ v L, o = .returned v ∧ Q v U.heap L ∧ FrameEnd s o U L C S
theorem own_by {C S : Nat} {Q : Option Value → Heap → List Loc → Prop} {t t' : State} (st : ∀ target, Steps p.tables e below t' target → Steps p.tables e below t target) (h : own_Comes p e below s C S Q t') : own_Comes p e below s C S Q t := by
  obtain ⟨U, o, h1, h2⟩ := h
  exact ⟨U, o, st _ h1, h2⟩
theorem own_tr {C S : Nat} {Q : Option Value → Heap → List Loc → Prop} {t t' : State} (st : Steps p.tables e below t t') (h : own_Comes p e below s C S Q t') : own_Comes p e below s C S Q t := by
  obtain ⟨U, o, h1, h2⟩ := h
  exact ⟨U, o, st.trans h1, h2⟩
theorem own_ret (X : Stand p l e R s m args below meth c T locs cells slots) {C S : Nat} {Q : Option Value → Heap → List Loc → Prop} {v : Option Value} {t : State} (hv : meth.sig.returnType = none → v = none) (hlk : meth.locks = false) (hC : cells ≤ C) (hS : slots ≤ S) (hQ : Q v T.heap locs)
    (st : ∀ fs, (∀ (f : JFrame) (acts : List Action), f.method = m → f.locked = none → f.entered = [] → (doReturn e (T.setTop f) acts v).1 = T.setFrames fs) → Steps p.tables e below t (T.setFrames fs)) : own_Comes p e below s C S Q t := by
  obtain ⟨fs, hr, hrun, hended, hW, hsame⟩ := X.leave (v := v) hv hlk
  exact ⟨_, _, st fs hr, hrun, hended, v, locs, rfl, hQ, ⟨_, rfl⟩, hW, hsame.mono hC hS⟩
theorem retI (X : Stand p l e R s m args below meth c T locs cells slots) (hx : p.tables.exec = Jvm.exec) {pc : Nat} {Ls : Array Slot} {z : Int32} {rest : List Value} (hret : meth.sig.returnType = some .int) (hd : decode c.code pc = .ok (.ireturn, 1)) {fs : List Frame}
    (hl : ∀ (f : JFrame) (acts : List Action), f.method = m → f.locked = none → f.entered = [] → (doReturn e (T.setTop f) acts (some (.int z))).1 = T.setFrames fs) : Steps p.tables e below (T.setTop (mkF m pc Ls (.int z :: rest))) (T.setFrames fs) := by
  have hm' : T.vm.method? m = some meth := X.method'
  have hn : narrow .int (.int z) = .int z := rfl
  show Steps p.tables e below (T.setTop { method := m, pc := pc, locals := Ls, stack := _ :: rest, locked := none }) _
  jvm_step X.here [X.here.top, hx, hd, hm', hret, hn]
  first | (intro acts; rw [hl _ acts rfl rfl rfl]) | rw [hl _ _ rfl rfl rfl]
  exact Steps.refl _
theorem own_reta (X : Stand p l e R s m args below meth c T locs cells slots) (hx : p.tables.exec = Jvm.exec) {pc : Nat} {Ls : Array Slot} {w : Value} {t : FieldType} {rest : List Value} (hret : meth.sig.returnType = some t) (ht : t.isReference = true) (hw : w.isRef = true) (hd : decode c.code pc = .ok (.areturn, 1)) {fs : List Frame}
    (hl : ∀ (f : JFrame) (acts : List Action), f.method = m → f.locked = none → f.entered = [] → (doReturn e (T.setTop f) acts (some w)).1 = T.setFrames fs) : Steps p.tables e below (T.setTop (mkF m pc Ls (w :: rest))) (T.setFrames fs) := by
  have hm' : T.vm.method? m = some meth := X.method'
  have hn : narrow t w = w := by cases t <;> first | (cases ht; done) | (cases w <;> rfl)
  rcases ref_cases hw with rfl | ⟨z, rfl⟩
  all_goals
    show Steps p.tables e below (T.setTop { method := m, pc := pc, locals := Ls, stack := _ :: rest, locked := none }) _
    jvm_step X.here [X.here.top, hx, hd, hm', hret, hn, Value.isRef]
    try (refine ⟨ht, ?_⟩)
    first | (intro acts; rw [hl _ acts rfl rfl rfl]) | rw [hl _ _ rfl rfl rfl]
    exact Steps.refl _
/-- what is kept with nothing old written is only added to -/
theorem own_ext {h h' : Heap} (K : Keep h h' []) : Ext h h' := ⟨K.1, fun x c q => K.2.1 x c q nin0⟩
/-- the same, where String constants may have been loaded -/
def own_ComesW (p : Program) (e : Env) (below : List Frame) (s : State) (C S : Nat) (Q : Option Value → Heap → List Loc → Prop) (t : State) : Prop :=
  ∃ (U : State) (o : Outcome), Steps p.tables e below t U ∧ U.status = .running ∧ Ended U below o ∧ ∃ v L, o = .returned v ∧ Q v U.heap L ∧ ReturnedEndW s o U L C S
theorem own_byW {C S : Nat} {Q : Option Value → Heap → List Loc → Prop} {t t' : State} (st : ∀ target, Steps p.tables e below t' target → Steps p.tables e below t target) (h : own_ComesW p e below s C S Q t') : own_ComesW p e below s C S Q t := by
  obtain ⟨U, o, h1, h2⟩ := h
  exact ⟨U, o, st _ h1, h2⟩
theorem own_trW {C S : Nat} {Q : Option Value → Heap → List Loc → Prop} {t t' : State} (st : Steps p.tables e below t t') (h : own_ComesW p e below s C S Q t') : own_ComesW p e below s C S Q t := by
  obtain ⟨U, o, h1, h2⟩ := h
  exact ⟨U, o, st.trans h1, h2⟩
theorem own_retW {vm1 : Vm} (X : Stand p l e R (s.setVm vm1) m args below meth c T locs cells slots) {k : Nat} (hS : s.Since vm1 k) (hk : k ≤ T.heap.size) {C S : Nat} {Q : Option Value → Heap → List Loc → Prop} {v : Option Value} {t : State} (hv : meth.sig.returnType = none → v = none) (hlk : meth.locks = false) (hC : cells ≤ C) (hSl : slots ≤ S) (hQ : Q v T.heap locs)
    (st : ∀ fs, (∀ (f : JFrame) (acts : List Action), f.method = m → f.locked = none → f.entered = [] → (doReturn e (T.setTop f) acts v).1 = T.setFrames fs) → Steps p.tables e below t (T.setFrames fs)) : own_ComesW p e below s C S Q t := by
  obtain ⟨fs, hr, hrun, hended, hE⟩ := X.leaveW hS hk (v := v) hv hlk
  exact ⟨_, _, st fs hr, hrun, hended, v, locs, rfl, hQ, hE.1, hE.2.1, hE.2.2.1, hE.2.2.2.mono hC hSl⟩
end Own
def own_S (Z : State) (h : Heap) (x : Addr) : Prop :=
  Exa Z h x "java/lang/String" ∧ ∃ (t : Addr) (k : ClassId) (n : Int32) (vs : List Value), Fld Z h x "java/lang/String" "value" "[B" (.ref t) ∧ Arv Z h t k .byte n vs (.int 0) ∧ ¬ n = 0
theorem own_S.ext {Z : State} {h h' : Heap} {x : Addr} (A : own_S Z h x) (E : Ext h h') : own_S Z h' x := by
  obtain ⟨a1, t, k, n, vs, a2, a3, a4⟩ := A
  exact ⟨a1.ext E, t, k, n, vs, a2.ext E, a3.ext E, a4⟩
theorem own_and255 (x : Int32) : ¬ ((x &&& (255 : Int32)).toUInt32.toUInt16.toUInt32.toInt32) < 0 ∧ ¬ (255 : Int32) < ((x &&& (255 : Int32)).toUInt32.toUInt16.toUInt32.toInt32) := by
  rw [i2c_mask]
  have e : (255 : Int32).toInt = 255 := by decide
  have h := c_and x (255 : Int32) (by rw [e]; decide)
  rw [e] at h
  have e0 : (0 : Int32).toInt = 0 := by decide
  rw [Int32.lt_iff_toInt_lt, Int32.lt_iff_toInt_lt]; omega
theorem own_narchar (x : Int32) : nar .char ((x &&& (255 : Int32)).toUInt32.toUInt16.toUInt32.toInt32) = ((x &&& (255 : Int32)).toUInt32.toUInt16.toUInt32.toInt32) := by
  show (((x &&& (255 : Int32)).toUInt32.toUInt16.toUInt32.toInt32).toUInt32.toUInt16.toUInt32.toInt32) = _
  rw [i2c_mask, i2c_mask]

def Q1 (Z : State) (h0 : Heap) (n0 : Nat) (v : Option Value) (h : Heap) (L : List Loc) : Prop := ∃ a : Addr, v = some (.ref a) ∧ Fr n0 L ∧ Ext h0 h ∧ own_S Z h a
theorem ef_rm1 (m : MethodId) (x0 : Int32) (x1 : Int32) : entryFrame m #[(.int x0), (.int x1)] 3 = mkF m 0 #[.val (.int x0), .val (.int x1), .unset] [] := by first | (simp [entryFrame, mkF, argsToLocals, Value.category]; done) | rfl
theorem pn_com_example_valve_per_tenant_valvepertenant_store_BucketKeyOverridePinLaw : plainName "com/example/valve_per_tenant/valvepertenant/store/BucketKeyOverridePinLaw" = true := by first | (simp [plainName, overriddenIn]; done) | decide +kernel
theorem d1_0 : decode method_2_code 0 = .ok (.iload_n 1, 1) := by decide +kernel
theorem d1_1 : decode method_2_code 1 = .ok (.ifCond .eq 37, 3) := by decide +kernel
theorem d1_38 : decode method_2_code 38 = .ok (.iconst 1, 1) := by decide +kernel
theorem d1_39 : decode method_2_code 39 = .ok (.newarray .char, 2) := by decide +kernel
theorem d1_41 : decode method_2_code 41 = .ok (.astore_n 2, 1) := by decide +kernel
theorem d1_42 : decode method_2_code 42 = .ok (.aload_n 2, 1) := by decide +kernel
theorem d1_43 : decode method_2_code 43 = .ok (.iconst 0, 1) := by decide +kernel
theorem d1_44 : decode method_2_code 44 = .ok (.iload_n 0, 1) := by decide +kernel
theorem d1_45 : decode method_2_code 45 = .ok (.sipush 255, 3) := by decide +kernel
theorem d1_48 : decode method_2_code 48 = .ok (.iand, 1) := by decide +kernel
theorem d1_49 : decode method_2_code 49 = .ok (.i2c, 1) := by decide +kernel
theorem d1_50 : decode method_2_code 50 = .ok (.castore, 1) := by decide +kernel
theorem d1_51 : decode method_2_code 51 = .ok (.new 7, 3) := by decide +kernel
theorem d1_54 : decode method_2_code 54 = .ok (.dup, 1) := by decide +kernel
theorem d1_55 : decode method_2_code 55 = .ok (.aload_n 2, 1) := by decide +kernel
theorem pd___C_V_325 : parseMethodDescriptor "([C)V" = some ⟨[(.array .char)], none⟩ := by decide +kernel
theorem d1_56 : decode method_2_code 56 = .ok (.invokespecial 9, 3) := by decide +kernel
theorem d1_59 : decode method_2_code 59 = .ok (.areturn, 1) := by decide +kernel
theorem d1_4 : decode method_2_code 4 = .ok (.iconst 2, 1) := by decide +kernel
theorem d1_5 : decode method_2_code 5 = .ok (.newarray .char, 2) := by decide +kernel
theorem d1_7 : decode method_2_code 7 = .ok (.astore_n 2, 1) := by decide +kernel
theorem d1_8 : decode method_2_code 8 = .ok (.aload_n 2, 1) := by decide +kernel
theorem d1_9 : decode method_2_code 9 = .ok (.iconst 0, 1) := by decide +kernel
theorem d1_10 : decode method_2_code 10 = .ok (.iload_n 0, 1) := by decide +kernel
theorem d1_11 : decode method_2_code 11 = .ok (.sipush 255, 3) := by decide +kernel
theorem d1_14 : decode method_2_code 14 = .ok (.iand, 1) := by decide +kernel
theorem d1_15 : decode method_2_code 15 = .ok (.i2c, 1) := by decide +kernel
theorem d1_16 : decode method_2_code 16 = .ok (.castore, 1) := by decide +kernel
theorem d1_17 : decode method_2_code 17 = .ok (.aload_n 2, 1) := by decide +kernel
theorem d1_18 : decode method_2_code 18 = .ok (.iconst 1, 1) := by decide +kernel
theorem d1_19 : decode method_2_code 19 = .ok (.iload_n 0, 1) := by decide +kernel
theorem d1_20 : decode method_2_code 20 = .ok (.bipush 8, 2) := by decide +kernel
theorem d1_22 : decode method_2_code 22 = .ok (.iushr, 1) := by decide +kernel
theorem d1_23 : decode method_2_code 23 = .ok (.sipush 255, 3) := by decide +kernel
theorem d1_26 : decode method_2_code 26 = .ok (.iand, 1) := by decide +kernel
theorem d1_27 : decode method_2_code 27 = .ok (.i2c, 1) := by decide +kernel
theorem d1_28 : decode method_2_code 28 = .ok (.castore, 1) := by decide +kernel
theorem d1_29 : decode method_2_code 29 = .ok (.new 7, 3) := by decide +kernel
theorem d1_32 : decode method_2_code 32 = .ok (.dup, 1) := by decide +kernel
theorem d1_33 : decode method_2_code 33 = .ok (.aload_n 2, 1) := by decide +kernel
theorem d1_34 : decode method_2_code 34 = .ok (.invokespecial 9, 3) := by decide +kernel
theorem d1_37 : decode method_2_code 37 = .ok (.areturn, 1) := by decide +kernel
set_option maxRecDepth 65536 in
set_option maxHeartbeats 40000000 in
theorem rm1 (l : Launch) (Z : State) (a0 : Array Value) (hw : ∀ d ∈ tables_1, d.before a0 Z = true) (ws : List Jvm.Cond) (p0 p1 zc : Int32) (h0 : Heap) (n0 : Nat) (Z0 : n0 ≤ h0.size) (O0 : Old Z n0 h0) (Sz : Sta Z Z.heap "java/lang/String" "COMPACT_STRINGS" "Z" (.int zc)) (hzc : ¬ zc = 0) :
    MetFree l (⟨"com/example/valve_per_tenant/valvepertenant/store/BucketKeyOverridePinLaw", "drawn", "(IZ)Ljava/lang/String;"⟩ : MethodName) (head1 (Jvm.Cond.code (⟨"com/example/valve_per_tenant/valvepertenant/store/BucketKeyOverridePinLaw", "drawn", "(IZ)Ljava/lang/String;"⟩ : MethodName) method_2_code 3 (some (.object "java/lang/String")) :: ws) ({ frames := 4, cells := 3, slots := 8, locals := 66 } : Room)) (fun aX UX => aX = #[(.int p0), (.int p1)] ∧ Z.Warmed39 UX.vm ∧ UX.heap = h0) (fun _ _ _ _ _ => True) (fun _ UX oX UX' => ∃ vX LX, oX = .returned vX ∧ Q1 Z  h0 n0 vX UX'.heap LX ∧ FrameEnd UX oX UX' LX ({ frames := 4, cells := 3, slots := 8, locals := 66 } : Room).cells ({ frames := 4, cells := 3, slots := 8, locals := 66 } : Room).slots) := by
  refine MetFree.of_bodySF (plainFor_of_name pn_com_example_valve_per_tenant_valvepertenant_store_BucketKeyOverridePinLaw) hisR ?_
  intro p e s m args below meth c s₁ Bd hml0 hP hK
  obtain ⟨rfl, hZ, hh⟩ := hP
  have hx := Bd.exec
  have hby := Bd.bytes
  have hml : c.maxLocals = 3 := hml0
  have hown : s.vm.findClass "com/example/valve_per_tenant/valvepertenant/store/BucketKeyOverridePinLaw" = some m.cls := findClass_of_methodNamed Bd.named
  have hnm := (name_of_methodNamed Bd.named Bd.method).1
  have X0 : Stand p l e ({ frames := 4, cells := 3, slots := 8, locals := 66 } : Room) s m #[(.int p0), (.int p1)] below meth c s₁ [] 0 0 := Stand.of_body Bd
  have e0 : s₁.heap = h0 := by rw [← hh, Bd.state]; rfl
  have N0 := Fr.nil n0
  show own_Comes p e below s ({ frames := 4, cells := 3, slots := 8, locals := 66 } : Room).cells ({ frames := 4, cells := 3, slots := 8, locals := 66 } : Room).slots (Q1 Z  h0 n0) _
  rw [show entryFrame m #[(.int p0), (.int p1)] 3 = mkF m 0 #[.val (.int p0), .val (.int p1), .unset] [] from ef_rm1 m p0 p1]
  show own_Comes p e below s _ _ _ (s₁.setTop (mkF m 0 #[.val (.int p0), .val (.int p1), .unset] []))
  have hws : ∀ d ∈ StrChars.Road.words, d.before a0 Z = true := fun d hd => hw d ((by decide +kernel : ∀ d ∈ StrChars.Road.words, d ∈ tables_1) d hd)
  refine own_by (fun _ kS => XS.iloadN X0.here hx rfl (hb hby d1_0) rfl kS) ?_
  show own_Comes p e below s _ _ _ (s₁.setTop (mkF m 1 #[.val (.int p0), .val (.int p1), .unset] [(.int p1)]))
  by_cases htw : p1 = (0 : Int32)
  · refine own_by (fun _ kS => XS.ifYes X0.here hx rfl (pc0 := 1) (pc' := 38) rfl (hb hby d1_1) rfl ((if0 _ _).trans (teq htw).1) (by decide) (by decide) kS) ?_
    show own_Comes p e below s _ _ _ (s₁.setTop (mkF m 38 #[.val (.int p0), .val (.int p1), .unset] []))
    refine own_by (fun _ kS => XS.iconst X0.here hx rfl (hb hby d1_38) kS) ?_
    show own_Comes p e below s _ _ _ (s₁.setTop (mkF m 39 #[.val (.int p0), .val (.int p1), .unset] [(.int (1 : Int32))]))
    obtain ⟨T1, h1, k1, X1, e1, E1, A1, st1⟩ := newP X0 hx hZ (hw _ (List.mem_of_getElem? (i := 4) rfl)) e0 (g := (mkF m 39 #[.val (.int p0), .val (.int p1), .unset] [(.int (1 : Int32))])) rfl (hb hby d1_39) rfl (by decide) (cap := 1) (by decide) (by decide) (by decide) (by decide)
    obtain ⟨b1, g1⟩ : ∃ z, z = h0.size := ⟨_, rfl⟩
    rw [← g1] at A1 st1
    have g_b1 : n0 ≤ b1 := Nat.le_trans Z0 (Nat.le_of_eq g1.symm)
    refine own_by st1 ?_
    have V_b1 : Arv Z h1 b1 k1 .char (1 : Int32) [(.int (0 : Int32))] (.int (0 : Int32)) := (Arv.new A1 (by decide)).pad (pad_rep [] (.int (0 : Int32)) 1)
    show own_Comes p e below s _ _ _ (T1.setTop (mkF m 41 #[.val (.int p0), .val (.int p1), .unset] [(.ref b1)]))
    have sz_b1 : h0.size ≤ b1 := Nat.le_trans (Keep.refl h0 []).1 (Nat.le_of_eq g1.symm)
    refine own_by (fun _ kS => XS.astoreN X1.here hx rfl (hb hby d1_41) rfl rfl (l' := #[.val (.int p0), .val (.int p1), .val (.ref b1)]) rfl kS) ?_
    show own_Comes p e below s _ _ _ (T1.setTop (mkF m 42 #[.val (.int p0), .val (.int p1), .val (.ref b1)] []))
    refine own_by (fun _ kS => XS.aloadN X1.here hx rfl (hb hby d1_42) rfl rfl kS) ?_
    show own_Comes p e below s _ _ _ (T1.setTop (mkF m 43 #[.val (.int p0), .val (.int p1), .val (.ref b1)] [(.ref b1)]))
    refine own_by (fun _ kS => XS.iconst X1.here hx rfl (hb hby d1_43) kS) ?_
    show own_Comes p e below s _ _ _ (T1.setTop (mkF m 44 #[.val (.int p0), .val (.int p1), .val (.ref b1)] [(.int (0 : Int32)), (.ref b1)]))
    refine own_by (fun _ kS => XS.iloadN X1.here hx rfl (hb hby d1_44) rfl kS) ?_
    show own_Comes p e below s _ _ _ (T1.setTop (mkF m 45 #[.val (.int p0), .val (.int p1), .val (.ref b1)] [(.int p0), (.int (0 : Int32)), (.ref b1)]))
    refine own_by (fun _ kS => XS.sipush X1.here hx rfl (hb hby d1_45) kS) ?_
    show own_Comes p e below s _ _ _ (T1.setTop (mkF m 48 #[.val (.int p0), .val (.int p1), .val (.ref b1)] [(.int (255 : Int32)), (.int p0), (.int (0 : Int32)), (.ref b1)]))
    refine own_by (fun _ kS => XS.iand X1.here hx rfl (hb hby d1_48) rfl kS) ?_
    show own_Comes p e below s _ _ _ (T1.setTop (mkF m 49 #[.val (.int p0), .val (.int p1), .val (.ref b1)] [(.int (p0 &&& (255 : Int32))), (.int (0 : Int32)), (.ref b1)]))
    refine own_by (fun _ kS => XS.i2c X1.here hx rfl (hb hby d1_49) rfl kS) ?_
    show own_Comes p e below s _ _ _ (T1.setTop (mkF m 50 #[.val (.int p0), .val (.int p1), .val (.ref b1)] [(.int ((p0 &&& (255 : Int32)).toUInt32.toUInt16.toUInt32.toInt32)), (.int (0 : Int32)), (.ref b1)]))
    have Vo2 := V_b1
    obtain ⟨cl2, Ar2, qA2, SA2, NA2, HA2, GA2⟩ := Vo2
    have hin2 : ¬ ((0 : Int32) < 0 ∨ cl2.slots.size ≤ ((0 : Int32)).toNatClampNeg) := inb_of SA2 ⟨by decide, by decide⟩
    obtain ⟨T3, h3, X3, e3, W3, st3⟩ := stC X1 hx hZ e1 Ar2 (j := (0 : Int32)) hin2 (g := (mkF m 50 #[.val (.int p0), .val (.int p1), .val (.ref b1)] [(.int ((p0 &&& (255 : Int32)).toUInt32.toUInt16.toUInt32.toInt32)), (.int (0 : Int32)), (.ref b1)])) rfl rfl (hb hby d1_50)
    refine own_by st3 ?_
    have V3 : Arv Z h3 b1 k1 .char (1 : Int32) [(.int (nar .char ((p0 &&& (255 : Int32)).toUInt32.toUInt16.toUInt32.toInt32)))] (.int (0 : Int32)) := Arv.set Ar2 qA2 SA2 NA2 HA2 GA2 (by first | rfl | exact fits_nar_char _) W3 0 rfl (Nat.le_of_ble_eq_true rfl)
    have N3 := Fr.snoc X3 N0 g_b1
    show own_Comes p e below s _ _ _ (T3.setTop (mkF m 51 #[.val (.int p0), .val (.int p1), .val (.ref b1)] []))
    have Vc := V3
    rw [own_narchar] at Vc
    obtain ⟨T4, h4, X4, e4, E4, A4, D4, -, st4⟩ := newO X3 hx hZ hown (hw _ (List.mem_of_getElem? (i := 5) rfl)) (hw _ (List.mem_of_getElem? (i := 6) rfl)) (hw _ (List.mem_of_getElem? (i := 7) rfl)) e3 (g := (mkF m 51 #[.val (.int p0), .val (.int p1), .val (.ref b1)] [])) rfl (hb hby d1_51) (by decide) (by decide)
    obtain ⟨b4, g4⟩ : ∃ z, z = h3.size := ⟨_, rfl⟩
    rw [← g4] at A4 D4 st4
    have g_b4 : n0 ≤ b4 := Nat.le_trans (Nat.le_trans (Nat.le_trans Z0 E1.1) (Keep.of_wr W3).1) (Nat.le_of_eq g4.symm)
    refine own_by st4 ?_
    show own_Comes p e below s _ _ _ (T4.setTop (mkF m 54 #[.val (.int p0), .val (.int p1), .val (.ref b1)] [(.ref b4)]))
    refine own_by (fun _ kS => XS.dup X4.here hx rfl (hb hby d1_54) rfl rfl kS) ?_
    show own_Comes p e below s _ _ _ (T4.setTop (mkF m 55 #[.val (.int p0), .val (.int p1), .val (.ref b1)] [(.ref b4), (.ref b4)]))
    refine own_by (fun _ kS => XS.aloadN X4.here hx rfl (hb hby d1_55) rfl rfl kS) ?_
    show own_Comes p e below s _ _ _ (T4.setTop (mkF m 56 #[.val (.int p0), .val (.int p1), .val (.ref b1)] [(.ref b1), (.ref b4), (.ref b4)]))
    have sz_b4 : h0.size ≤ b4 := Nat.le_trans (((Keep.refl h0 []).ext E1).wr W3 (Or.inr sz_b1)).1 (Nat.le_of_eq g4.symm)
    have hp : ∀ c ∈ ([((p0 &&& (255 : Int32)).toUInt32.toUInt16.toUInt32.toInt32)] : List Int32), ¬ c < 0 ∧ ¬ (255 : Int32) < c := fun c hc => by
      simp only [List.mem_cons, List.not_mem_nil, or_false] at hc
      rcases hc with rfl
      · exact own_and255 _
    obtain ⟨_, _, ⟨T5, L5, k5, n5⟩, -, X5, ⟨Lc5, hQ5, l5, y5, z5⟩, st5⟩ := X4.specialBack hx (y := (⟨"java/lang/String", "<init>", "([C)V"⟩ : MethodName)) rfl hown (mvT hZ (hw _ (List.mem_of_getElem? (i := 8) rfl))) (mvT hZ (hw _ (List.mem_of_getElem? (i := 9) rfl))) (mvT hZ (hw _ (List.mem_of_getElem? (i := 10) rfl))) (by decide) (StrChars.Road.backV (W := 1) hZ hws (kI := 4) (hw _ (List.mem_of_getElem? (i := 6) rfl)) (cs := [((p0 &&& (255 : Int32)).toUInt32.toUInt16.toUInt32.toInt32)]) (bs := [((p0 &&& (255 : Int32)).toUInt32.toUInt16.toUInt32.toInt32)].map (fun c => c.toInt8.toInt32)) (n := 1) (n0 := n0) g_b4 (Nat.le_trans (Nat.le_trans (Nat.le_trans Z0 E1.1) (Keep.of_wr W3).1) E4.1) A4 (D4 (Or.inr (hw _ (List.mem_of_getElem? (i := 33) rfl))) (ty := (.array .byte)) (by decide)) (D4 (Or.inr (hw _ (List.mem_of_getElem? (i := 31) rfl))) (ty := .byte) (by decide)) (Vc.ext E4) (Sz.ext (((O0.ext E1).wr W3 g_b1).ext E4).2) hzc rfl rfl (by decide) (by decide) hp rfl (by decide) (by decide)) (g := (mkF m 56 #[.val (.int p0), .val (.int p1), .val (.ref b1)] [(.ref b1), (.ref b4), (.ref b4)])) rfl (by rw [hml]; rfl) (Steps.refl _) (a := b4) (argsL := [(.ref b1)]) (rest := [(.ref b4)]) (lenOf pd___C_V_325 rfl) rfl (by show 2 * 0 + _ ≤ _; exact Nat.le_of_eq rfl) (hb hby d1_56) (fun _ _ => ⟨rfl, e4, (by decide : 2 + 1 ≤ _), (by decide : 5 + 1 ≤ _)⟩)
    dsimp only [Pt.U, Pt.locs, Pt.cells, Pt.slots] at X5 l5 y5 z5 st5 hQ5
    subst l5 y5 z5
    obtain ⟨rfl, N5q, K5, Eb5, _, t5, kb5, _, _, _, Fv5, Vb5⟩ := hQ5
    have N5 := Fr.app N3 N5q
    refine own_tr st5 ?_
    show own_Comes p e below s _ _ _ (T5.setTop (mkF m 59 #[.val (.int p0), .val (.int p1), .val (.ref b1)] [(.ref b4)]))
    refine own_ret X5 (v := some (.ref b4)) (fun h => by rw [Bd.returns] at h; cases h) Bd.notSynchronized (by decide) (by decide) ?_ (fun fs hr => own_reta X5 hx Bd.returns rfl rfl (hb hby d1_59) hr)
    exact ⟨_, rfl, N5, own_ext (((((Keep.refl _ _).ext E1).wr W3 (Or.inr sz_b1)).ext E4).trans K5 (allS (Or.inr sz_b4) all0)), Eb5, _, _, _, _, Fv5, Vb5, by decide⟩
  · refine own_by (fun _ kS => XS.ifNo X0.here hx rfl (hb hby d1_1) rfl ((if0 _ _).trans (feq htw).1) kS) ?_
    show own_Comes p e below s _ _ _ (s₁.setTop (mkF m 4 #[.val (.int p0), .val (.int p1), .unset] []))
    refine own_by (fun _ kS => XS.iconst X0.here hx rfl (hb hby d1_4) kS) ?_
    show own_Comes p e below s _ _ _ (s₁.setTop (mkF m 5 #[.val (.int p0), .val (.int p1), .unset] [(.int (2 : Int32))]))
    obtain ⟨T6, h6, k6, X6, e6, E6, A6, st6⟩ := newP X0 hx hZ (hw _ (List.mem_of_getElem? (i := 4) rfl)) e0 (g := (mkF m 5 #[.val (.int p0), .val (.int p1), .unset] [(.int (2 : Int32))])) rfl (hb hby d1_5) rfl (by decide) (cap := 2) (by decide) (by decide) (by decide) (by decide)
    obtain ⟨b6, g6⟩ : ∃ z, z = h0.size := ⟨_, rfl⟩
    rw [← g6] at A6 st6
    have g_b6 : n0 ≤ b6 := Nat.le_trans Z0 (Nat.le_of_eq g6.symm)
    refine own_by st6 ?_
    have V_b6 : Arv Z h6 b6 k6 .char (2 : Int32) [(.int (0 : Int32)), (.int (0 : Int32))] (.int (0 : Int32)) := (Arv.new A6 (by decide)).pad (pad_rep [] (.int (0 : Int32)) 2)
    show own_Comes p e below s _ _ _ (T6.setTop (mkF m 7 #[.val (.int p0), .val (.int p1), .unset] [(.ref b6)]))
    have sz_b6 : h0.size ≤ b6 := Nat.le_trans (Keep.refl h0 []).1 (Nat.le_of_eq g6.symm)
    refine own_by (fun _ kS => XS.astoreN X6.here hx rfl (hb hby d1_7) rfl rfl (l' := #[.val (.int p0), .val (.int p1), .val (.ref b6)]) rfl kS) ?_
    show own_Comes p e below s _ _ _ (T6.setTop (mkF m 8 #[.val (.int p0), .val (.int p1), .val (.ref b6)] []))
    refine own_by (fun _ kS => XS.aloadN X6.here hx rfl (hb hby d1_8) rfl rfl kS) ?_
    show own_Comes p e below s _ _ _ (T6.setTop (mkF m 9 #[.val (.int p0), .val (.int p1), .val (.ref b6)] [(.ref b6)]))
    refine own_by (fun _ kS => XS.iconst X6.here hx rfl (hb hby d1_9) kS) ?_
    show own_Comes p e below s _ _ _ (T6.setTop (mkF m 10 #[.val (.int p0), .val (.int p1), .val (.ref b6)] [(.int (0 : Int32)), (.ref b6)]))
    refine own_by (fun _ kS => XS.iloadN X6.here hx rfl (hb hby d1_10) rfl kS) ?_
    show own_Comes p e below s _ _ _ (T6.setTop (mkF m 11 #[.val (.int p0), .val (.int p1), .val (.ref b6)] [(.int p0), (.int (0 : Int32)), (.ref b6)]))
    refine own_by (fun _ kS => XS.sipush X6.here hx rfl (hb hby d1_11) kS) ?_
    show own_Comes p e below s _ _ _ (T6.setTop (mkF m 14 #[.val (.int p0), .val (.int p1), .val (.ref b6)] [(.int (255 : Int32)), (.int p0), (.int (0 : Int32)), (.ref b6)]))
    refine own_by (fun _ kS => XS.iand X6.here hx rfl (hb hby d1_14) rfl kS) ?_
    show own_Comes p e below s _ _ _ (T6.setTop (mkF m 15 #[.val (.int p0), .val (.int p1), .val (.ref b6)] [(.int (p0 &&& (255 : Int32))), (.int (0 : Int32)), (.ref b6)]))
    refine own_by (fun _ kS => XS.i2c X6.here hx rfl (hb hby d1_15) rfl kS) ?_
    show own_Comes p e below s _ _ _ (T6.setTop (mkF m 16 #[.val (.int p0), .val (.int p1), .val (.ref b6)] [(.int ((p0 &&& (255 : Int32)).toUInt32.toUInt16.toUInt32.toInt32)), (.int (0 : Int32)), (.ref b6)]))
    have Vo7 := V_b6
    obtain ⟨cl7, Ar7, qA7, SA7, NA7, HA7, GA7⟩ := Vo7
    have hin7 : ¬ ((0 : Int32) < 0 ∨ cl7.slots.size ≤ ((0 : Int32)).toNatClampNeg) := inb_of SA7 ⟨by decide, by decide⟩
    obtain ⟨T8, h8, X8, e8, W8, st8⟩ := stC X6 hx hZ e6 Ar7 (j := (0 : Int32)) hin7 (g := (mkF m 16 #[.val (.int p0), .val (.int p1), .val (.ref b6)] [(.int ((p0 &&& (255 : Int32)).toUInt32.toUInt16.toUInt32.toInt32)), (.int (0 : Int32)), (.ref b6)])) rfl rfl (hb hby d1_16)
    refine own_by st8 ?_
    have V8 : Arv Z h8 b6 k6 .char (2 : Int32) [(.int (nar .char ((p0 &&& (255 : Int32)).toUInt32.toUInt16.toUInt32.toInt32))), (.int (0 : Int32))] (.int (0 : Int32)) := Arv.set Ar7 qA7 SA7 NA7 HA7 GA7 (by first | rfl | exact fits_nar_char _) W8 0 rfl (Nat.le_of_ble_eq_true rfl)
    have N8 := Fr.snoc X8 N0 g_b6
    show own_Comes p e below s _ _ _ (T8.setTop (mkF m 17 #[.val (.int p0), .val (.int p1), .val (.ref b6)] []))
    refine own_by (fun _ kS => XS.aloadN X8.here hx rfl (hb hby d1_17) rfl rfl kS) ?_
    show own_Comes p e below s _ _ _ (T8.setTop (mkF m 18 #[.val (.int p0), .val (.int p1), .val (.ref b6)] [(.ref b6)]))
    refine own_by (fun _ kS => XS.iconst X8.here hx rfl (hb hby d1_18) kS) ?_
    show own_Comes p e below s _ _ _ (T8.setTop (mkF m 19 #[.val (.int p0), .val (.int p1), .val (.ref b6)] [(.int (1 : Int32)), (.ref b6)]))
    refine own_by (fun _ kS => XS.iloadN X8.here hx rfl (hb hby d1_19) rfl kS) ?_
    show own_Comes p e below s _ _ _ (T8.setTop (mkF m 20 #[.val (.int p0), .val (.int p1), .val (.ref b6)] [(.int p0), (.int (1 : Int32)), (.ref b6)]))
    refine own_by (fun _ kS => XS.bipush X8.here hx rfl (hb hby d1_20) kS) ?_
    show own_Comes p e below s _ _ _ (T8.setTop (mkF m 22 #[.val (.int p0), .val (.int p1), .val (.ref b6)] [(.int (8 : Int32)), (.int p0), (.int (1 : Int32)), (.ref b6)]))
    refine own_by (fun _ kS => XS.iushr X8.here hx rfl (hb hby d1_22) rfl kS) ?_
    show own_Comes p e below s _ _ _ (T8.setTop (mkF m 23 #[.val (.int p0), .val (.int p1), .val (.ref b6)] [(.int ((p0.toUInt32 >>> ((8 : Int32) &&& 31).toUInt32).toInt32)), (.int (1 : Int32)), (.ref b6)]))
    refine own_by (fun _ kS => XS.sipush X8.here hx rfl (hb hby d1_23) kS) ?_
    show own_Comes p e below s _ _ _ (T8.setTop (mkF m 26 #[.val (.int p0), .val (.int p1), .val (.ref b6)] [(.int (255 : Int32)), (.int ((p0.toUInt32 >>> ((8 : Int32) &&& 31).toUInt32).toInt32)), (.int (1 : Int32)), (.ref b6)]))
    refine own_by (fun _ kS => XS.iand X8.here hx rfl (hb hby d1_26) rfl kS) ?_
    show own_Comes p e below s _ _ _ (T8.setTop (mkF m 27 #[.val (.int p0), .val (.int p1), .val (.ref b6)] [(.int (((p0.toUInt32 >>> ((8 : Int32) &&& 31).toUInt32).toInt32) &&& (255 : Int32))), (.int (1 : Int32)), (.ref b6)]))
    refine own_by (fun _ kS => XS.i2c X8.here hx rfl (hb hby d1_27) rfl kS) ?_
    show own_Comes p e below s _ _ _ (T8.setTop (mkF m 28 #[.val (.int p0), .val (.int p1), .val (.ref b6)] [(.int ((((p0.toUInt32 >>> ((8 : Int32) &&& 31).toUInt32).toInt32) &&& (255 : Int32)).toUInt32.toUInt16.toUInt32.toInt32)), (.int (1 : Int32)), (.ref b6)]))
    have Vo9 := V8
    obtain ⟨cl9, Ar9, qA9, SA9, NA9, HA9, GA9⟩ := Vo9
    have hin9 : ¬ ((1 : Int32) < 0 ∨ cl9.slots.size ≤ ((1 : Int32)).toNatClampNeg) := inb_of SA9 ⟨by decide, by decide⟩
    obtain ⟨T10, h10, X10, e10, W10, st10⟩ := stC X8 hx hZ e8 Ar9 (j := (1 : Int32)) hin9 (g := (mkF m 28 #[.val (.int p0), .val (.int p1), .val (.ref b6)] [(.int ((((p0.toUInt32 >>> ((8 : Int32) &&& 31).toUInt32).toInt32) &&& (255 : Int32)).toUInt32.toUInt16.toUInt32.toInt32)), (.int (1 : Int32)), (.ref b6)])) rfl rfl (hb hby d1_28)
    refine own_by st10 ?_
    have V10 : Arv Z h10 b6 k6 .char (2 : Int32) [(.int (nar .char ((p0 &&& (255 : Int32)).toUInt32.toUInt16.toUInt32.toInt32))), (.int (nar .char ((((p0.toUInt32 >>> ((8 : Int32) &&& 31).toUInt32).toInt32) &&& (255 : Int32)).toUInt32.toUInt16.toUInt32.toInt32)))] (.int (0 : Int32)) := Arv.set Ar9 qA9 SA9 NA9 HA9 GA9 (by first | rfl | exact fits_nar_char _) W10 1 rfl (Nat.le_of_ble_eq_true rfl)
    have N10 := Fr.snoc X10 N8 g_b6
    show own_Comes p e below s _ _ _ (T10.setTop (mkF m 29 #[.val (.int p0), .val (.int p1), .val (.ref b6)] []))
    have Vc := V10
    rw [own_narchar, own_narchar] at Vc
    obtain ⟨T11, h11, X11, e11, E11, A11, D11, -, st11⟩ := newO X10 hx hZ hown (hw _ (List.mem_of_getElem? (i := 5) rfl)) (hw _ (List.mem_of_getElem? (i := 6) rfl)) (hw _ (List.mem_of_getElem? (i := 7) rfl)) e10 (g := (mkF m 29 #[.val (.int p0), .val (.int p1), .val (.ref b6)] [])) rfl (hb hby d1_29) (by decide) (by decide)
    obtain ⟨b11, g11⟩ : ∃ z, z = h10.size := ⟨_, rfl⟩
    rw [← g11] at A11 D11 st11
    have g_b11 : n0 ≤ b11 := Nat.le_trans (Nat.le_trans (Nat.le_trans (Nat.le_trans Z0 E6.1) (Keep.of_wr W8).1) (Keep.of_wr W10).1) (Nat.le_of_eq g11.symm)
    refine own_by st11 ?_
    show own_Comes p e below s _ _ _ (T11.setTop (mkF m 32 #[.val (.int p0), .val (.int p1), .val (.ref b6)] [(.ref b11)]))
    refine own_by (fun _ kS => XS.dup X11.here hx rfl (hb hby d1_32) rfl rfl kS) ?_
    show own_Comes p e below s _ _ _ (T11.setTop (mkF m 33 #[.val (.int p0), .val (.int p1), .val (.ref b6)] [(.ref b11), (.ref b11)]))
    refine own_by (fun _ kS => XS.aloadN X11.here hx rfl (hb hby d1_33) rfl rfl kS) ?_
    show own_Comes p e below s _ _ _ (T11.setTop (mkF m 34 #[.val (.int p0), .val (.int p1), .val (.ref b6)] [(.ref b6), (.ref b11), (.ref b11)]))
    have sz_b11 : h0.size ≤ b11 := Nat.le_trans ((((Keep.refl h0 []).ext E6).wr W8 (Or.inr sz_b6)).wr W10 (Or.inr sz_b6)).1 (Nat.le_of_eq g11.symm)
    have hp : ∀ c ∈ ([((p0 &&& (255 : Int32)).toUInt32.toUInt16.toUInt32.toInt32), ((((p0.toUInt32 >>> ((8 : Int32) &&& 31).toUInt32).toInt32) &&& (255 : Int32)).toUInt32.toUInt16.toUInt32.toInt32)] : List Int32), ¬ c < 0 ∧ ¬ (255 : Int32) < c := fun c hc => by
      simp only [List.mem_cons, List.not_mem_nil, or_false] at hc
      rcases hc with rfl | rfl
      · exact own_and255 _
      · exact own_and255 _
    obtain ⟨_, _, ⟨T12, L12, k12, n12⟩, -, X12, ⟨Lc12, hQ12, l12, y12, z12⟩, st12⟩ := X11.specialBack hx (y := (⟨"java/lang/String", "<init>", "([C)V"⟩ : MethodName)) rfl hown (mvT hZ (hw _ (List.mem_of_getElem? (i := 8) rfl))) (mvT hZ (hw _ (List.mem_of_getElem? (i := 9) rfl))) (mvT hZ (hw _ (List.mem_of_getElem? (i := 10) rfl))) (by decide) (StrChars.Road.backV (W := 1) hZ hws (kI := 4) (hw _ (List.mem_of_getElem? (i := 6) rfl)) (cs := [((p0 &&& (255 : Int32)).toUInt32.toUInt16.toUInt32.toInt32), ((((p0.toUInt32 >>> ((8 : Int32) &&& 31).toUInt32).toInt32) &&& (255 : Int32)).toUInt32.toUInt16.toUInt32.toInt32)]) (bs := [((p0 &&& (255 : Int32)).toUInt32.toUInt16.toUInt32.toInt32), ((((p0.toUInt32 >>> ((8 : Int32) &&& 31).toUInt32).toInt32) &&& (255 : Int32)).toUInt32.toUInt16.toUInt32.toInt32)].map (fun c => c.toInt8.toInt32)) (n := 2) (n0 := n0) g_b11 (Nat.le_trans (Nat.le_trans (Nat.le_trans (Nat.le_trans Z0 E6.1) (Keep.of_wr W8).1) (Keep.of_wr W10).1) E11.1) A11 (D11 (Or.inr (hw _ (List.mem_of_getElem? (i := 33) rfl))) (ty := (.array .byte)) (by decide)) (D11 (Or.inr (hw _ (List.mem_of_getElem? (i := 31) rfl))) (ty := .byte) (by decide)) (Vc.ext E11) (Sz.ext ((((O0.ext E6).wr W8 g_b6).wr W10 g_b6).ext E11).2) hzc rfl rfl (by decide) (by decide) hp rfl (by decide) (by decide)) (g := (mkF m 34 #[.val (.int p0), .val (.int p1), .val (.ref b6)] [(.ref b6), (.ref b11), (.ref b11)])) rfl (by rw [hml]; rfl) (Steps.refl _) (a := b11) (argsL := [(.ref b6)]) (rest := [(.ref b11)]) (lenOf pd___C_V_325 rfl) rfl (by show 2 * 0 + _ ≤ _; exact Nat.le_of_eq rfl) (hb hby d1_34) (fun _ _ => ⟨rfl, e11, (by decide : 2 + 1 ≤ _), (by decide : 6 + 2 ≤ _)⟩)
    dsimp only [Pt.U, Pt.locs, Pt.cells, Pt.slots] at X12 l12 y12 z12 st12 hQ12
    subst l12 y12 z12
    obtain ⟨rfl, N12q, K12, Eb12, _, t12, kb12, _, _, _, Fv12, Vb12⟩ := hQ12
    have N12 := Fr.app N10 N12q
    refine own_tr st12 ?_
    show own_Comes p e below s _ _ _ (T12.setTop (mkF m 37 #[.val (.int p0), .val (.int p1), .val (.ref b6)] [(.ref b11)]))
    refine own_ret X12 (v := some (.ref b11)) (fun h => by rw [Bd.returns] at h; cases h) Bd.notSynchronized (by decide) (by decide) ?_ (fun fs hr => own_reta X12 hx Bd.returns rfl rfl (hb hby d1_37) hr)
    exact ⟨_, rfl, N12, own_ext ((((((Keep.refl _ _).ext E6).wr W8 (Or.inr sz_b6)).wr W10 (Or.inr sz_b6)).ext E11).trans K12 (allS (Or.inr sz_b11) all0)), Eb12, _, _, _, _, Fv12, Vb12, by decide⟩
def Q10 (Z : State) (h0 : Heap) (n0 : Nat) (v : Option Value) (h : Heap) (L : List Loc) : Prop := v = some (.int (0 : Int32)) ∧ Fr n0 L ∧ h = h0
theorem ef_rm10 (m : MethodId) (x0 : Addr) : entryFrame m #[(.ref x0)] 1 = mkF m 0 #[.val (.ref x0)] [] := by first | (simp [entryFrame, mkF, argsToLocals, Value.category]; done) | rfl
theorem pn_java_lang_String : plainName "java/lang/String" = true := by first | (simp [plainName, overriddenIn]; done) | decide +kernel
theorem d10_0 : decode jdk_42_method_55_code 0 = .ok (.aload_n 0, 1) := by decide +kernel
theorem d10_1 : decode jdk_42_method_55_code 1 = .ok (.getfield 9, 3) := by decide +kernel
theorem d10_4 : decode jdk_42_method_55_code 4 = .ok (.arraylength, 1) := by decide +kernel
theorem d10_5 : decode jdk_42_method_55_code 5 = .ok (.ifCond .ne 7, 3) := by decide +kernel
theorem d10_12 : decode jdk_42_method_55_code 12 = .ok (.iconst 0, 1) := by decide +kernel
theorem d10_13 : decode jdk_42_method_55_code 13 = .ok (.ireturn, 1) := by decide +kernel
set_option maxRecDepth 65536 in
set_option maxHeartbeats 40000000 in
theorem rm10 (l : Launch) (Z : State) (a0 : Array Value) (hw : ∀ d ∈ tables_1, d.before a0 Z = true) (ws : List Jvm.Cond) (r0 : Addr) (h0 : Heap) (n0 : Nat) (Z0 : n0 ≤ h0.size) (S0 : own_S Z h0 r0) :
    MetFree l (⟨"java/lang/String", "isEmpty", "()Z"⟩ : MethodName) (head1 (Jvm.Cond.code (⟨"java/lang/String", "isEmpty", "()Z"⟩ : MethodName) jdk_42_method_55_code 1 (some .boolean) :: ws) ({ frames := 0, cells := 0, slots := 0, locals := 0 } : Room)) (fun aX UX => aX = #[(.ref r0)] ∧ Z.Warmed39 UX.vm ∧ UX.heap = h0) (fun _ _ _ _ _ => True) (fun _ UX oX UX' => ∃ vX LX, oX = .returned vX ∧ Q10 Z  h0 n0 vX UX'.heap LX ∧ FrameEnd UX oX UX' LX ({ frames := 0, cells := 0, slots := 0, locals := 0 } : Room).cells ({ frames := 0, cells := 0, slots := 0, locals := 0 } : Room).slots) := by
  refine MetFree.of_bodySF (plainFor_of_name pn_java_lang_String) hisR ?_
  intro p e s m args below meth c s₁ Bd hml0 hP hK
  obtain ⟨rfl, hZ, hh⟩ := hP
  have hx := Bd.exec
  have hby := Bd.bytes
  have hml : c.maxLocals = 1 := hml0
  have hown : s.vm.findClass "java/lang/String" = some m.cls := findClass_of_methodNamed Bd.named
  have hnm := (name_of_methodNamed Bd.named Bd.method).1
  have X0 : Stand p l e ({ frames := 0, cells := 0, slots := 0, locals := 0 } : Room) s m #[(.ref r0)] below meth c s₁ [] 0 0 := Stand.of_body Bd
  have e0 : s₁.heap = h0 := by rw [← hh, Bd.state]; rfl
  have N0 := Fr.nil n0
  show own_Comes p e below s ({ frames := 0, cells := 0, slots := 0, locals := 0 } : Room).cells ({ frames := 0, cells := 0, slots := 0, locals := 0 } : Room).slots (Q10 Z  h0 n0) _
  rw [show entryFrame m #[(.ref r0)] 1 = mkF m 0 #[.val (.ref r0)] [] from ef_rm10 m r0]
  show own_Comes p e below s _ _ _ (s₁.setTop (mkF m 0 #[.val (.ref r0)] []))
  obtain ⟨Es, t, kb, nn, vs, Fv, Vb, hnz⟩ := S0
  refine own_by (fun _ kS => XS.aloadN X0.here hx rfl (hb hby d10_0) rfl rfl kS) ?_
  show own_Comes p e below s _ _ _ (s₁.setTop (mkF m 1 #[.val (.ref r0)] [(.ref r0)]))
  obtain ⟨T13, X13, e13, st13⟩ := getF X0 hx hZ hown (host := "") (Or.inl (hw _ (List.mem_of_getElem? (i := 32) rfl))) Via.refl e0 Fv (g := (mkF m 1 #[.val (.ref r0)] [(.ref r0)])) rfl rfl (hb hby d10_1)
  refine own_by st13 ?_
  show own_Comes p e below s _ _ _ (T13.setTop (mkF m 4 #[.val (.ref r0)] [(.ref t)]))
  have Vo14 := Vb
  obtain ⟨cl14, Ar14, qA14, SA14, NA14, HA14, GA14⟩ := Vo14
  refine own_by (fun _ kS => X13.arraylength hx (by rw [e13]; exact Ar14.1) (State.isArrayOf_alike hZ.alike Ar14.2.1) (g := (mkF m 4 #[.val (.ref r0)] [(.ref t)])) rfl rfl (hb hby d10_4) _ kS) ?_
  rw [len_of SA14 NA14]
  show own_Comes p e below s _ _ _ (T13.setTop (mkF m 5 #[.val (.ref r0)] [(.int nn)]))
  refine own_by (fun _ kS => XS.ifYes X13.here hx rfl (pc0 := 5) (pc' := 12) rfl (hb hby d10_5) rfl ((if0 _ _).trans (feq hnz).2) (by decide) (by decide) kS) ?_
  show own_Comes p e below s _ _ _ (T13.setTop (mkF m 12 #[.val (.ref r0)] []))
  refine own_by (fun _ kS => XS.iconst X13.here hx rfl (hb hby d10_12) kS) ?_
  show own_Comes p e below s _ _ _ (T13.setTop (mkF m 13 #[.val (.ref r0)] [(.int (0 : Int32))]))
  refine own_ret X13 (v := some (.int (0 : Int32))) (fun h => by rw [Bd.returns] at h; cases h) Bd.notSynchronized (by decide) (by decide) ?_ (fun fs hr => retN X13 hx (t := .boolean) Bd.returns (by simp) (hb hby d10_13) hr)
  rw [e13]; exact ⟨rfl, N0, rfl⟩
def Q9 (Z : State) (r1 : Addr) (h0 : Heap) (n0 : Nat) (v : Option Value) (h : Heap) (L : List Loc) : Prop := v = some (.ref r1) ∧ Fr n0 L ∧ h = h0
theorem ef_rm9 (m : MethodId) (x0 : Addr) (x1 : Addr) : entryFrame m #[(.ref x0), (.ref x1)] 2 = mkF m 0 #[.val (.ref x0), .val (.ref x1)] [] := by first | (simp [entryFrame, mkF, argsToLocals, Value.category]; done) | rfl
theorem pn_com_example_valve_per_tenant_valvepertenant_store_BucketKey : plainName "com/example/valve_per_tenant/valvepertenant/store/BucketKey" = true := by first | (simp [plainName, overriddenIn]; done) | decide +kernel
theorem d9_0 : decode prog_25_method_16_code 0 = .ok (.aload_n 1, 1) := by decide +kernel
theorem d9_1 : decode prog_25_method_16_code 1 = .ok (.ifnull 10, 3) := by decide +kernel
theorem d9_4 : decode prog_25_method_16_code 4 = .ok (.aload_n 1, 1) := by decide +kernel
theorem pd___Z_171 : parseMethodDescriptor "()Z" = some ⟨[], some .boolean⟩ := by decide +kernel
theorem d9_5 : decode prog_25_method_16_code 5 = .ok (.invokevirtual 80, 3) := by decide +kernel
theorem d9_8 : decode prog_25_method_16_code 8 = .ok (.ifCond .eq 17, 3) := by decide +kernel
theorem d9_25 : decode prog_25_method_16_code 25 = .ok (.aload_n 1, 1) := by decide +kernel
theorem d9_26 : decode prog_25_method_16_code 26 = .ok (.areturn, 1) := by decide +kernel
set_option maxRecDepth 65536 in
set_option maxHeartbeats 40000000 in
theorem rm9 (l : Launch) (Z : State) (a0 : Array Value) (hw : ∀ d ∈ tables_1, d.before a0 Z = true) (ws : List Jvm.Cond) (r0 r1 : Addr) (h0 : Heap) (n0 : Nat) (Z0 : n0 ≤ h0.size) (S0 : own_S Z h0 r1) :
    MetFree l (⟨"com/example/valve_per_tenant/valvepertenant/store/BucketKey", "requireName", "(Ljava/lang/String;Ljava/lang/String;)Ljava/lang/String;"⟩ : MethodName) (head1 (Jvm.Cond.code (⟨"com/example/valve_per_tenant/valvepertenant/store/BucketKey", "requireName", "(Ljava/lang/String;Ljava/lang/String;)Ljava/lang/String;"⟩ : MethodName) prog_25_method_16_code 2 (some (.object "java/lang/String")) :: ws) ({ frames := 1, cells := 0, slots := 0, locals := 12 } : Room)) (fun aX UX => aX = #[(.ref r0), (.ref r1)] ∧ Z.Warmed39 UX.vm ∧ UX.heap = h0) (fun _ _ _ _ _ => True) (fun _ UX oX UX' => ∃ vX LX, oX = .returned vX ∧ Q9 Z r1 h0 n0 vX UX'.heap LX ∧ FrameEnd UX oX UX' LX ({ frames := 1, cells := 0, slots := 0, locals := 12 } : Room).cells ({ frames := 1, cells := 0, slots := 0, locals := 12 } : Room).slots) := by
  refine MetFree.of_bodySF (plainFor_of_name pn_com_example_valve_per_tenant_valvepertenant_store_BucketKey) hisR ?_
  intro p e s m args below meth c s₁ Bd hml0 hP hK
  obtain ⟨rfl, hZ, hh⟩ := hP
  have hx := Bd.exec
  have hby := Bd.bytes
  have hml : c.maxLocals = 2 := hml0
  have hown : s.vm.findClass "com/example/valve_per_tenant/valvepertenant/store/BucketKey" = some m.cls := findClass_of_methodNamed Bd.named
  have hnm := (name_of_methodNamed Bd.named Bd.method).1
  have X0 : Stand p l e ({ frames := 1, cells := 0, slots := 0, locals := 12 } : Room) s m #[(.ref r0), (.ref r1)] below meth c s₁ [] 0 0 := Stand.of_body Bd
  have e0 : s₁.heap = h0 := by rw [← hh, Bd.state]; rfl
  have N0 := Fr.nil n0
  show own_Comes p e below s ({ frames := 1, cells := 0, slots := 0, locals := 12 } : Room).cells ({ frames := 1, cells := 0, slots := 0, locals := 12 } : Room).slots (Q9 Z r1 h0 n0) _
  rw [show entryFrame m #[(.ref r0), (.ref r1)] 2 = mkF m 0 #[.val (.ref r0), .val (.ref r1)] [] from ef_rm9 m r0 r1]
  show own_Comes p e below s _ _ _ (s₁.setTop (mkF m 0 #[.val (.ref r0), .val (.ref r1)] []))
  refine own_by (fun _ kS => XS.aloadN X0.here hx rfl (hb hby d9_0) rfl rfl kS) ?_
  show own_Comes p e below s _ _ _ (s₁.setTop (mkF m 1 #[.val (.ref r0), .val (.ref r1)] [(.ref r1)]))
  refine own_by (fun _ kS => XS.ifnullNo X0.here hx rfl (hb hby d9_1) rfl kS) ?_
  show own_Comes p e below s _ _ _ (s₁.setTop (mkF m 4 #[.val (.ref r0), .val (.ref r1)] []))
  refine own_by (fun _ kS => XS.aloadN X0.here hx rfl (hb hby d9_4) rfl rfl kS) ?_
  show own_Comes p e below s _ _ _ (s₁.setTop (mkF m 5 #[.val (.ref r0), .val (.ref r1)] [(.ref r1)]))
  obtain ⟨cq15, kq15, q15a, q15b, q15c⟩ := isOf hZ e0 S0.1
  obtain ⟨_, _, ⟨T15, L15, k15, n15⟩, -, X15, ⟨Lc15, hQ15, l15, y15, z15⟩, st15⟩ := X0.virtualBack hx (y := (⟨"java/lang/String", "isEmpty", "()Z"⟩ : MethodName)) (z := (⟨"java/lang/String", "isEmpty", "()Z"⟩ : MethodName)) hown (mvT hZ (hw _ (List.mem_of_getElem? (i := 49) rfl))) (mvT hZ (hw _ (List.mem_of_getElem? (i := 50) rfl))) (notFace_of_selects (args := #[]) (mvT hZ (hw _ (List.mem_of_getElem? (i := 52) rfl)))) (mvT hZ (hw _ (List.mem_of_getElem? (i := 52) rfl))) (mvT hZ (hw _ (List.mem_of_getElem? (i := 51) rfl))) (by decide) (backOf (W := 0) (rm10 l Z a0 hw [] r1 h0 n0 Z0 S0) hZ (hw _ (List.mem_of_getElem? (i := 53) rfl)) (hw _ (List.mem_of_getElem? (i := 7) rfl)) (by decide) (by decide)) q15a q15c (g := (mkF m 5 #[.val (.ref r0), .val (.ref r1)] [(.ref r1)])) rfl (by rw [hml]; rfl) (Steps.refl _) (argsL := []) (rest := []) (lenOf pd___Z_171 rfl) rfl (by show 2 * 0 + _ ≤ _; exact Nat.le_of_eq rfl) (hb hby d9_5) (fun _ _ => ⟨rfl, e0, (by decide : 0 + 0 ≤ _), (by decide : 0 + 0 ≤ _)⟩)
  dsimp only [Pt.U, Pt.locs, Pt.cells, Pt.slots] at X15 l15 y15 z15 st15 hQ15
  subst l15 y15 z15
  obtain ⟨rfl, N15q, e15q⟩ := hQ15
  have N15 := Fr.app N0 N15q
  refine own_tr st15 ?_
  have e15 : T15.heap = h0 := e15q
  show own_Comes p e below s _ _ _ (T15.setTop (mkF m 8 #[.val (.ref r0), .val (.ref r1)] [(.int (0 : Int32))]))
  have hb16 : (0 : Int32) = (0 : Int32) := by decide
  refine own_by (fun _ kS => XS.ifYes X15.here hx rfl (pc0 := 8) (pc' := 25) rfl (hb hby d9_8) rfl ((if0 _ _).trans (teq hb16).1) (by decide) (by decide) kS) ?_
  show own_Comes p e below s _ _ _ (T15.setTop (mkF m 25 #[.val (.ref r0), .val (.ref r1)] []))
  refine own_by (fun _ kS => XS.aloadN X15.here hx rfl (hb hby d9_25) rfl rfl kS) ?_
  show own_Comes p e below s _ _ _ (T15.setTop (mkF m 26 #[.val (.ref r0), .val (.ref r1)] [(.ref r1)]))
  refine own_ret X15 (v := some (.ref r1)) (fun h => by rw [Bd.returns] at h; cases h) Bd.notSynchronized (by decide) (by decide) ?_ (fun fs hr => own_reta X15 hx Bd.returns rfl rfl (hb hby d9_26) hr)
  rw [e15]; exact ⟨rfl, N15, rfl⟩
def own_B (Z : State) (h : Heap) (x : Addr) (k t u e : Value) : Prop :=
  Exa Z h x "com/example/valve_per_tenant/valvepertenant/store/BucketKey" ∧ Fld Z h x "com/example/valve_per_tenant/valvepertenant/store/BucketKey" "scope" "Lcom/example/valve_per_tenant/valvepertenant/model/Scope;" k ∧ Fld Z h x "com/example/valve_per_tenant/valvepertenant/store/BucketKey" "tenant" "Ljava/lang/String;" t ∧ Fld Z h x "com/example/valve_per_tenant/valvepertenant/store/BucketKey" "user" "Ljava/lang/String;" u ∧ Fld Z h x "com/example/valve_per_tenant/valvepertenant/store/BucketKey" "address" "Ljava/lang/String;" .null ∧ Fld Z h x "com/example/valve_per_tenant/valvepertenant/store/BucketKey" "endpoint" "Ljava/lang/String;" e
def Q11nn (Z : State) (r0 r1 r2 : Addr) (h0 : Heap) (n0 : Nat) (v : Option Value) (h : Heap) (L : List Loc) : Prop := v = none ∧ Fr n0 L ∧ Keep h0 h [r0] ∧ own_B Z h r0 (.ref r1) (.ref r2) .null .null
theorem ef_rm11nn (m : MethodId) (x0 : Addr) (x1 : Addr) (x2 : Addr) : entryFrame m #[(.ref x0), (.ref x1), (.ref x2), .null, .null, .null] 6 = mkF m 0 #[.val (.ref x0), .val (.ref x1), .val (.ref x2), .val .null, .val .null, .val .null] [] := by first | (simp [entryFrame, mkF, argsToLocals, Value.category]; done) | rfl
theorem d11_0 : decode prog_25_method_1_code 0 = .ok (.aload_n 0, 1) := by decide +kernel
theorem d11_1 : decode prog_25_method_1_code 1 = .ok (.invokespecial 1, 3) := by decide +kernel
theorem d11_4 : decode prog_25_method_1_code 4 = .ok (.aload_n 0, 1) := by decide +kernel
theorem d11_5 : decode prog_25_method_1_code 5 = .ok (.aload_n 1, 1) := by decide +kernel
theorem d11_6 : decode prog_25_method_1_code 6 = .ok (.putfield 7, 3) := by decide +kernel
theorem d11_9 : decode prog_25_method_1_code 9 = .ok (.aload_n 0, 1) := by decide +kernel
theorem d11_10 : decode prog_25_method_1_code 10 = .ok (.aload_n 2, 1) := by decide +kernel
theorem d11_11 : decode prog_25_method_1_code 11 = .ok (.putfield 13, 3) := by decide +kernel
theorem d11_14 : decode prog_25_method_1_code 14 = .ok (.aload_n 0, 1) := by decide +kernel
theorem d11_15 : decode prog_25_method_1_code 15 = .ok (.aload_n 3, 1) := by decide +kernel
theorem d11_16 : decode prog_25_method_1_code 16 = .ok (.putfield 17, 3) := by decide +kernel
theorem d11_19 : decode prog_25_method_1_code 19 = .ok (.aload_n 0, 1) := by decide +kernel
theorem d11_20 : decode prog_25_method_1_code 20 = .ok (.aload 4, 2) := by decide +kernel
theorem d11_22 : decode prog_25_method_1_code 22 = .ok (.putfield 20, 3) := by decide +kernel
theorem d11_25 : decode prog_25_method_1_code 25 = .ok (.aload_n 0, 1) := by decide +kernel
theorem d11_26 : decode prog_25_method_1_code 26 = .ok (.aload 5, 2) := by decide +kernel
theorem d11_28 : decode prog_25_method_1_code 28 = .ok (.putfield 23, 3) := by decide +kernel
theorem d11_31 : decode prog_25_method_1_code 31 = .ok (.return_, 1) := by decide +kernel
set_option maxRecDepth 65536 in
set_option maxHeartbeats 40000000 in
theorem rm11nn (l : Launch) (Z : State) (a0 : Array Value) (hw : ∀ d ∈ tables_1, d.before a0 Z = true) (ws : List Jvm.Cond) (r0 r1 r2 : Addr) (h0 : Heap) (n0 : Nat) (Z0 : n0 ≤ h0.size) (Et : Exa Z h0 r0 "com/example/valve_per_tenant/valvepertenant/store/BucketKey") (G_scope : Fld Z h0 r0 "com/example/valve_per_tenant/valvepertenant/store/BucketKey" "scope" "Lcom/example/valve_per_tenant/valvepertenant/model/Scope;" .null) (G_tenant : Fld Z h0 r0 "com/example/valve_per_tenant/valvepertenant/store/BucketKey" "tenant" "Ljava/lang/String;" .null) (G_user : Fld Z h0 r0 "com/example/valve_per_tenant/valvepertenant/store/BucketKey" "user" "Ljava/lang/String;" .null) (G_address : Fld Z h0 r0 "com/example/valve_per_tenant/valvepertenant/store/BucketKey" "address" "Ljava/lang/String;" .null) (G_endpoint : Fld Z h0 r0 "com/example/valve_per_tenant/valvepertenant/store/BucketKey" "endpoint" "Ljava/lang/String;" .null) (g_r0 : n0 ≤ r0) :
    MetFree l (⟨"com/example/valve_per_tenant/valvepertenant/store/BucketKey", "<init>", "(Lcom/example/valve_per_tenant/valvepertenant/model/Scope;Ljava/lang/String;Ljava/lang/String;Ljava/lang/String;Ljava/lang/String;)V"⟩ : MethodName) (head1 (Jvm.Cond.code (⟨"com/example/valve_per_tenant/valvepertenant/store/BucketKey", "<init>", "(Lcom/example/valve_per_tenant/valvepertenant/model/Scope;Ljava/lang/String;Ljava/lang/String;Ljava/lang/String;Ljava/lang/String;)V"⟩ : MethodName) prog_25_method_1_code 6 none :: ws) ({ frames := 1, cells := 0, slots := 0, locals := 12 } : Room)) (fun aX UX => aX = #[(.ref r0), (.ref r1), (.ref r2), .null, .null, .null] ∧ Z.Warmed39 UX.vm ∧ UX.heap = h0) (fun _ _ _ _ _ => True) (fun _ UX oX UX' => ∃ vX LX, oX = .returned vX ∧ Q11nn Z r0 r1 r2 h0 n0 vX UX'.heap LX ∧ FrameEnd UX oX UX' LX ({ frames := 1, cells := 0, slots := 0, locals := 12 } : Room).cells ({ frames := 1, cells := 0, slots := 0, locals := 12 } : Room).slots) := by
  refine MetFree.of_bodySF (plainFor_of_name pn_com_example_valve_per_tenant_valvepertenant_store_BucketKey) hisR ?_
  intro p e s m args below meth c s₁ Bd hml0 hP hK
  obtain ⟨rfl, hZ, hh⟩ := hP
  have hx := Bd.exec
  have hby := Bd.bytes
  have hml : c.maxLocals = 6 := hml0
  have hown : s.vm.findClass "com/example/valve_per_tenant/valvepertenant/store/BucketKey" = some m.cls := findClass_of_methodNamed Bd.named
  have hnm := (name_of_methodNamed Bd.named Bd.method).1
  have X0 : Stand p l e ({ frames := 1, cells := 0, slots := 0, locals := 12 } : Room) s m #[(.ref r0), (.ref r1), (.ref r2), .null, .null, .null] below meth c s₁ [] 0 0 := Stand.of_body Bd
  have e0 : s₁.heap = h0 := by rw [← hh, Bd.state]; rfl
  have N0 := Fr.nil n0
  show own_Comes p e below s ({ frames := 1, cells := 0, slots := 0, locals := 12 } : Room).cells ({ frames := 1, cells := 0, slots := 0, locals := 12 } : Room).slots (Q11nn Z r0 r1 r2 h0 n0) _
  rw [show entryFrame m #[(.ref r0), (.ref r1), (.ref r2), .null, .null, .null] 6 = mkF m 0 #[.val (.ref r0), .val (.ref r1), .val (.ref r2), .val .null, .val .null, .val .null] [] from ef_rm11nn m r0 r1 r2]
  show own_Comes p e below s _ _ _ (s₁.setTop (mkF m 0 #[.val (.ref r0), .val (.ref r1), .val (.ref r2), .val .null, .val .null, .val .null] []))
  refine own_by (fun _ kS => XS.aloadN X0.here hx rfl (hb hby d11_0) rfl rfl kS) ?_
  show own_Comes p e below s _ _ _ (s₁.setTop (mkF m 1 #[.val (.ref r0), .val (.ref r1), .val (.ref r2), .val .null, .val .null, .val .null] [(.ref r0)]))
  obtain ⟨T17, X17, e17, st17⟩ := initO X0 hx hZ hown (hw _ (List.mem_of_getElem? (i := 58) rfl)) (hw _ (List.mem_of_getElem? (i := 16) rfl)) (hw _ (List.mem_of_getElem? (i := 17) rfl)) e0 (g := (mkF m 1 #[.val (.ref r0), .val (.ref r1), .val (.ref r2), .val .null, .val .null, .val .null] [(.ref r0)])) rfl (by rw [hml]; rfl) rfl (hb hby d11_1) (by decide) (W := 0) (by show 2 * 0 + _ ≤ _; exact Nat.le_of_eq rfl) (by decide)
  refine own_by st17 ?_
  show own_Comes p e below s _ _ _ (T17.setTop (mkF m 4 #[.val (.ref r0), .val (.ref r1), .val (.ref r2), .val .null, .val .null, .val .null] []))
  refine own_by (fun _ kS => XS.aloadN X17.here hx rfl (hb hby d11_4) rfl rfl kS) ?_
  show own_Comes p e below s _ _ _ (T17.setTop (mkF m 5 #[.val (.ref r0), .val (.ref r1), .val (.ref r2), .val .null, .val .null, .val .null] [(.ref r0)]))
  refine own_by (fun _ kS => XS.aloadN X17.here hx rfl (hb hby d11_5) rfl rfl kS) ?_
  show own_Comes p e below s _ _ _ (T17.setTop (mkF m 6 #[.val (.ref r0), .val (.ref r1), .val (.ref r2), .val .null, .val .null, .val .null] [(.ref r1), (.ref r0)]))
  obtain ⟨T18, h18, X18, e18, W18, st18⟩ := putF X17 hx hZ hown (host := "") (Or.inl (hw _ (List.mem_of_getElem? (i := 59) rfl))) Via.refl e17 G_scope Et (Or.inr ⟨(hw _ (List.mem_of_getElem? (i := 60) rfl)), rfl, hnm⟩) (hw _ (List.mem_of_getElem? (i := 39) rfl)) (ty := (.object "com/example/valve_per_tenant/valvepertenant/model/Scope")) (by decide) rfl rfl (g := (mkF m 6 #[.val (.ref r0), .val (.ref r1), .val (.ref r2), .val .null, .val .null, .val .null] [(.ref r1), (.ref r0)])) rfl rfl (hb hby d11_6)
  refine own_by st18 ?_
  have Fw18 := G_scope.same W18
  have N18 := Fr.snoc X18 N0 g_r0
  show own_Comes p e below s _ _ _ (T18.setTop (mkF m 9 #[.val (.ref r0), .val (.ref r1), .val (.ref r2), .val .null, .val .null, .val .null] []))
  refine own_by (fun _ kS => XS.aloadN X18.here hx rfl (hb hby d11_9) rfl rfl kS) ?_
  show own_Comes p e below s _ _ _ (T18.setTop (mkF m 10 #[.val (.ref r0), .val (.ref r1), .val (.ref r2), .val .null, .val .null, .val .null] [(.ref r0)]))
  refine own_by (fun _ kS => XS.aloadN X18.here hx rfl (hb hby d11_10) rfl rfl kS) ?_
  show own_Comes p e below s _ _ _ (T18.setTop (mkF m 11 #[.val (.ref r0), .val (.ref r1), .val (.ref r2), .val .null, .val .null, .val .null] [(.ref r2), (.ref r0)]))
  have c19 := (G_tenant.other W18 (Or.inr (slot_ne (Or.inr (hw _ (List.mem_of_getElem? (i := 62) rfl))) (Or.inr (hw _ (List.mem_of_getElem? (i := 60) rfl))) (by decide) (t := (.object "java/lang/String")) (t' := (.object "com/example/valve_per_tenant/valvepertenant/model/Scope")) (by decide) (by decide))))
  obtain ⟨T20, h20, X20, e20, W20, st20⟩ := putF X18 hx hZ hown (host := "") (Or.inl (hw _ (List.mem_of_getElem? (i := 61) rfl))) Via.refl e18 c19 (Et.wr W18) (Or.inr ⟨(hw _ (List.mem_of_getElem? (i := 62) rfl)), rfl, hnm⟩) (hw _ (List.mem_of_getElem? (i := 39) rfl)) (ty := (.object "java/lang/String")) (by decide) rfl rfl (g := (mkF m 11 #[.val (.ref r0), .val (.ref r1), .val (.ref r2), .val .null, .val .null, .val .null] [(.ref r2), (.ref r0)])) rfl rfl (hb hby d11_11)
  refine own_by st20 ?_
  have Fw20 := c19.same W20
  have N20 := Fr.snoc X20 N18 g_r0
  show own_Comes p e below s _ _ _ (T20.setTop (mkF m 14 #[.val (.ref r0), .val (.ref r1), .val (.ref r2), .val .null, .val .null, .val .null] []))
  refine own_by (fun _ kS => XS.aloadN X20.here hx rfl (hb hby d11_14) rfl rfl kS) ?_
  show own_Comes p e below s _ _ _ (T20.setTop (mkF m 15 #[.val (.ref r0), .val (.ref r1), .val (.ref r2), .val .null, .val .null, .val .null] [(.ref r0)]))
  refine own_by (fun _ kS => XS.aloadN X20.here hx rfl (hb hby d11_15) rfl rfl kS) ?_
  show own_Comes p e below s _ _ _ (T20.setTop (mkF m 16 #[.val (.ref r0), .val (.ref r1), .val (.ref r2), .val .null, .val .null, .val .null] [.null, (.ref r0)]))
  have c21 := ((G_user.other W18 (Or.inr (slot_ne (Or.inr (hw _ (List.mem_of_getElem? (i := 64) rfl))) (Or.inr (hw _ (List.mem_of_getElem? (i := 60) rfl))) (by decide) (t := (.object "java/lang/String")) (t' := (.object "com/example/valve_per_tenant/valvepertenant/model/Scope")) (by decide) (by decide)))).other W20 (Or.inr (slot_ne (Or.inr (hw _ (List.mem_of_getElem? (i := 64) rfl))) (Or.inr (hw _ (List.mem_of_getElem? (i := 62) rfl))) (by decide) (t := (.object "java/lang/String")) (t' := (.object "java/lang/String")) (by decide) (by decide))))
  obtain ⟨T22, h22, X22, e22, W22, st22⟩ := putF X20 hx hZ hown (host := "") (Or.inl (hw _ (List.mem_of_getElem? (i := 63) rfl))) Via.refl e20 c21 ((Et.wr W18).wr W20) (Or.inr ⟨(hw _ (List.mem_of_getElem? (i := 64) rfl)), rfl, hnm⟩) (hw _ (List.mem_of_getElem? (i := 39) rfl)) (ty := (.object "java/lang/String")) (by decide) rfl rfl (g := (mkF m 16 #[.val (.ref r0), .val (.ref r1), .val (.ref r2), .val .null, .val .null, .val .null] [.null, (.ref r0)])) rfl rfl (hb hby d11_16)
  refine own_by st22 ?_
  have Fw22 := c21.same W22
  have N22 := Fr.snoc X22 N20 g_r0
  show own_Comes p e below s _ _ _ (T22.setTop (mkF m 19 #[.val (.ref r0), .val (.ref r1), .val (.ref r2), .val .null, .val .null, .val .null] []))
  refine own_by (fun _ kS => XS.aloadN X22.here hx rfl (hb hby d11_19) rfl rfl kS) ?_
  show own_Comes p e below s _ _ _ (T22.setTop (mkF m 20 #[.val (.ref r0), .val (.ref r1), .val (.ref r2), .val .null, .val .null, .val .null] [(.ref r0)]))
  refine own_by (fun _ kS => XS.aload X22.here hx rfl (hb hby d11_20) rfl rfl kS) ?_
  show own_Comes p e below s _ _ _ (T22.setTop (mkF m 22 #[.val (.ref r0), .val (.ref r1), .val (.ref r2), .val .null, .val .null, .val .null] [.null, (.ref r0)]))
  have c23 := (((G_address.other W18 (Or.inr (slot_ne (Or.inr (hw _ (List.mem_of_getElem? (i := 66) rfl))) (Or.inr (hw _ (List.mem_of_getElem? (i := 60) rfl))) (by decide) (t := (.object "java/lang/String")) (t' := (.object "com/example/valve_per_tenant/valvepertenant/model/Scope")) (by decide) (by decide)))).other W20 (Or.inr (slot_ne (Or.inr (hw _ (List.mem_of_getElem? (i := 66) rfl))) (Or.inr (hw _ (List.mem_of_getElem? (i := 62) rfl))) (by decide) (t := (.object "java/lang/String")) (t' := (.object "java/lang/String")) (by decide) (by decide)))).other W22 (Or.inr (slot_ne (Or.inr (hw _ (List.mem_of_getElem? (i := 66) rfl))) (Or.inr (hw _ (List.mem_of_getElem? (i := 64) rfl))) (by decide) (t := (.object "java/lang/String")) (t' := (.object "java/lang/String")) (by decide) (by decide))))
  obtain ⟨T24, h24, X24, e24, W24, st24⟩ := putF X22 hx hZ hown (host := "") (Or.inl (hw _ (List.mem_of_getElem? (i := 65) rfl))) Via.refl e22 c23 (((Et.wr W18).wr W20).wr W22) (Or.inr ⟨(hw _ (List.mem_of_getElem? (i := 66) rfl)), rfl, hnm⟩) (hw _ (List.mem_of_getElem? (i := 39) rfl)) (ty := (.object "java/lang/String")) (by decide) rfl rfl (g := (mkF m 22 #[.val (.ref r0), .val (.ref r1), .val (.ref r2), .val .null, .val .null, .val .null] [.null, (.ref r0)])) rfl rfl (hb hby d11_22)
  refine own_by st24 ?_
  have Fw24 := c23.same W24
  have N24 := Fr.snoc X24 N22 g_r0
  show own_Comes p e below s _ _ _ (T24.setTop (mkF m 25 #[.val (.ref r0), .val (.ref r1), .val (.ref r2), .val .null, .val .null, .val .null] []))
  refine own_by (fun _ kS => XS.aloadN X24.here hx rfl (hb hby d11_25) rfl rfl kS) ?_
  show own_Comes p e below s _ _ _ (T24.setTop (mkF m 26 #[.val (.ref r0), .val (.ref r1), .val (.ref r2), .val .null, .val .null, .val .null] [(.ref r0)]))
  refine own_by (fun _ kS => XS.aload X24.here hx rfl (hb hby d11_26) rfl rfl kS) ?_
  show own_Comes p e below s _ _ _ (T24.setTop (mkF m 28 #[.val (.ref r0), .val (.ref r1), .val (.ref r2), .val .null, .val .null, .val .null] [.null, (.ref r0)]))
  have c25 := ((((G_endpoint.other W18 (Or.inr (slot_ne (Or.inr (hw _ (List.mem_of_getElem? (i := 68) rfl))) (Or.inr (hw _ (List.mem_of_getElem? (i := 60) rfl))) (by decide) (t := (.object "java/lang/String")) (t' := (.object "com/example/valve_per_tenant/valvepertenant/model/Scope")) (by decide) (by decide)))).other W20 (Or.inr (slot_ne (Or.inr (hw _ (List.mem_of_getElem? (i := 68) rfl))) (Or.inr (hw _ (List.mem_of_getElem? (i := 62) rfl))) (by decide) (t := (.object "java/lang/String")) (t' := (.object "java/lang/String")) (by decide) (by decide)))).other W22 (Or.inr (slot_ne (Or.inr (hw _ (List.mem_of_getElem? (i := 68) rfl))) (Or.inr (hw _ (List.mem_of_getElem? (i := 64) rfl))) (by decide) (t := (.object "java/lang/String")) (t' := (.object "java/lang/String")) (by decide) (by decide)))).other W24 (Or.inr (slot_ne (Or.inr (hw _ (List.mem_of_getElem? (i := 68) rfl))) (Or.inr (hw _ (List.mem_of_getElem? (i := 66) rfl))) (by decide) (t := (.object "java/lang/String")) (t' := (.object "java/lang/String")) (by decide) (by decide))))
  obtain ⟨T26, h26, X26, e26, W26, st26⟩ := putF X24 hx hZ hown (host := "") (Or.inl (hw _ (List.mem_of_getElem? (i := 67) rfl))) Via.refl e24 c25 ((((Et.wr W18).wr W20).wr W22).wr W24) (Or.inr ⟨(hw _ (List.mem_of_getElem? (i := 68) rfl)), rfl, hnm⟩) (hw _ (List.mem_of_getElem? (i := 39) rfl)) (ty := (.object "java/lang/String")) (by decide) rfl rfl (g := (mkF m 28 #[.val (.ref r0), .val (.ref r1), .val (.ref r2), .val .null, .val .null, .val .null] [.null, (.ref r0)])) rfl rfl (hb hby d11_28)
  refine own_by st26 ?_
  have Fw26 := c25.same W26
  have N26 := Fr.snoc X26 N24 g_r0
  show own_Comes p e below s _ _ _ (T26.setTop (mkF m 31 #[.val (.ref r0), .val (.ref r1), .val (.ref r2), .val .null, .val .null, .val .null] []))
  have c27 := ((((Fw18.other W20 (Or.inr (slot_ne (Or.inr (hw _ (List.mem_of_getElem? (i := 60) rfl))) (Or.inr (hw _ (List.mem_of_getElem? (i := 62) rfl))) (by decide) (t := (.object "com/example/valve_per_tenant/valvepertenant/model/Scope")) (t' := (.object "java/lang/String")) (by decide) (by decide)))).other W22 (Or.inr (slot_ne (Or.inr (hw _ (List.mem_of_getElem? (i := 60) rfl))) (Or.inr (hw _ (List.mem_of_getElem? (i := 64) rfl))) (by decide) (t := (.object "com/example/valve_per_tenant/valvepertenant/model/Scope")) (t' := (.object "java/lang/String")) (by decide) (by decide)))).other W24 (Or.inr (slot_ne (Or.inr (hw _ (List.mem_of_getElem? (i := 60) rfl))) (Or.inr (hw _ (List.mem_of_getElem? (i := 66) rfl))) (by decide) (t := (.object "com/example/valve_per_tenant/valvepertenant/model/Scope")) (t' := (.object "java/lang/String")) (by decide) (by decide)))).other W26 (Or.inr (slot_ne (Or.inr (hw _ (List.mem_of_getElem? (i := 60) rfl))) (Or.inr (hw _ (List.mem_of_getElem? (i := 68) rfl))) (by decide) (t := (.object "com/example/valve_per_tenant/valvepertenant/model/Scope")) (t' := (.object "java/lang/String")) (by decide) (by decide))))
  have c28 := (((Fw20.other W22 (Or.inr (slot_ne (Or.inr (hw _ (List.mem_of_getElem? (i := 62) rfl))) (Or.inr (hw _ (List.mem_of_getElem? (i := 64) rfl))) (by decide) (t := (.object "java/lang/String")) (t' := (.object "java/lang/String")) (by decide) (by decide)))).other W24 (Or.inr (slot_ne (Or.inr (hw _ (List.mem_of_getElem? (i := 62) rfl))) (Or.inr (hw _ (List.mem_of_getElem? (i := 66) rfl))) (by decide) (t := (.object "java/lang/String")) (t' := (.object "java/lang/String")) (by decide) (by decide)))).other W26 (Or.inr (slot_ne (Or.inr (hw _ (List.mem_of_getElem? (i := 62) rfl))) (Or.inr (hw _ (List.mem_of_getElem? (i := 68) rfl))) (by decide) (t := (.object "java/lang/String")) (t' := (.object "java/lang/String")) (by decide) (by decide))))
  have c29 := ((Fw22.other W24 (Or.inr (slot_ne (Or.inr (hw _ (List.mem_of_getElem? (i := 64) rfl))) (Or.inr (hw _ (List.mem_of_getElem? (i := 66) rfl))) (by decide) (t := (.object "java/lang/String")) (t' := (.object "java/lang/String")) (by decide) (by decide)))).other W26 (Or.inr (slot_ne (Or.inr (hw _ (List.mem_of_getElem? (i := 64) rfl))) (Or.inr (hw _ (List.mem_of_getElem? (i := 68) rfl))) (by decide) (t := (.object "java/lang/String")) (t' := (.object "java/lang/String")) (by decide) (by decide))))
  have c30 := (Fw24.other W26 (Or.inr (slot_ne (Or.inr (hw _ (List.mem_of_getElem? (i := 66) rfl))) (Or.inr (hw _ (List.mem_of_getElem? (i := 68) rfl))) (by decide) (t := (.object "java/lang/String")) (t' := (.object "java/lang/String")) (by decide) (by decide))))
  refine own_ret X26 (v := none) (fun _ => rfl) Bd.notSynchronized (by decide) (by decide) ?_ (fun fs hr => X26.returnOut hx Bd.returns (hb hby d11_31) hr)
  rw [e26]; exact ⟨rfl, N26, ((((((Keep.refl _ _).wr W18 (Or.inl (List.mem_of_getElem? (i := 0) rfl))).wr W20 (Or.inl (List.mem_of_getElem? (i := 0) rfl))).wr W22 (Or.inl (List.mem_of_getElem? (i := 0) rfl))).wr W24 (Or.inl (List.mem_of_getElem? (i := 0) rfl))).wr W26 (Or.inl (List.mem_of_getElem? (i := 0) rfl))), (((((Et.wr W18).wr W20).wr W22).wr W24).wr W26), c27, c28, c29, c30, Fw26⟩
def Q8nn (Z : State) (sc r0 : Addr) (h0 : Heap) (n0 : Nat) (v : Option Value) (h : Heap) (L : List Loc) : Prop := ∃ a : Addr, v = some (.ref a) ∧ Fr n0 L ∧ Ext h0 h ∧ own_B Z h a (.ref sc) (.ref r0) .null .null
theorem ef_rm8nn (m : MethodId) (x0 : Addr) : entryFrame m #[(.ref x0), .null, .null] 3 = mkF m 0 #[.val (.ref x0), .val .null, .val .null] [] := by first | (simp [entryFrame, mkF, argsToLocals, Value.category]; done) | rfl
theorem d8_0 : decode prog_25_method_7_code 0 = .ok (.new 8, 3) := by decide +kernel
theorem d8_3 : decode prog_25_method_7_code 3 = .ok (.dup, 1) := by decide +kernel
theorem d8_4 : decode prog_25_method_7_code 4 = .ok (.getstatic 55, 3) := by decide +kernel
theorem d8_7 : decode prog_25_method_7_code 7 = .ok (.ldc 31, 2) := by decide +kernel
theorem d8_9 : decode prog_25_method_7_code 9 = .ok (.aload_n 0, 1) := by decide +kernel
theorem pd__Ljava_lang_String_Ljava_lang_String__Ljava_lang_String__184 : parseMethodDescriptor "(Ljava/lang/String;Ljava/lang/String;)Ljava/lang/String;" = some ⟨[(.object "java/lang/String"), (.object "java/lang/String")], some (.object "java/lang/String")⟩ := by decide +kernel
theorem d8_10 : decode prog_25_method_7_code 10 = .ok (.invokestatic 32, 3) := by decide +kernel
theorem d8_13 : decode prog_25_method_7_code 13 = .ok (.aload_n 1, 1) := by decide +kernel
theorem d8_14 : decode prog_25_method_7_code 14 = .ok (.ifnonnull 7, 3) := by decide +kernel
theorem d8_17 : decode prog_25_method_7_code 17 = .ok (.aconst_null, 1) := by decide +kernel
theorem d8_18 : decode prog_25_method_7_code 18 = .ok (.goto 9, 3) := by decide +kernel
theorem d8_27 : decode prog_25_method_7_code 27 = .ok (.aconst_null, 1) := by decide +kernel
theorem d8_28 : decode prog_25_method_7_code 28 = .ok (.aload_n 2, 1) := by decide +kernel
theorem d8_29 : decode prog_25_method_7_code 29 = .ok (.ifnonnull 7, 3) := by decide +kernel
theorem d8_32 : decode prog_25_method_7_code 32 = .ok (.aconst_null, 1) := by decide +kernel
theorem d8_33 : decode prog_25_method_7_code 33 = .ok (.goto 9, 3) := by decide +kernel
theorem pd__Lcom_example_valve_per_tenant_valvepertenant_model_Scope_Ljava_lang_String_Ljava_lang_String_Ljava_lang_String_Ljava_lang_String__V_687 : parseMethodDescriptor "(Lcom/example/valve_per_tenant/valvepertenant/model/Scope;Ljava/lang/String;Ljava/lang/String;Ljava/lang/String;Ljava/lang/String;)V" = some ⟨[(.object "com/example/valve_per_tenant/valvepertenant/model/Scope"), (.object "java/lang/String"), (.object "java/lang/String"), (.object "java/lang/String"), (.object "java/lang/String")], none⟩ := by decide +kernel
theorem d8_42 : decode prog_25_method_7_code 42 = .ok (.invokespecial 37, 3) := by decide +kernel
theorem d8_45 : decode prog_25_method_7_code 45 = .ok (.areturn, 1) := by decide +kernel
set_option maxRecDepth 65536 in
set_option maxHeartbeats 40000000 in
theorem rm8nn (l : Launch) (Z : State) (a0 : Array Value) (hw : ∀ d ∈ tables_1, d.before a0 Z = true) (ws : List Jvm.Cond) (sc r0 : Addr) (h0 : Heap) (n0 : Nat) (Z0 : n0 ≤ h0.size) (O0 : Old Z n0 h0) (Sc : Sta Z Z.heap "com/example/valve_per_tenant/valvepertenant/model/Scope" "OVERRIDE" "Lcom/example/valve_per_tenant/valvepertenant/model/Scope;" (.ref sc)) (S0 : own_S Z h0 r0) :
    MetFree l (⟨"com/example/valve_per_tenant/valvepertenant/store/BucketKey", "override", "(Ljava/lang/String;Ljava/lang/String;Ljava/lang/String;)Lcom/example/valve_per_tenant/valvepertenant/store/BucketKey;"⟩ : MethodName) (head1 (Jvm.Cond.code (⟨"com/example/valve_per_tenant/valvepertenant/store/BucketKey", "override", "(Ljava/lang/String;Ljava/lang/String;Ljava/lang/String;)Lcom/example/valve_per_tenant/valvepertenant/store/BucketKey;"⟩ : MethodName) prog_25_method_7_code 3 (some (.object "com/example/valve_per_tenant/valvepertenant/store/BucketKey")) :: ws) ({ frames := 2, cells := 3, slots := 33, locals := 30 } : Room)) (fun aX UX => aX = #[(.ref r0), .null, .null] ∧ Z.Warmed39 UX.vm ∧ UX.heap = h0) (fun _ _ _ _ _ => True) (fun _ UX oX UX' => ∃ vX LX, oX = .returned vX ∧ Q8nn Z sc r0 h0 n0 vX UX'.heap LX ∧ ReturnedEndW UX oX UX' LX ({ frames := 2, cells := 3, slots := 33, locals := 30 } : Room).cells ({ frames := 2, cells := 3, slots := 33, locals := 30 } : Room).slots) := by
  refine MetFree.of_bodySF (plainFor_of_name pn_com_example_valve_per_tenant_valvepertenant_store_BucketKey) hisR ?_
  intro p e s m args below meth c s₁ Bd hml0 hP hK
  obtain ⟨rfl, hZ, hh⟩ := hP
  have hx := Bd.exec
  have hby := Bd.bytes
  have hml : c.maxLocals = 3 := hml0
  have hown : s.vm.findClass "com/example/valve_per_tenant/valvepertenant/store/BucketKey" = some m.cls := findClass_of_methodNamed Bd.named
  have hnm := (name_of_methodNamed Bd.named Bd.method).1
  have X0 : Stand p l e ({ frames := 2, cells := 3, slots := 33, locals := 30 } : Room) (s.setVm s.vm) m #[(.ref r0), .null, .null] below meth c s₁ [] 0 0 := Stand.of_body Bd
  have hS : s.Since s.vm 0 := (State.WarmedH.refl s).since 0
  have hk : 0 ≤ h0.size := Nat.zero_le _
  have hZ : Z.Warmed39 (s.setVm s.vm).vm := hZ
  have hown : (s.setVm s.vm).vm.findClass "com/example/valve_per_tenant/valvepertenant/store/BucketKey" = some m.cls := hown
  have e0 : s₁.heap = h0 := by rw [← hh, Bd.state]; rfl
  have N0 := Fr.nil n0
  show own_ComesW p e below s ({ frames := 2, cells := 3, slots := 33, locals := 30 } : Room).cells ({ frames := 2, cells := 3, slots := 33, locals := 30 } : Room).slots (Q8nn Z sc r0 h0 n0) _
  rw [show entryFrame m #[(.ref r0), .null, .null] 3 = mkF m 0 #[.val (.ref r0), .val .null, .val .null] [] from ef_rm8nn m r0]
  show own_ComesW p e below s _ _ _ (s₁.setTop (mkF m 0 #[.val (.ref r0), .val .null, .val .null] []))
  obtain ⟨T31, h31, X31, e31, E31, A31, D31, -, st31⟩ := newO X0 hx hZ hown (hw _ (List.mem_of_getElem? (i := 38) rfl)) (hw _ (List.mem_of_getElem? (i := 39) rfl)) (hw _ (List.mem_of_getElem? (i := 36) rfl)) e0 (g := (mkF m 0 #[.val (.ref r0), .val .null, .val .null] [])) rfl (hb hby d8_0) (by decide) (by decide)
  obtain ⟨b31, g31⟩ : ∃ z, z = h0.size := ⟨_, rfl⟩
  rw [← g31] at A31 D31 st31
  have g_b31 : n0 ≤ b31 := Nat.le_trans Z0 (Nat.le_of_eq g31.symm)
  refine own_byW st31 ?_
  show own_ComesW p e below s _ _ _ (T31.setTop (mkF m 3 #[.val (.ref r0), .val .null, .val .null] [(.ref b31)]))
  refine own_byW (fun _ kS => XS.dup X31.here hx rfl (hb hby d8_3) rfl rfl kS) ?_
  show own_ComesW p e below s _ _ _ (T31.setTop (mkF m 4 #[.val (.ref r0), .val .null, .val .null] [(.ref b31), (.ref b31)]))
  obtain ⟨T32, X32, e32, st32⟩ := getS2 X31 hx hZ hown (host := "") (Or.inl (hw _ (List.mem_of_getElem? (i := 40) rfl))) Via.refl e31 (Sc.ext (O0.ext E31).2) (g := (mkF m 4 #[.val (.ref r0), .val .null, .val .null] [(.ref b31), (.ref b31)])) rfl (hb hby d8_4)
  refine own_byW st32 ?_
  show own_ComesW p e below s _ _ _ (T32.setTop (mkF m 7 #[.val (.ref r0), .val .null, .val .null] [(.ref sc), (.ref b31), (.ref b31)]))
  have sz_b31 : h0.size ≤ b31 := Nat.le_trans (Keep.refl h0 []).1 (Nat.le_of_eq g31.symm)
  have wS : ∀ a ∈ Bundle.stringAtoms, a.before a0 Z = true := fun d hd => hw d ((by decide +kernel : ∀ d ∈ Bundle.stringAtoms, d ∈ tables_1) d hd)
  obtain ⟨a33, T33, h33, k33, X33, e33, E33, hS33, hk33, hZ33, hown33, st33⟩ := ldcS X32 hx hZ hown (hw _ (List.mem_of_getElem? (i := 43) rfl)) wS e32 hS (Nat.le_trans hk E31.1) (g := (mkF m 7 #[.val (.ref r0), .val .null, .val .null] [(.ref sc), (.ref b31), (.ref b31)])) rfl (hb hby d8_7) (n := 24) (by decide) (by decide) (by decide) (by decide)
  refine own_byW st33 ?_
  show own_ComesW p e below s _ _ _ (T33.setTop (mkF m 9 #[.val (.ref r0), .val .null, .val .null] [(.ref a33), (.ref sc), (.ref b31), (.ref b31)]))
  refine own_byW (fun _ kS => XS.aloadN X33.here hx rfl (hb hby d8_9) rfl rfl kS) ?_
  show own_ComesW p e below s _ _ _ (T33.setTop (mkF m 10 #[.val (.ref r0), .val .null, .val .null] [(.ref r0), (.ref a33), (.ref sc), (.ref b31), (.ref b31)]))
  obtain ⟨_, _, ⟨T34, L34, k34, n34⟩, -, X34, ⟨Lc34, hQ34, l34, y34, z34⟩, st34⟩ := Jvm.LawKit.callS X33 hx (y := (⟨"com/example/valve_per_tenant/valvepertenant/store/BucketKey", "requireName", "(Ljava/lang/String;Ljava/lang/String;)Ljava/lang/String;"⟩ : MethodName)) hown33 (mvT hZ33 (hw _ (List.mem_of_getElem? (i := 46) rfl))) (mvT hZ33 (hw _ (List.mem_of_getElem? (i := 47) rfl))) (mvT hZ33 (hw _ (List.mem_of_getElem? (i := 36) rfl))) (mvT hZ33 (hw _ (List.mem_of_getElem? (i := 48) rfl))) (by decide) (backOf (W := 3) (rm9 l Z a0 hw [] a33 r0 h33 n0 (Nat.le_trans (Nat.le_trans Z0 E31.1) E33.1) ((S0.ext E31).ext E33)) hZ33 (hw _ (List.mem_of_getElem? (i := 48) rfl)) (hw _ (List.mem_of_getElem? (i := 36) rfl)) (by decide) (by decide)) (g := (mkF m 10 #[.val (.ref r0), .val .null, .val .null] [(.ref r0), (.ref a33), (.ref sc), (.ref b31), (.ref b31)])) rfl (by rw [hml]; rfl) (argsL := [(.ref a33), (.ref r0)]) (rest := [(.ref sc), (.ref b31), (.ref b31)]) (lenOf pd__Ljava_lang_String_Ljava_lang_String__Ljava_lang_String__184 rfl) rfl (by show 2 * 0 + _ ≤ _; exact Nat.le_of_eq rfl) (hb hby d8_10) (fun _ _ => ⟨rfl, e33, (by decide : 3 + 0 ≤ _), (by decide : 33 + 0 ≤ _)⟩)
  dsimp only [Pt.U, Pt.locs, Pt.cells, Pt.slots] at X34 l34 y34 z34 st34 hQ34
  subst l34 y34 z34
  obtain ⟨rfl, N34q, e34q⟩ := hQ34
  have N34 := Fr.app N0 N34q
  refine own_byW st34 ?_
  have e34 : T34.heap = h33 := e34q
  show own_ComesW p e below s _ _ _ (T34.setTop (mkF m 13 #[.val (.ref r0), .val .null, .val .null] [(.ref r0), (.ref sc), (.ref b31), (.ref b31)]))
  refine own_byW (fun _ kS => XS.aloadN X34.here hx rfl (hb hby d8_13) rfl rfl kS) ?_
  show own_ComesW p e below s _ _ _ (T34.setTop (mkF m 14 #[.val (.ref r0), .val .null, .val .null] [.null, (.ref r0), (.ref sc), (.ref b31), (.ref b31)]))
  refine own_byW (fun _ kS => XS.ifnonnullNo X34.here hx rfl (hb hby d8_14) rfl kS) ?_
  show own_ComesW p e below s _ _ _ (T34.setTop (mkF m 17 #[.val (.ref r0), .val .null, .val .null] [(.ref r0), (.ref sc), (.ref b31), (.ref b31)]))
  refine own_byW (fun _ kS => XS.aconstNull X34.here hx rfl (hb hby d8_17) kS) ?_
  show own_ComesW p e below s _ _ _ (T34.setTop (mkF m 18 #[.val (.ref r0), .val .null, .val .null] [.null, (.ref r0), (.ref sc), (.ref b31), (.ref b31)]))
  refine own_byW (fun _ kS => XS.goto X34.here hx rfl (pc0 := 18) (pc' := 27) rfl (hb hby d8_18) (by decide) (by decide) kS) ?_
  show own_ComesW p e below s _ _ _ (T34.setTop (mkF m 27 #[.val (.ref r0), .val .null, .val .null] [.null, (.ref r0), (.ref sc), (.ref b31), (.ref b31)]))
  refine own_byW (fun _ kS => XS.aconstNull X34.here hx rfl (hb hby d8_27) kS) ?_
  show own_ComesW p e below s _ _ _ (T34.setTop (mkF m 28 #[.val (.ref r0), .val .null, .val .null] [.null, .null, (.ref r0), (.ref sc), (.ref b31), (.ref b31)]))
  refine own_byW (fun _ kS => XS.aloadN X34.here hx rfl (hb hby d8_28) rfl rfl kS) ?_
  show own_ComesW p e below s _ _ _ (T34.setTop (mkF m 29 #[.val (.ref r0), .val .null, .val .null] [.null, .null, .null, (.ref r0), (.ref sc), (.ref b31), (.ref b31)]))
  refine own_byW (fun _ kS => XS.ifnonnullNo X34.here hx rfl (hb hby d8_29) rfl kS) ?_
  show own_ComesW p e below s _ _ _ (T34.setTop (mkF m 32 #[.val (.ref r0), .val .null, .val .null] [.null, .null, (.ref r0), (.ref sc), (.ref b31), (.ref b31)]))
  refine own_byW (fun _ kS => XS.aconstNull X34.here hx rfl (hb hby d8_32) kS) ?_
  show own_ComesW p e below s _ _ _ (T34.setTop (mkF m 33 #[.val (.ref r0), .val .null, .val .null] [.null, .null, .null, (.ref r0), (.ref sc), (.ref b31), (.ref b31)]))
  refine own_byW (fun _ kS => XS.goto X34.here hx rfl (pc0 := 33) (pc' := 42) rfl (hb hby d8_33) (by decide) (by decide) kS) ?_
  show own_ComesW p e below s _ _ _ (T34.setTop (mkF m 42 #[.val (.ref r0), .val .null, .val .null] [.null, .null, .null, (.ref r0), (.ref sc), (.ref b31), (.ref b31)]))
  have c35 := ((D31 (Or.inr (hw _ (List.mem_of_getElem? (i := 60) rfl))) (ty := (.object "com/example/valve_per_tenant/valvepertenant/model/Scope")) (by decide)).ext E33)
  have c36 := ((D31 (Or.inr (hw _ (List.mem_of_getElem? (i := 62) rfl))) (ty := (.object "java/lang/String")) (by decide)).ext E33)
  have c37 := ((D31 (Or.inr (hw _ (List.mem_of_getElem? (i := 64) rfl))) (ty := (.object "java/lang/String")) (by decide)).ext E33)
  have c38 := ((D31 (Or.inr (hw _ (List.mem_of_getElem? (i := 66) rfl))) (ty := (.object "java/lang/String")) (by decide)).ext E33)
  have c39 := ((D31 (Or.inr (hw _ (List.mem_of_getElem? (i := 68) rfl))) (ty := (.object "java/lang/String")) (by decide)).ext E33)
  obtain ⟨_, _, ⟨T40, L40, k40, n40⟩, -, X40, ⟨Lc40, hQ40, l40, y40, z40⟩, st40⟩ := X34.specialBack hx (y := (⟨"com/example/valve_per_tenant/valvepertenant/store/BucketKey", "<init>", "(Lcom/example/valve_per_tenant/valvepertenant/model/Scope;Ljava/lang/String;Ljava/lang/String;Ljava/lang/String;Ljava/lang/String;)V"⟩ : MethodName)) rfl hown33 (mvT hZ33 (hw _ (List.mem_of_getElem? (i := 55) rfl))) (mvT hZ33 (hw _ (List.mem_of_getElem? (i := 56) rfl))) (mvT hZ33 (hw _ (List.mem_of_getElem? (i := 57) rfl))) (by decide) (backOf (W := 1) (rm11nn l Z a0 hw [] b31 sc r0 h33 n0 (Nat.le_trans (Nat.le_trans Z0 E31.1) E33.1) (A31.ext E33) c35 c36 c37 c38 c39 g_b31) hZ33 (hw _ (List.mem_of_getElem? (i := 57) rfl)) (hw _ (List.mem_of_getElem? (i := 36) rfl)) (by decide) (by decide)) (g := (mkF m 42 #[.val (.ref r0), .val .null, .val .null] [.null, .null, .null, (.ref r0), (.ref sc), (.ref b31), (.ref b31)])) rfl (by rw [hml]; rfl) (Steps.refl _) (a := b31) (argsL := [(.ref sc), (.ref r0), .null, .null, .null]) (rest := [(.ref b31)]) (lenOf pd__Lcom_example_valve_per_tenant_valvepertenant_model_Scope_Ljava_lang_String_Ljava_lang_String_Ljava_lang_String_Ljava_lang_String__V_687 rfl) rfl (by show 2 * 0 + _ ≤ _; exact Nat.le_of_eq rfl) (hb hby d8_42) (fun _ _ => ⟨rfl, e34, (by decide : 3 + 0 ≤ _), (by decide : 33 + 0 ≤ _)⟩)
  dsimp only [Pt.U, Pt.locs, Pt.cells, Pt.slots] at X40 l40 y40 z40 st40 hQ40
  subst l40 y40 z40
  obtain ⟨rfl, N40q, K40, B40⟩ := hQ40
  have N40 := Fr.app N34 N40q
  refine own_trW st40 ?_
  show own_ComesW p e below s _ _ _ (T40.setTop (mkF m 45 #[.val (.ref r0), .val .null, .val .null] [(.ref b31)]))
  have hkr41 := (Nat.le_trans hk33 K40.1)
  refine own_retW X40 hS33 hkr41 (v := some (.ref b31)) (fun h => by rw [Bd.returns] at h; cases h) Bd.notSynchronized (by decide) (by decide) ?_ (fun fs hr => own_reta X40 hx Bd.returns rfl rfl (hb hby d8_45) hr)
  exact ⟨_, rfl, N40, own_ext ((((Keep.refl _ _).ext E31).ext E33).trans K40 (allS (Or.inr sz_b31) all0)), B40⟩
def Q11nr (Z : State) (r0 r1 r2 r5 : Addr) (h0 : Heap) (n0 : Nat) (v : Option Value) (h : Heap) (L : List Loc) : Prop := v = none ∧ Fr n0 L ∧ Keep h0 h [r0] ∧ own_B Z h r0 (.ref r1) (.ref r2) .null (.ref r5)
theorem ef_rm11nr (m : MethodId) (x0 : Addr) (x1 : Addr) (x2 : Addr) (x5 : Addr) : entryFrame m #[(.ref x0), (.ref x1), (.ref x2), .null, .null, (.ref x5)] 6 = mkF m 0 #[.val (.ref x0), .val (.ref x1), .val (.ref x2), .val .null, .val .null, .val (.ref x5)] [] := by first | (simp [entryFrame, mkF, argsToLocals, Value.category]; done) | rfl
set_option maxRecDepth 65536 in
set_option maxHeartbeats 40000000 in
theorem rm11nr (l : Launch) (Z : State) (a0 : Array Value) (hw : ∀ d ∈ tables_1, d.before a0 Z = true) (ws : List Jvm.Cond) (r0 r1 r2 r5 : Addr) (h0 : Heap) (n0 : Nat) (Z0 : n0 ≤ h0.size) (Et : Exa Z h0 r0 "com/example/valve_per_tenant/valvepertenant/store/BucketKey") (G_scope : Fld Z h0 r0 "com/example/valve_per_tenant/valvepertenant/store/BucketKey" "scope" "Lcom/example/valve_per_tenant/valvepertenant/model/Scope;" .null) (G_tenant : Fld Z h0 r0 "com/example/valve_per_tenant/valvepertenant/store/BucketKey" "tenant" "Ljava/lang/String;" .null) (G_user : Fld Z h0 r0 "com/example/valve_per_tenant/valvepertenant/store/BucketKey" "user" "Ljava/lang/String;" .null) (G_address : Fld Z h0 r0 "com/example/valve_per_tenant/valvepertenant/store/BucketKey" "address" "Ljava/lang/String;" .null) (G_endpoint : Fld Z h0 r0 "com/example/valve_per_tenant/valvepertenant/store/BucketKey" "endpoint" "Ljava/lang/String;" .null) (g_r0 : n0 ≤ r0) :
    MetFree l (⟨"com/example/valve_per_tenant/valvepertenant/store/BucketKey", "<init>", "(Lcom/example/valve_per_tenant/valvepertenant/model/Scope;Ljava/lang/String;Ljava/lang/String;Ljava/lang/String;Ljava/lang/String;)V"⟩ : MethodName) (head1 (Jvm.Cond.code (⟨"com/example/valve_per_tenant/valvepertenant/store/BucketKey", "<init>", "(Lcom/example/valve_per_tenant/valvepertenant/model/Scope;Ljava/lang/String;Ljava/lang/String;Ljava/lang/String;Ljava/lang/String;)V"⟩ : MethodName) prog_25_method_1_code 6 none :: ws) ({ frames := 1, cells := 0, slots := 0, locals := 12 } : Room)) (fun aX UX => aX = #[(.ref r0), (.ref r1), (.ref r2), .null, .null, (.ref r5)] ∧ Z.Warmed39 UX.vm ∧ UX.heap = h0) (fun _ _ _ _ _ => True) (fun _ UX oX UX' => ∃ vX LX, oX = .returned vX ∧ Q11nr Z r0 r1 r2 r5 h0 n0 vX UX'.heap LX ∧ FrameEnd UX oX UX' LX ({ frames := 1, cells := 0, slots := 0, locals := 12 } : Room).cells ({ frames := 1, cells := 0, slots := 0, locals := 12 } : Room).slots) := by
  refine MetFree.of_bodySF (plainFor_of_name pn_com_example_valve_per_tenant_valvepertenant_store_BucketKey) hisR ?_
  intro p e s m args below meth c s₁ Bd hml0 hP hK
  obtain ⟨rfl, hZ, hh⟩ := hP
  have hx := Bd.exec
  have hby := Bd.bytes
  have hml : c.maxLocals = 6 := hml0
  have hown : s.vm.findClass "com/example/valve_per_tenant/valvepertenant/store/BucketKey" = some m.cls := findClass_of_methodNamed Bd.named
  have hnm := (name_of_methodNamed Bd.named Bd.method).1
  have X0 : Stand p l e ({ frames := 1, cells := 0, slots := 0, locals := 12 } : Room) s m #[(.ref r0), (.ref r1), (.ref r2), .null, .null, (.ref r5)] below meth c s₁ [] 0 0 := Stand.of_body Bd
  have e0 : s₁.heap = h0 := by rw [← hh, Bd.state]; rfl
  have N0 := Fr.nil n0
  show own_Comes p e below s ({ frames := 1, cells := 0, slots := 0, locals := 12 } : Room).cells ({ frames := 1, cells := 0, slots := 0, locals := 12 } : Room).slots (Q11nr Z r0 r1 r2 r5 h0 n0) _
  rw [show entryFrame m #[(.ref r0), (.ref r1), (.ref r2), .null, .null, (.ref r5)] 6 = mkF m 0 #[.val (.ref r0), .val (.ref r1), .val (.ref r2), .val .null, .val .null, .val (.ref r5)] [] from ef_rm11nr m r0 r1 r2 r5]
  show own_Comes p e below s _ _ _ (s₁.setTop (mkF m 0 #[.val (.ref r0), .val (.ref r1), .val (.ref r2), .val .null, .val .null, .val (.ref r5)] []))
  refine own_by (fun _ kS => XS.aloadN X0.here hx rfl (hb hby d11_0) rfl rfl kS) ?_
  show own_Comes p e below s _ _ _ (s₁.setTop (mkF m 1 #[.val (.ref r0), .val (.ref r1), .val (.ref r2), .val .null, .val .null, .val (.ref r5)] [(.ref r0)]))
  obtain ⟨T42, X42, e42, st42⟩ := initO X0 hx hZ hown (hw _ (List.mem_of_getElem? (i := 58) rfl)) (hw _ (List.mem_of_getElem? (i := 16) rfl)) (hw _ (List.mem_of_getElem? (i := 17) rfl)) e0 (g := (mkF m 1 #[.val (.ref r0), .val (.ref r1), .val (.ref r2), .val .null, .val .null, .val (.ref r5)] [(.ref r0)])) rfl (by rw [hml]; rfl) rfl (hb hby d11_1) (by decide) (W := 0) (by show 2 * 0 + _ ≤ _; exact Nat.le_of_eq rfl) (by decide)
  refine own_by st42 ?_
  show own_Comes p e below s _ _ _ (T42.setTop (mkF m 4 #[.val (.ref r0), .val (.ref r1), .val (.ref r2), .val .null, .val .null, .val (.ref r5)] []))
  refine own_by (fun _ kS => XS.aloadN X42.here hx rfl (hb hby d11_4) rfl rfl kS) ?_
  show own_Comes p e below s _ _ _ (T42.setTop (mkF m 5 #[.val (.ref r0), .val (.ref r1), .val (.ref r2), .val .null, .val .null, .val (.ref r5)] [(.ref r0)]))
  refine own_by (fun _ kS => XS.aloadN X42.here hx rfl (hb hby d11_5) rfl rfl kS) ?_
  show own_Comes p e below s _ _ _ (T42.setTop (mkF m 6 #[.val (.ref r0), .val (.ref r1), .val (.ref r2), .val .null, .val .null, .val (.ref r5)] [(.ref r1), (.ref r0)]))
  obtain ⟨T43, h43, X43, e43, W43, st43⟩ := putF X42 hx hZ hown (host := "") (Or.inl (hw _ (List.mem_of_getElem? (i := 59) rfl))) Via.refl e42 G_scope Et (Or.inr ⟨(hw _ (List.mem_of_getElem? (i := 60) rfl)), rfl, hnm⟩) (hw _ (List.mem_of_getElem? (i := 39) rfl)) (ty := (.object "com/example/valve_per_tenant/valvepertenant/model/Scope")) (by decide) rfl rfl (g := (mkF m 6 #[.val (.ref r0), .val (.ref r1), .val (.ref r2), .val .null, .val .null, .val (.ref r5)] [(.ref r1), (.ref r0)])) rfl rfl (hb hby d11_6)
  refine own_by st43 ?_
  have Fw43 := G_scope.same W43
  have N43 := Fr.snoc X43 N0 g_r0
  show own_Comes p e below s _ _ _ (T43.setTop (mkF m 9 #[.val (.ref r0), .val (.ref r1), .val (.ref r2), .val .null, .val .null, .val (.ref r5)] []))
  refine own_by (fun _ kS => XS.aloadN X43.here hx rfl (hb hby d11_9) rfl rfl kS) ?_
  show own_Comes p e below s _ _ _ (T43.setTop (mkF m 10 #[.val (.ref r0), .val (.ref r1), .val (.ref r2), .val .null, .val .null, .val (.ref r5)] [(.ref r0)]))
  refine own_by (fun _ kS => XS.aloadN X43.here hx rfl (hb hby d11_10) rfl rfl kS) ?_
  show own_Comes p e below s _ _ _ (T43.setTop (mkF m 11 #[.val (.ref r0), .val (.ref r1), .val (.ref r2), .val .null, .val .null, .val (.ref r5)] [(.ref r2), (.ref r0)]))
  have c44 := (G_tenant.other W43 (Or.inr (slot_ne (Or.inr (hw _ (List.mem_of_getElem? (i := 62) rfl))) (Or.inr (hw _ (List.mem_of_getElem? (i := 60) rfl))) (by decide) (t := (.object "java/lang/String")) (t' := (.object "com/example/valve_per_tenant/valvepertenant/model/Scope")) (by decide) (by decide))))
  obtain ⟨T45, h45, X45, e45, W45, st45⟩ := putF X43 hx hZ hown (host := "") (Or.inl (hw _ (List.mem_of_getElem? (i := 61) rfl))) Via.refl e43 c44 (Et.wr W43) (Or.inr ⟨(hw _ (List.mem_of_getElem? (i := 62) rfl)), rfl, hnm⟩) (hw _ (List.mem_of_getElem? (i := 39) rfl)) (ty := (.object "java/lang/String")) (by decide) rfl rfl (g := (mkF m 11 #[.val (.ref r0), .val (.ref r1), .val (.ref r2), .val .null, .val .null, .val (.ref r5)] [(.ref r2), (.ref r0)])) rfl rfl (hb hby d11_11)
  refine own_by st45 ?_
  have Fw45 := c44.same W45
  have N45 := Fr.snoc X45 N43 g_r0
  show own_Comes p e below s _ _ _ (T45.setTop (mkF m 14 #[.val (.ref r0), .val (.ref r1), .val (.ref r2), .val .null, .val .null, .val (.ref r5)] []))
  refine own_by (fun _ kS => XS.aloadN X45.here hx rfl (hb hby d11_14) rfl rfl kS) ?_
  show own_Comes p e below s _ _ _ (T45.setTop (mkF m 15 #[.val (.ref r0), .val (.ref r1), .val (.ref r2), .val .null, .val .null, .val (.ref r5)] [(.ref r0)]))
  refine own_by (fun _ kS => XS.aloadN X45.here hx rfl (hb hby d11_15) rfl rfl kS) ?_
  show own_Comes p e below s _ _ _ (T45.setTop (mkF m 16 #[.val (.ref r0), .val (.ref r1), .val (.ref r2), .val .null, .val .null, .val (.ref r5)] [.null, (.ref r0)]))
  have c46 := ((G_user.other W43 (Or.inr (slot_ne (Or.inr (hw _ (List.mem_of_getElem? (i := 64) rfl))) (Or.inr (hw _ (List.mem_of_getElem? (i := 60) rfl))) (by decide) (t := (.object "java/lang/String")) (t' := (.object "com/example/valve_per_tenant/valvepertenant/model/Scope")) (by decide) (by decide)))).other W45 (Or.inr (slot_ne (Or.inr (hw _ (List.mem_of_getElem? (i := 64) rfl))) (Or.inr (hw _ (List.mem_of_getElem? (i := 62) rfl))) (by decide) (t := (.object "java/lang/String")) (t' := (.object "java/lang/String")) (by decide) (by decide))))
  obtain ⟨T47, h47, X47, e47, W47, st47⟩ := putF X45 hx hZ hown (host := "") (Or.inl (hw _ (List.mem_of_getElem? (i := 63) rfl))) Via.refl e45 c46 ((Et.wr W43).wr W45) (Or.inr ⟨(hw _ (List.mem_of_getElem? (i := 64) rfl)), rfl, hnm⟩) (hw _ (List.mem_of_getElem? (i := 39) rfl)) (ty := (.object "java/lang/String")) (by decide) rfl rfl (g := (mkF m 16 #[.val (.ref r0), .val (.ref r1), .val (.ref r2), .val .null, .val .null, .val (.ref r5)] [.null, (.ref r0)])) rfl rfl (hb hby d11_16)
  refine own_by st47 ?_
  have Fw47 := c46.same W47
  have N47 := Fr.snoc X47 N45 g_r0
  show own_Comes p e below s _ _ _ (T47.setTop (mkF m 19 #[.val (.ref r0), .val (.ref r1), .val (.ref r2), .val .null, .val .null, .val (.ref r5)] []))
  refine own_by (fun _ kS => XS.aloadN X47.here hx rfl (hb hby d11_19) rfl rfl kS) ?_
  show own_Comes p e below s _ _ _ (T47.setTop (mkF m 20 #[.val (.ref r0), .val (.ref r1), .val (.ref r2), .val .null, .val .null, .val (.ref r5)] [(.ref r0)]))
  refine own_by (fun _ kS => XS.aload X47.here hx rfl (hb hby d11_20) rfl rfl kS) ?_
  show own_Comes p e below s _ _ _ (T47.setTop (mkF m 22 #[.val (.ref r0), .val (.ref r1), .val (.ref r2), .val .null, .val .null, .val (.ref r5)] [.null, (.ref r0)]))
  have c48 := (((G_address.other W43 (Or.inr (slot_ne (Or.inr (hw _ (List.mem_of_getElem? (i := 66) rfl))) (Or.inr (hw _ (List.mem_of_getElem? (i := 60) rfl))) (by decide) (t := (.object "java/lang/String")) (t' := (.object "com/example/valve_per_tenant/valvepertenant/model/Scope")) (by decide) (by decide)))).other W45 (Or.inr (slot_ne (Or.inr (hw _ (List.mem_of_getElem? (i := 66) rfl))) (Or.inr (hw _ (List.mem_of_getElem? (i := 62) rfl))) (by decide) (t := (.object "java/lang/String")) (t' := (.object "java/lang/String")) (by decide) (by decide)))).other W47 (Or.inr (slot_ne (Or.inr (hw _ (List.mem_of_getElem? (i := 66) rfl))) (Or.inr (hw _ (List.mem_of_getElem? (i := 64) rfl))) (by decide) (t := (.object "java/lang/String")) (t' := (.object "java/lang/String")) (by decide) (by decide))))
  obtain ⟨T49, h49, X49, e49, W49, st49⟩ := putF X47 hx hZ hown (host := "") (Or.inl (hw _ (List.mem_of_getElem? (i := 65) rfl))) Via.refl e47 c48 (((Et.wr W43).wr W45).wr W47) (Or.inr ⟨(hw _ (List.mem_of_getElem? (i := 66) rfl)), rfl, hnm⟩) (hw _ (List.mem_of_getElem? (i := 39) rfl)) (ty := (.object "java/lang/String")) (by decide) rfl rfl (g := (mkF m 22 #[.val (.ref r0), .val (.ref r1), .val (.ref r2), .val .null, .val .null, .val (.ref r5)] [.null, (.ref r0)])) rfl rfl (hb hby d11_22)
  refine own_by st49 ?_
  have Fw49 := c48.same W49
  have N49 := Fr.snoc X49 N47 g_r0
  show own_Comes p e below s _ _ _ (T49.setTop (mkF m 25 #[.val (.ref r0), .val (.ref r1), .val (.ref r2), .val .null, .val .null, .val (.ref r5)] []))
  refine own_by (fun _ kS => XS.aloadN X49.here hx rfl (hb hby d11_25) rfl rfl kS) ?_
  show own_Comes p e below s _ _ _ (T49.setTop (mkF m 26 #[.val (.ref r0), .val (.ref r1), .val (.ref r2), .val .null, .val .null, .val (.ref r5)] [(.ref r0)]))
  refine own_by (fun _ kS => XS.aload X49.here hx rfl (hb hby d11_26) rfl rfl kS) ?_
  show own_Comes p e below s _ _ _ (T49.setTop (mkF m 28 #[.val (.ref r0), .val (.ref r1), .val (.ref r2), .val .null, .val .null, .val (.ref r5)] [(.ref r5), (.ref r0)]))
  have c50 := ((((G_endpoint.other W43 (Or.inr (slot_ne (Or.inr (hw _ (List.mem_of_getElem? (i := 68) rfl))) (Or.inr (hw _ (List.mem_of_getElem? (i := 60) rfl))) (by decide) (t := (.object "java/lang/String")) (t' := (.object "com/example/valve_per_tenant/valvepertenant/model/Scope")) (by decide) (by decide)))).other W45 (Or.inr (slot_ne (Or.inr (hw _ (List.mem_of_getElem? (i := 68) rfl))) (Or.inr (hw _ (List.mem_of_getElem? (i := 62) rfl))) (by decide) (t := (.object "java/lang/String")) (t' := (.object "java/lang/String")) (by decide) (by decide)))).other W47 (Or.inr (slot_ne (Or.inr (hw _ (List.mem_of_getElem? (i := 68) rfl))) (Or.inr (hw _ (List.mem_of_getElem? (i := 64) rfl))) (by decide) (t := (.object "java/lang/String")) (t' := (.object "java/lang/String")) (by decide) (by decide)))).other W49 (Or.inr (slot_ne (Or.inr (hw _ (List.mem_of_getElem? (i := 68) rfl))) (Or.inr (hw _ (List.mem_of_getElem? (i := 66) rfl))) (by decide) (t := (.object "java/lang/String")) (t' := (.object "java/lang/String")) (by decide) (by decide))))
  obtain ⟨T51, h51, X51, e51, W51, st51⟩ := putF X49 hx hZ hown (host := "") (Or.inl (hw _ (List.mem_of_getElem? (i := 67) rfl))) Via.refl e49 c50 ((((Et.wr W43).wr W45).wr W47).wr W49) (Or.inr ⟨(hw _ (List.mem_of_getElem? (i := 68) rfl)), rfl, hnm⟩) (hw _ (List.mem_of_getElem? (i := 39) rfl)) (ty := (.object "java/lang/String")) (by decide) rfl rfl (g := (mkF m 28 #[.val (.ref r0), .val (.ref r1), .val (.ref r2), .val .null, .val .null, .val (.ref r5)] [(.ref r5), (.ref r0)])) rfl rfl (hb hby d11_28)
  refine own_by st51 ?_
  have Fw51 := c50.same W51
  have N51 := Fr.snoc X51 N49 g_r0
  show own_Comes p e below s _ _ _ (T51.setTop (mkF m 31 #[.val (.ref r0), .val (.ref r1), .val (.ref r2), .val .null, .val .null, .val (.ref r5)] []))
  have c52 := ((((Fw43.other W45 (Or.inr (slot_ne (Or.inr (hw _ (List.mem_of_getElem? (i := 60) rfl))) (Or.inr (hw _ (List.mem_of_getElem? (i := 62) rfl))) (by decide) (t := (.object "com/example/valve_per_tenant/valvepertenant/model/Scope")) (t' := (.object "java/lang/String")) (by decide) (by decide)))).other W47 (Or.inr (slot_ne (Or.inr (hw _ (List.mem_of_getElem? (i := 60) rfl))) (Or.inr (hw _ (List.mem_of_getElem? (i := 64) rfl))) (by decide) (t := (.object "com/example/valve_per_tenant/valvepertenant/model/Scope")) (t' := (.object "java/lang/String")) (by decide) (by decide)))).other W49 (Or.inr (slot_ne (Or.inr (hw _ (List.mem_of_getElem? (i := 60) rfl))) (Or.inr (hw _ (List.mem_of_getElem? (i := 66) rfl))) (by decide) (t := (.object "com/example/valve_per_tenant/valvepertenant/model/Scope")) (t' := (.object "java/lang/String")) (by decide) (by decide)))).other W51 (Or.inr (slot_ne (Or.inr (hw _ (List.mem_of_getElem? (i := 60) rfl))) (Or.inr (hw _ (List.mem_of_getElem? (i := 68) rfl))) (by decide) (t := (.object "com/example/valve_per_tenant/valvepertenant/model/Scope")) (t' := (.object "java/lang/String")) (by decide) (by decide))))
  have c53 := (((Fw45.other W47 (Or.inr (slot_ne (Or.inr (hw _ (List.mem_of_getElem? (i := 62) rfl))) (Or.inr (hw _ (List.mem_of_getElem? (i := 64) rfl))) (by decide) (t := (.object "java/lang/String")) (t' := (.object "java/lang/String")) (by decide) (by decide)))).other W49 (Or.inr (slot_ne (Or.inr (hw _ (List.mem_of_getElem? (i := 62) rfl))) (Or.inr (hw _ (List.mem_of_getElem? (i := 66) rfl))) (by decide) (t := (.object "java/lang/String")) (t' := (.object "java/lang/String")) (by decide) (by decide)))).other W51 (Or.inr (slot_ne (Or.inr (hw _ (List.mem_of_getElem? (i := 62) rfl))) (Or.inr (hw _ (List.mem_of_getElem? (i := 68) rfl))) (by decide) (t := (.object "java/lang/String")) (t' := (.object "java/lang/String")) (by decide) (by decide))))
  have c54 := ((Fw47.other W49 (Or.inr (slot_ne (Or.inr (hw _ (List.mem_of_getElem? (i := 64) rfl))) (Or.inr (hw _ (List.mem_of_getElem? (i := 66) rfl))) (by decide) (t := (.object "java/lang/String")) (t' := (.object "java/lang/String")) (by decide) (by decide)))).other W51 (Or.inr (slot_ne (Or.inr (hw _ (List.mem_of_getElem? (i := 64) rfl))) (Or.inr (hw _ (List.mem_of_getElem? (i := 68) rfl))) (by decide) (t := (.object "java/lang/String")) (t' := (.object "java/lang/String")) (by decide) (by decide))))
  have c55 := (Fw49.other W51 (Or.inr (slot_ne (Or.inr (hw _ (List.mem_of_getElem? (i := 66) rfl))) (Or.inr (hw _ (List.mem_of_getElem? (i := 68) rfl))) (by decide) (t := (.object "java/lang/String")) (t' := (.object "java/lang/String")) (by decide) (by decide))))
  refine own_ret X51 (v := none) (fun _ => rfl) Bd.notSynchronized (by decide) (by decide) ?_ (fun fs hr => X51.returnOut hx Bd.returns (hb hby d11_31) hr)
  rw [e51]; exact ⟨rfl, N51, ((((((Keep.refl _ _).wr W43 (Or.inl (List.mem_of_getElem? (i := 0) rfl))).wr W45 (Or.inl (List.mem_of_getElem? (i := 0) rfl))).wr W47 (Or.inl (List.mem_of_getElem? (i := 0) rfl))).wr W49 (Or.inl (List.mem_of_getElem? (i := 0) rfl))).wr W51 (Or.inl (List.mem_of_getElem? (i := 0) rfl))), (((((Et.wr W43).wr W45).wr W47).wr W49).wr W51), c52, c53, c54, c55, Fw51⟩
def Q8nr (Z : State) (sc r0 r2 : Addr) (h0 : Heap) (n0 : Nat) (v : Option Value) (h : Heap) (L : List Loc) : Prop := ∃ a : Addr, v = some (.ref a) ∧ Fr n0 L ∧ Ext h0 h ∧ own_B Z h a (.ref sc) (.ref r0) .null (.ref r2)
theorem ef_rm8nr (m : MethodId) (x0 : Addr) (x2 : Addr) : entryFrame m #[(.ref x0), .null, (.ref x2)] 3 = mkF m 0 #[.val (.ref x0), .val .null, .val (.ref x2)] [] := by first | (simp [entryFrame, mkF, argsToLocals, Value.category]; done) | rfl
theorem d8_36 : decode prog_25_method_7_code 36 = .ok (.ldc 50, 2) := by decide +kernel
theorem d8_38 : decode prog_25_method_7_code 38 = .ok (.aload_n 2, 1) := by decide +kernel
theorem d8_39 : decode prog_25_method_7_code 39 = .ok (.invokestatic 32, 3) := by decide +kernel
set_option maxRecDepth 65536 in
set_option maxHeartbeats 40000000 in
theorem rm8nr (l : Launch) (Z : State) (a0 : Array Value) (hw : ∀ d ∈ tables_1, d.before a0 Z = true) (ws : List Jvm.Cond) (sc r0 r2 : Addr) (h0 : Heap) (n0 : Nat) (Z0 : n0 ≤ h0.size) (O0 : Old Z n0 h0) (Sc : Sta Z Z.heap "com/example/valve_per_tenant/valvepertenant/model/Scope" "OVERRIDE" "Lcom/example/valve_per_tenant/valvepertenant/model/Scope;" (.ref sc)) (S0 : own_S Z h0 r0) (S2 : own_S Z h0 r2) :
    MetFree l (⟨"com/example/valve_per_tenant/valvepertenant/store/BucketKey", "override", "(Ljava/lang/String;Ljava/lang/String;Ljava/lang/String;)Lcom/example/valve_per_tenant/valvepertenant/store/BucketKey;"⟩ : MethodName) (head1 (Jvm.Cond.code (⟨"com/example/valve_per_tenant/valvepertenant/store/BucketKey", "override", "(Ljava/lang/String;Ljava/lang/String;Ljava/lang/String;)Lcom/example/valve_per_tenant/valvepertenant/store/BucketKey;"⟩ : MethodName) prog_25_method_7_code 3 (some (.object "com/example/valve_per_tenant/valvepertenant/store/BucketKey")) :: ws) ({ frames := 2, cells := 5, slots := 69, locals := 31 } : Room)) (fun aX UX => aX = #[(.ref r0), .null, (.ref r2)] ∧ Z.Warmed39 UX.vm ∧ UX.heap = h0) (fun _ _ _ _ _ => True) (fun _ UX oX UX' => ∃ vX LX, oX = .returned vX ∧ Q8nr Z sc r0 r2 h0 n0 vX UX'.heap LX ∧ ReturnedEndW UX oX UX' LX ({ frames := 2, cells := 5, slots := 69, locals := 31 } : Room).cells ({ frames := 2, cells := 5, slots := 69, locals := 31 } : Room).slots) := by
  refine MetFree.of_bodySF (plainFor_of_name pn_com_example_valve_per_tenant_valvepertenant_store_BucketKey) hisR ?_
  intro p e s m args below meth c s₁ Bd hml0 hP hK
  obtain ⟨rfl, hZ, hh⟩ := hP
  have hx := Bd.exec
  have hby := Bd.bytes
  have hml : c.maxLocals = 3 := hml0
  have hown : s.vm.findClass "com/example/valve_per_tenant/valvepertenant/store/BucketKey" = some m.cls := findClass_of_methodNamed Bd.named
  have hnm := (name_of_methodNamed Bd.named Bd.method).1
  have X0 : Stand p l e ({ frames := 2, cells := 5, slots := 69, locals := 31 } : Room) (s.setVm s.vm) m #[(.ref r0), .null, (.ref r2)] below meth c s₁ [] 0 0 := Stand.of_body Bd
  have hS : s.Since s.vm 0 := (State.WarmedH.refl s).since 0
  have hk : 0 ≤ h0.size := Nat.zero_le _
  have hZ : Z.Warmed39 (s.setVm s.vm).vm := hZ
  have hown : (s.setVm s.vm).vm.findClass "com/example/valve_per_tenant/valvepertenant/store/BucketKey" = some m.cls := hown
  have e0 : s₁.heap = h0 := by rw [← hh, Bd.state]; rfl
  have N0 := Fr.nil n0
  show own_ComesW p e below s ({ frames := 2, cells := 5, slots := 69, locals := 31 } : Room).cells ({ frames := 2, cells := 5, slots := 69, locals := 31 } : Room).slots (Q8nr Z sc r0 r2 h0 n0) _
  rw [show entryFrame m #[(.ref r0), .null, (.ref r2)] 3 = mkF m 0 #[.val (.ref r0), .val .null, .val (.ref r2)] [] from ef_rm8nr m r0 r2]
  show own_ComesW p e below s _ _ _ (s₁.setTop (mkF m 0 #[.val (.ref r0), .val .null, .val (.ref r2)] []))
  obtain ⟨T56, h56, X56, e56, E56, A56, D56, -, st56⟩ := newO X0 hx hZ hown (hw _ (List.mem_of_getElem? (i := 38) rfl)) (hw _ (List.mem_of_getElem? (i := 39) rfl)) (hw _ (List.mem_of_getElem? (i := 36) rfl)) e0 (g := (mkF m 0 #[.val (.ref r0), .val .null, .val (.ref r2)] [])) rfl (hb hby d8_0) (by decide) (by decide)
  obtain ⟨b56, g56⟩ : ∃ z, z = h0.size := ⟨_, rfl⟩
  rw [← g56] at A56 D56 st56
  have g_b56 : n0 ≤ b56 := Nat.le_trans Z0 (Nat.le_of_eq g56.symm)
  refine own_byW st56 ?_
  show own_ComesW p e below s _ _ _ (T56.setTop (mkF m 3 #[.val (.ref r0), .val .null, .val (.ref r2)] [(.ref b56)]))
  refine own_byW (fun _ kS => XS.dup X56.here hx rfl (hb hby d8_3) rfl rfl kS) ?_
  show own_ComesW p e below s _ _ _ (T56.setTop (mkF m 4 #[.val (.ref r0), .val .null, .val (.ref r2)] [(.ref b56), (.ref b56)]))
  obtain ⟨T57, X57, e57, st57⟩ := getS2 X56 hx hZ hown (host := "") (Or.inl (hw _ (List.mem_of_getElem? (i := 40) rfl))) Via.refl e56 (Sc.ext (O0.ext E56).2) (g := (mkF m 4 #[.val (.ref r0), .val .null, .val (.ref r2)] [(.ref b56), (.ref b56)])) rfl (hb hby d8_4)
  refine own_byW st57 ?_
  show own_ComesW p e below s _ _ _ (T57.setTop (mkF m 7 #[.val (.ref r0), .val .null, .val (.ref r2)] [(.ref sc), (.ref b56), (.ref b56)]))
  have sz_b56 : h0.size ≤ b56 := Nat.le_trans (Keep.refl h0 []).1 (Nat.le_of_eq g56.symm)
  have wS : ∀ a ∈ Bundle.stringAtoms, a.before a0 Z = true := fun d hd => hw d ((by decide +kernel : ∀ d ∈ Bundle.stringAtoms, d ∈ tables_1) d hd)
  obtain ⟨a58, T58, h58, k58, X58, e58, E58, hS58, hk58, hZ58, hown58, st58⟩ := ldcS X57 hx hZ hown (hw _ (List.mem_of_getElem? (i := 43) rfl)) wS e57 hS (Nat.le_trans hk E56.1) (g := (mkF m 7 #[.val (.ref r0), .val .null, .val (.ref r2)] [(.ref sc), (.ref b56), (.ref b56)])) rfl (hb hby d8_7) (n := 24) (by decide) (by decide) (by decide) (by decide)
  refine own_byW st58 ?_
  show own_ComesW p e below s _ _ _ (T58.setTop (mkF m 9 #[.val (.ref r0), .val .null, .val (.ref r2)] [(.ref a58), (.ref sc), (.ref b56), (.ref b56)]))
  refine own_byW (fun _ kS => XS.aloadN X58.here hx rfl (hb hby d8_9) rfl rfl kS) ?_
  show own_ComesW p e below s _ _ _ (T58.setTop (mkF m 10 #[.val (.ref r0), .val .null, .val (.ref r2)] [(.ref r0), (.ref a58), (.ref sc), (.ref b56), (.ref b56)]))
  obtain ⟨_, _, ⟨T59, L59, k59, n59⟩, -, X59, ⟨Lc59, hQ59, l59, y59, z59⟩, st59⟩ := Jvm.LawKit.callS X58 hx (y := (⟨"com/example/valve_per_tenant/valvepertenant/store/BucketKey", "requireName", "(Ljava/lang/String;Ljava/lang/String;)Ljava/lang/String;"⟩ : MethodName)) hown58 (mvT hZ58 (hw _ (List.mem_of_getElem? (i := 46) rfl))) (mvT hZ58 (hw _ (List.mem_of_getElem? (i := 47) rfl))) (mvT hZ58 (hw _ (List.mem_of_getElem? (i := 36) rfl))) (mvT hZ58 (hw _ (List.mem_of_getElem? (i := 48) rfl))) (by decide) (backOf (W := 3) (rm9 l Z a0 hw [] a58 r0 h58 n0 (Nat.le_trans (Nat.le_trans Z0 E56.1) E58.1) ((S0.ext E56).ext E58)) hZ58 (hw _ (List.mem_of_getElem? (i := 48) rfl)) (hw _ (List.mem_of_getElem? (i := 36) rfl)) (by decide) (by decide)) (g := (mkF m 10 #[.val (.ref r0), .val .null, .val (.ref r2)] [(.ref r0), (.ref a58), (.ref sc), (.ref b56), (.ref b56)])) rfl (by rw [hml]; rfl) (argsL := [(.ref a58), (.ref r0)]) (rest := [(.ref sc), (.ref b56), (.ref b56)]) (lenOf pd__Ljava_lang_String_Ljava_lang_String__Ljava_lang_String__184 rfl) rfl (by show 2 * 0 + _ ≤ _; exact Nat.le_of_eq rfl) (hb hby d8_10) (fun _ _ => ⟨rfl, e58, (by decide : 3 + 0 ≤ _), (by decide : 33 + 0 ≤ _)⟩)
  dsimp only [Pt.U, Pt.locs, Pt.cells, Pt.slots] at X59 l59 y59 z59 st59 hQ59
  subst l59 y59 z59
  obtain ⟨rfl, N59q, e59q⟩ := hQ59
  have N59 := Fr.app N0 N59q
  refine own_byW st59 ?_
  have e59 : T59.heap = h58 := e59q
  show own_ComesW p e below s _ _ _ (T59.setTop (mkF m 13 #[.val (.ref r0), .val .null, .val (.ref r2)] [(.ref r0), (.ref sc), (.ref b56), (.ref b56)]))
  refine own_byW (fun _ kS => XS.aloadN X59.here hx rfl (hb hby d8_13) rfl rfl kS) ?_
  show own_ComesW p e below s _ _ _ (T59.setTop (mkF m 14 #[.val (.ref r0), .val .null, .val (.ref r2)] [.null, (.ref r0), (.ref sc), (.ref b56), (.ref b56)]))
  refine own_byW (fun _ kS => XS.ifnonnullNo X59.here hx rfl (hb hby d8_14) rfl kS) ?_
  show own_ComesW p e below s _ _ _ (T59.setTop (mkF m 17 #[.val (.ref r0), .val .null, .val (.ref r2)] [(.ref r0), (.ref sc), (.ref b56), (.ref b56)]))
  refine own_byW (fun _ kS => XS.aconstNull X59.here hx rfl (hb hby d8_17) kS) ?_
  show own_ComesW p e below s _ _ _ (T59.setTop (mkF m 18 #[.val (.ref r0), .val .null, .val (.ref r2)] [.null, (.ref r0), (.ref sc), (.ref b56), (.ref b56)]))
  refine own_byW (fun _ kS => XS.goto X59.here hx rfl (pc0 := 18) (pc' := 27) rfl (hb hby d8_18) (by decide) (by decide) kS) ?_
  show own_ComesW p e below s _ _ _ (T59.setTop (mkF m 27 #[.val (.ref r0), .val .null, .val (.ref r2)] [.null, (.ref r0), (.ref sc), (.ref b56), (.ref b56)]))
  refine own_byW (fun _ kS => XS.aconstNull X59.here hx rfl (hb hby d8_27) kS) ?_
  show own_ComesW p e below s _ _ _ (T59.setTop (mkF m 28 #[.val (.ref r0), .val .null, .val (.ref r2)] [.null, .null, (.ref r0), (.ref sc), (.ref b56), (.ref b56)]))
  refine own_byW (fun _ kS => XS.aloadN X59.here hx rfl (hb hby d8_28) rfl rfl kS) ?_
  show own_ComesW p e below s _ _ _ (T59.setTop (mkF m 29 #[.val (.ref r0), .val .null, .val (.ref r2)] [(.ref r2), .null, .null, (.ref r0), (.ref sc), (.ref b56), (.ref b56)]))
  refine own_byW (fun _ kS => XS.ifnonnullYes X59.here hx rfl (pc0 := 29) (pc' := 36) rfl (hb hby d8_29) rfl (by decide) (by decide) kS) ?_
  show own_ComesW p e below s _ _ _ (T59.setTop (mkF m 36 #[.val (.ref r0), .val .null, .val (.ref r2)] [.null, .null, (.ref r0), (.ref sc), (.ref b56), (.ref b56)]))
  obtain ⟨a60, T60, h60, k60, X60, e60, E60, hS60, hk60, hZ60, hown60, st60⟩ := ldcS X59 hx hZ58 hown58 (hw _ (List.mem_of_getElem? (i := 54) rfl)) wS e59 hS58 hk58 (g := (mkF m 36 #[.val (.ref r0), .val .null, .val (.ref r2)] [.null, .null, (.ref r0), (.ref sc), (.ref b56), (.ref b56)])) rfl (hb hby d8_36) (n := 32) (by decide) (by decide) (by decide) (by decide)
  refine own_byW st60 ?_
  show own_ComesW p e below s _ _ _ (T60.setTop (mkF m 38 #[.val (.ref r0), .val .null, .val (.ref r2)] [(.ref a60), .null, .null, (.ref r0), (.ref sc), (.ref b56), (.ref b56)]))
  refine own_byW (fun _ kS => XS.aloadN X60.here hx rfl (hb hby d8_38) rfl rfl kS) ?_
  show own_ComesW p e below s _ _ _ (T60.setTop (mkF m 39 #[.val (.ref r0), .val .null, .val (.ref r2)] [(.ref r2), (.ref a60), .null, .null, (.ref r0), (.ref sc), (.ref b56), (.ref b56)]))
  obtain ⟨_, _, ⟨T61, L61, k61, n61⟩, -, X61, ⟨Lc61, hQ61, l61, y61, z61⟩, st61⟩ := Jvm.LawKit.callS X60 hx (y := (⟨"com/example/valve_per_tenant/valvepertenant/store/BucketKey", "requireName", "(Ljava/lang/String;Ljava/lang/String;)Ljava/lang/String;"⟩ : MethodName)) hown60 (mvT hZ60 (hw _ (List.mem_of_getElem? (i := 46) rfl))) (mvT hZ60 (hw _ (List.mem_of_getElem? (i := 47) rfl))) (mvT hZ60 (hw _ (List.mem_of_getElem? (i := 36) rfl))) (mvT hZ60 (hw _ (List.mem_of_getElem? (i := 48) rfl))) (by decide) (backOf (W := 6) (rm9 l Z a0 hw [] a60 r2 h60 n0 (Nat.le_trans (Nat.le_trans (Nat.le_trans Z0 E56.1) E58.1) E60.1) (((S2.ext E56).ext E58).ext E60)) hZ60 (hw _ (List.mem_of_getElem? (i := 48) rfl)) (hw _ (List.mem_of_getElem? (i := 36) rfl)) (by decide) (by decide)) (g := (mkF m 39 #[.val (.ref r0), .val .null, .val (.ref r2)] [(.ref r2), (.ref a60), .null, .null, (.ref r0), (.ref sc), (.ref b56), (.ref b56)])) rfl (by rw [hml]; rfl) (argsL := [(.ref a60), (.ref r2)]) (rest := [.null, .null, (.ref r0), (.ref sc), (.ref b56), (.ref b56)]) (lenOf pd__Ljava_lang_String_Ljava_lang_String__Ljava_lang_String__184 rfl) rfl (by show 2 * 0 + _ ≤ _; exact Nat.le_of_eq rfl) (hb hby d8_39) (fun _ _ => ⟨rfl, e60, (by decide : 5 + 0 ≤ _), (by decide : 69 + 0 ≤ _)⟩)
  dsimp only [Pt.U, Pt.locs, Pt.cells, Pt.slots] at X61 l61 y61 z61 st61 hQ61
  subst l61 y61 z61
  obtain ⟨rfl, N61q, e61q⟩ := hQ61
  have N61 := Fr.app N59 N61q
  refine own_byW st61 ?_
  have e61 : T61.heap = h60 := e61q
  show own_ComesW p e below s _ _ _ (T61.setTop (mkF m 42 #[.val (.ref r0), .val .null, .val (.ref r2)] [(.ref r2), .null, .null, (.ref r0), (.ref sc), (.ref b56), (.ref b56)]))
  have c62 := (((D56 (Or.inr (hw _ (List.mem_of_getElem? (i := 60) rfl))) (ty := (.object "com/example/valve_per_tenant/valvepertenant/model/Scope")) (by decide)).ext E58).ext E60)
  have c63 := (((D56 (Or.inr (hw _ (List.mem_of_getElem? (i := 62) rfl))) (ty := (.object "java/lang/String")) (by decide)).ext E58).ext E60)
  have c64 := (((D56 (Or.inr (hw _ (List.mem_of_getElem? (i := 64) rfl))) (ty := (.object "java/lang/String")) (by decide)).ext E58).ext E60)
  have c65 := (((D56 (Or.inr (hw _ (List.mem_of_getElem? (i := 66) rfl))) (ty := (.object "java/lang/String")) (by decide)).ext E58).ext E60)
  have c66 := (((D56 (Or.inr (hw _ (List.mem_of_getElem? (i := 68) rfl))) (ty := (.object "java/lang/String")) (by decide)).ext E58).ext E60)
  obtain ⟨_, _, ⟨T67, L67, k67, n67⟩, -, X67, ⟨Lc67, hQ67, l67, y67, z67⟩, st67⟩ := X61.specialBack hx (y := (⟨"com/example/valve_per_tenant/valvepertenant/store/BucketKey", "<init>", "(Lcom/example/valve_per_tenant/valvepertenant/model/Scope;Ljava/lang/String;Ljava/lang/String;Ljava/lang/String;Ljava/lang/String;)V"⟩ : MethodName)) rfl hown60 (mvT hZ60 (hw _ (List.mem_of_getElem? (i := 55) rfl))) (mvT hZ60 (hw _ (List.mem_of_getElem? (i := 56) rfl))) (mvT hZ60 (hw _ (List.mem_of_getElem? (i := 57) rfl))) (by decide) (backOf (W := 1) (rm11nr l Z a0 hw [] b56 sc r0 r2 h60 n0 (Nat.le_trans (Nat.le_trans (Nat.le_trans Z0 E56.1) E58.1) E60.1) ((A56.ext E58).ext E60) c62 c63 c64 c65 c66 g_b56) hZ60 (hw _ (List.mem_of_getElem? (i := 57) rfl)) (hw _ (List.mem_of_getElem? (i := 36) rfl)) (by decide) (by decide)) (g := (mkF m 42 #[.val (.ref r0), .val .null, .val (.ref r2)] [(.ref r2), .null, .null, (.ref r0), (.ref sc), (.ref b56), (.ref b56)])) rfl (by rw [hml]; rfl) (Steps.refl _) (a := b56) (argsL := [(.ref sc), (.ref r0), .null, .null, (.ref r2)]) (rest := [(.ref b56)]) (lenOf pd__Lcom_example_valve_per_tenant_valvepertenant_model_Scope_Ljava_lang_String_Ljava_lang_String_Ljava_lang_String_Ljava_lang_String__V_687 rfl) rfl (by show 2 * 0 + _ ≤ _; exact Nat.le_of_eq rfl) (hb hby d8_42) (fun _ _ => ⟨rfl, e61, (by decide : 5 + 0 ≤ _), (by decide : 69 + 0 ≤ _)⟩)
  dsimp only [Pt.U, Pt.locs, Pt.cells, Pt.slots] at X67 l67 y67 z67 st67 hQ67
  subst l67 y67 z67
  obtain ⟨rfl, N67q, K67, B67⟩ := hQ67
  have N67 := Fr.app N61 N67q
  refine own_trW st67 ?_
  show own_ComesW p e below s _ _ _ (T67.setTop (mkF m 45 #[.val (.ref r0), .val .null, .val (.ref r2)] [(.ref b56)]))
  have hkr68 := (Nat.le_trans hk60 K67.1)
  refine own_retW X67 hS60 hkr68 (v := some (.ref b56)) (fun h => by rw [Bd.returns] at h; cases h) Bd.notSynchronized (by decide) (by decide) ?_ (fun fs hr => own_reta X67 hx Bd.returns rfl rfl (hb hby d8_45) hr)
  exact ⟨_, rfl, N67, own_ext (((((Keep.refl _ _).ext E56).ext E58).ext E60).trans K67 (allS (Or.inr sz_b56) all0)), B67⟩
def Q11rn (Z : State) (r0 r1 r2 r3 : Addr) (h0 : Heap) (n0 : Nat) (v : Option Value) (h : Heap) (L : List Loc) : Prop := v = none ∧ Fr n0 L ∧ Keep h0 h [r0] ∧ own_B Z h r0 (.ref r1) (.ref r2) (.ref r3) .null
theorem ef_rm11rn (m : MethodId) (x0 : Addr) (x1 : Addr) (x2 : Addr) (x3 : Addr) : entryFrame m #[(.ref x0), (.ref x1), (.ref x2), (.ref x3), .null, .null] 6 = mkF m 0 #[.val (.ref x0), .val (.ref x1), .val (.ref x2), .val (.ref x3), .val .null, .val .null] [] := by first | (simp [entryFrame, mkF, argsToLocals, Value.category]; done) | rfl
set_option maxRecDepth 65536 in
set_option maxHeartbeats 40000000 in
theorem rm11rn (l : Launch) (Z : State) (a0 : Array Value) (hw : ∀ d ∈ tables_1, d.before a0 Z = true) (ws : List Jvm.Cond) (r0 r1 r2 r3 : Addr) (h0 : Heap) (n0 : Nat) (Z0 : n0 ≤ h0.size) (Et : Exa Z h0 r0 "com/example/valve_per_tenant/valvepertenant/store/BucketKey") (G_scope : Fld Z h0 r0 "com/example/valve_per_tenant/valvepertenant/store/BucketKey" "scope" "Lcom/example/valve_per_tenant/valvepertenant/model/Scope;" .null) (G_tenant : Fld Z h0 r0 "com/example/valve_per_tenant/valvepertenant/store/BucketKey" "tenant" "Ljava/lang/String;" .null) (G_user : Fld Z h0 r0 "com/example/valve_per_tenant/valvepertenant/store/BucketKey" "user" "Ljava/lang/String;" .null) (G_address : Fld Z h0 r0 "com/example/valve_per_tenant/valvepertenant/store/BucketKey" "address" "Ljava/lang/String;" .null) (G_endpoint : Fld Z h0 r0 "com/example/valve_per_tenant/valvepertenant/store/BucketKey" "endpoint" "Ljava/lang/String;" .null) (g_r0 : n0 ≤ r0) :
    MetFree l (⟨"com/example/valve_per_tenant/valvepertenant/store/BucketKey", "<init>", "(Lcom/example/valve_per_tenant/valvepertenant/model/Scope;Ljava/lang/String;Ljava/lang/String;Ljava/lang/String;Ljava/lang/String;)V"⟩ : MethodName) (head1 (Jvm.Cond.code (⟨"com/example/valve_per_tenant/valvepertenant/store/BucketKey", "<init>", "(Lcom/example/valve_per_tenant/valvepertenant/model/Scope;Ljava/lang/String;Ljava/lang/String;Ljava/lang/String;Ljava/lang/String;)V"⟩ : MethodName) prog_25_method_1_code 6 none :: ws) ({ frames := 1, cells := 0, slots := 0, locals := 12 } : Room)) (fun aX UX => aX = #[(.ref r0), (.ref r1), (.ref r2), (.ref r3), .null, .null] ∧ Z.Warmed39 UX.vm ∧ UX.heap = h0) (fun _ _ _ _ _ => True) (fun _ UX oX UX' => ∃ vX LX, oX = .returned vX ∧ Q11rn Z r0 r1 r2 r3 h0 n0 vX UX'.heap LX ∧ FrameEnd UX oX UX' LX ({ frames := 1, cells := 0, slots := 0, locals := 12 } : Room).cells ({ frames := 1, cells := 0, slots := 0, locals := 12 } : Room).slots) := by
  refine MetFree.of_bodySF (plainFor_of_name pn_com_example_valve_per_tenant_valvepertenant_store_BucketKey) hisR ?_
  intro p e s m args below meth c s₁ Bd hml0 hP hK
  obtain ⟨rfl, hZ, hh⟩ := hP
  have hx := Bd.exec
  have hby := Bd.bytes
  have hml : c.maxLocals = 6 := hml0
  have hown : s.vm.findClass "com/example/valve_per_tenant/valvepertenant/store/BucketKey" = some m.cls := findClass_of_methodNamed Bd.named
  have hnm := (name_of_methodNamed Bd.named Bd.method).1
  have X0 : Stand p l e ({ frames := 1, cells := 0, slots := 0, locals := 12 } : Room) s m #[(.ref r0), (.ref r1), (.ref r2), (.ref r3), .null, .null] below meth c s₁ [] 0 0 := Stand.of_body Bd
  have e0 : s₁.heap = h0 := by rw [← hh, Bd.state]; rfl
  have N0 := Fr.nil n0
  show own_Comes p e below s ({ frames := 1, cells := 0, slots := 0, locals := 12 } : Room).cells ({ frames := 1, cells := 0, slots := 0, locals := 12 } : Room).slots (Q11rn Z r0 r1 r2 r3 h0 n0) _
  rw [show entryFrame m #[(.ref r0), (.ref r1), (.ref r2), (.ref r3), .null, .null] 6 = mkF m 0 #[.val (.ref r0), .val (.ref r1), .val (.ref r2), .val (.ref r3), .val .null, .val .null] [] from ef_rm11rn m r0 r1 r2 r3]
  show own_Comes p e below s _ _ _ (s₁.setTop (mkF m 0 #[.val (.ref r0), .val (.ref r1), .val (.ref r2), .val (.ref r3), .val .null, .val .null] []))
  refine own_by (fun _ kS => XS.aloadN X0.here hx rfl (hb hby d11_0) rfl rfl kS) ?_
  show own_Comes p e below s _ _ _ (s₁.setTop (mkF m 1 #[.val (.ref r0), .val (.ref r1), .val (.ref r2), .val (.ref r3), .val .null, .val .null] [(.ref r0)]))
  obtain ⟨T69, X69, e69, st69⟩ := initO X0 hx hZ hown (hw _ (List.mem_of_getElem? (i := 58) rfl)) (hw _ (List.mem_of_getElem? (i := 16) rfl)) (hw _ (List.mem_of_getElem? (i := 17) rfl)) e0 (g := (mkF m 1 #[.val (.ref r0), .val (.ref r1), .val (.ref r2), .val (.ref r3), .val .null, .val .null] [(.ref r0)])) rfl (by rw [hml]; rfl) rfl (hb hby d11_1) (by decide) (W := 0) (by show 2 * 0 + _ ≤ _; exact Nat.le_of_eq rfl) (by decide)
  refine own_by st69 ?_
  show own_Comes p e below s _ _ _ (T69.setTop (mkF m 4 #[.val (.ref r0), .val (.ref r1), .val (.ref r2), .val (.ref r3), .val .null, .val .null] []))
  refine own_by (fun _ kS => XS.aloadN X69.here hx rfl (hb hby d11_4) rfl rfl kS) ?_
  show own_Comes p e below s _ _ _ (T69.setTop (mkF m 5 #[.val (.ref r0), .val (.ref r1), .val (.ref r2), .val (.ref r3), .val .null, .val .null] [(.ref r0)]))
  refine own_by (fun _ kS => XS.aloadN X69.here hx rfl (hb hby d11_5) rfl rfl kS) ?_
  show own_Comes p e below s _ _ _ (T69.setTop (mkF m 6 #[.val (.ref r0), .val (.ref r1), .val (.ref r2), .val (.ref r3), .val .null, .val .null] [(.ref r1), (.ref r0)]))
  obtain ⟨T70, h70, X70, e70, W70, st70⟩ := putF X69 hx hZ hown (host := "") (Or.inl (hw _ (List.mem_of_getElem? (i := 59) rfl))) Via.refl e69 G_scope Et (Or.inr ⟨(hw _ (List.mem_of_getElem? (i := 60) rfl)), rfl, hnm⟩) (hw _ (List.mem_of_getElem? (i := 39) rfl)) (ty := (.object "com/example/valve_per_tenant/valvepertenant/model/Scope")) (by decide) rfl rfl (g := (mkF m 6 #[.val (.ref r0), .val (.ref r1), .val (.ref r2), .val (.ref r3), .val .null, .val .null] [(.ref r1), (.ref r0)])) rfl rfl (hb hby d11_6)
  refine own_by st70 ?_
  have Fw70 := G_scope.same W70
  have N70 := Fr.snoc X70 N0 g_r0
  show own_Comes p e below s _ _ _ (T70.setTop (mkF m 9 #[.val (.ref r0), .val (.ref r1), .val (.ref r2), .val (.ref r3), .val .null, .val .null] []))
  refine own_by (fun _ kS => XS.aloadN X70.here hx rfl (hb hby d11_9) rfl rfl kS) ?_
  show own_Comes p e below s _ _ _ (T70.setTop (mkF m 10 #[.val (.ref r0), .val (.ref r1), .val (.ref r2), .val (.ref r3), .val .null, .val .null] [(.ref r0)]))
  refine own_by (fun _ kS => XS.aloadN X70.here hx rfl (hb hby d11_10) rfl rfl kS) ?_
  show own_Comes p e below s _ _ _ (T70.setTop (mkF m 11 #[.val (.ref r0), .val (.ref r1), .val (.ref r2), .val (.ref r3), .val .null, .val .null] [(.ref r2), (.ref r0)]))
  have c71 := (G_tenant.other W70 (Or.inr (slot_ne (Or.inr (hw _ (List.mem_of_getElem? (i := 62) rfl))) (Or.inr (hw _ (List.mem_of_getElem? (i := 60) rfl))) (by decide) (t := (.object "java/lang/String")) (t' := (.object "com/example/valve_per_tenant/valvepertenant/model/Scope")) (by decide) (by decide))))
  obtain ⟨T72, h72, X72, e72, W72, st72⟩ := putF X70 hx hZ hown (host := "") (Or.inl (hw _ (List.mem_of_getElem? (i := 61) rfl))) Via.refl e70 c71 (Et.wr W70) (Or.inr ⟨(hw _ (List.mem_of_getElem? (i := 62) rfl)), rfl, hnm⟩) (hw _ (List.mem_of_getElem? (i := 39) rfl)) (ty := (.object "java/lang/String")) (by decide) rfl rfl (g := (mkF m 11 #[.val (.ref r0), .val (.ref r1), .val (.ref r2), .val (.ref r3), .val .null, .val .null] [(.ref r2), (.ref r0)])) rfl rfl (hb hby d11_11)
  refine own_by st72 ?_
  have Fw72 := c71.same W72
  have N72 := Fr.snoc X72 N70 g_r0
  show own_Comes p e below s _ _ _ (T72.setTop (mkF m 14 #[.val (.ref r0), .val (.ref r1), .val (.ref r2), .val (.ref r3), .val .null, .val .null] []))
  refine own_by (fun _ kS => XS.aloadN X72.here hx rfl (hb hby d11_14) rfl rfl kS) ?_
  show own_Comes p e below s _ _ _ (T72.setTop (mkF m 15 #[.val (.ref r0), .val (.ref r1), .val (.ref r2), .val (.ref r3), .val .null, .val .null] [(.ref r0)]))
  refine own_by (fun _ kS => XS.aloadN X72.here hx rfl (hb hby d11_15) rfl rfl kS) ?_
  show own_Comes p e below s _ _ _ (T72.setTop (mkF m 16 #[.val (.ref r0), .val (.ref r1), .val (.ref r2), .val (.ref r3), .val .null, .val .null] [(.ref r3), (.ref r0)]))
  have c73 := ((G_user.other W70 (Or.inr (slot_ne (Or.inr (hw _ (List.mem_of_getElem? (i := 64) rfl))) (Or.inr (hw _ (List.mem_of_getElem? (i := 60) rfl))) (by decide) (t := (.object "java/lang/String")) (t' := (.object "com/example/valve_per_tenant/valvepertenant/model/Scope")) (by decide) (by decide)))).other W72 (Or.inr (slot_ne (Or.inr (hw _ (List.mem_of_getElem? (i := 64) rfl))) (Or.inr (hw _ (List.mem_of_getElem? (i := 62) rfl))) (by decide) (t := (.object "java/lang/String")) (t' := (.object "java/lang/String")) (by decide) (by decide))))
  obtain ⟨T74, h74, X74, e74, W74, st74⟩ := putF X72 hx hZ hown (host := "") (Or.inl (hw _ (List.mem_of_getElem? (i := 63) rfl))) Via.refl e72 c73 ((Et.wr W70).wr W72) (Or.inr ⟨(hw _ (List.mem_of_getElem? (i := 64) rfl)), rfl, hnm⟩) (hw _ (List.mem_of_getElem? (i := 39) rfl)) (ty := (.object "java/lang/String")) (by decide) rfl rfl (g := (mkF m 16 #[.val (.ref r0), .val (.ref r1), .val (.ref r2), .val (.ref r3), .val .null, .val .null] [(.ref r3), (.ref r0)])) rfl rfl (hb hby d11_16)
  refine own_by st74 ?_
  have Fw74 := c73.same W74
  have N74 := Fr.snoc X74 N72 g_r0
  show own_Comes p e below s _ _ _ (T74.setTop (mkF m 19 #[.val (.ref r0), .val (.ref r1), .val (.ref r2), .val (.ref r3), .val .null, .val .null] []))
  refine own_by (fun _ kS => XS.aloadN X74.here hx rfl (hb hby d11_19) rfl rfl kS) ?_
  show own_Comes p e below s _ _ _ (T74.setTop (mkF m 20 #[.val (.ref r0), .val (.ref r1), .val (.ref r2), .val (.ref r3), .val .null, .val .null] [(.ref r0)]))
  refine own_by (fun _ kS => XS.aload X74.here hx rfl (hb hby d11_20) rfl rfl kS) ?_
  show own_Comes p e below s _ _ _ (T74.setTop (mkF m 22 #[.val (.ref r0), .val (.ref r1), .val (.ref r2), .val (.ref r3), .val .null, .val .null] [.null, (.ref r0)]))
  have c75 := (((G_address.other W70 (Or.inr (slot_ne (Or.inr (hw _ (List.mem_of_getElem? (i := 66) rfl))) (Or.inr (hw _ (List.mem_of_getElem? (i := 60) rfl))) (by decide) (t := (.object "java/lang/String")) (t' := (.object "com/example/valve_per_tenant/valvepertenant/model/Scope")) (by decide) (by decide)))).other W72 (Or.inr (slot_ne (Or.inr (hw _ (List.mem_of_getElem? (i := 66) rfl))) (Or.inr (hw _ (List.mem_of_getElem? (i := 62) rfl))) (by decide) (t := (.object "java/lang/String")) (t' := (.object "java/lang/String")) (by decide) (by decide)))).other W74 (Or.inr (slot_ne (Or.inr (hw _ (List.mem_of_getElem? (i := 66) rfl))) (Or.inr (hw _ (List.mem_of_getElem? (i := 64) rfl))) (by decide) (t := (.object "java/lang/String")) (t' := (.object "java/lang/String")) (by decide) (by decide))))
  obtain ⟨T76, h76, X76, e76, W76, st76⟩ := putF X74 hx hZ hown (host := "") (Or.inl (hw _ (List.mem_of_getElem? (i := 65) rfl))) Via.refl e74 c75 (((Et.wr W70).wr W72).wr W74) (Or.inr ⟨(hw _ (List.mem_of_getElem? (i := 66) rfl)), rfl, hnm⟩) (hw _ (List.mem_of_getElem? (i := 39) rfl)) (ty := (.object "java/lang/String")) (by decide) rfl rfl (g := (mkF m 22 #[.val (.ref r0), .val (.ref r1), .val (.ref r2), .val (.ref r3), .val .null, .val .null] [.null, (.ref r0)])) rfl rfl (hb hby d11_22)
  refine own_by st76 ?_
  have Fw76 := c75.same W76
  have N76 := Fr.snoc X76 N74 g_r0
  show own_Comes p e below s _ _ _ (T76.setTop (mkF m 25 #[.val (.ref r0), .val (.ref r1), .val (.ref r2), .val (.ref r3), .val .null, .val .null] []))
  refine own_by (fun _ kS => XS.aloadN X76.here hx rfl (hb hby d11_25) rfl rfl kS) ?_
  show own_Comes p e below s _ _ _ (T76.setTop (mkF m 26 #[.val (.ref r0), .val (.ref r1), .val (.ref r2), .val (.ref r3), .val .null, .val .null] [(.ref r0)]))
  refine own_by (fun _ kS => XS.aload X76.here hx rfl (hb hby d11_26) rfl rfl kS) ?_
  show own_Comes p e below s _ _ _ (T76.setTop (mkF m 28 #[.val (.ref r0), .val (.ref r1), .val (.ref r2), .val (.ref r3), .val .null, .val .null] [.null, (.ref r0)]))
  have c77 := ((((G_endpoint.other W70 (Or.inr (slot_ne (Or.inr (hw _ (List.mem_of_getElem? (i := 68) rfl))) (Or.inr (hw _ (List.mem_of_getElem? (i := 60) rfl))) (by decide) (t := (.object "java/lang/String")) (t' := (.object "com/example/valve_per_tenant/valvepertenant/model/Scope")) (by decide) (by decide)))).other W72 (Or.inr (slot_ne (Or.inr (hw _ (List.mem_of_getElem? (i := 68) rfl))) (Or.inr (hw _ (List.mem_of_getElem? (i := 62) rfl))) (by decide) (t := (.object "java/lang/String")) (t' := (.object "java/lang/String")) (by decide) (by decide)))).other W74 (Or.inr (slot_ne (Or.inr (hw _ (List.mem_of_getElem? (i := 68) rfl))) (Or.inr (hw _ (List.mem_of_getElem? (i := 64) rfl))) (by decide) (t := (.object "java/lang/String")) (t' := (.object "java/lang/String")) (by decide) (by decide)))).other W76 (Or.inr (slot_ne (Or.inr (hw _ (List.mem_of_getElem? (i := 68) rfl))) (Or.inr (hw _ (List.mem_of_getElem? (i := 66) rfl))) (by decide) (t := (.object "java/lang/String")) (t' := (.object "java/lang/String")) (by decide) (by decide))))
  obtain ⟨T78, h78, X78, e78, W78, st78⟩ := putF X76 hx hZ hown (host := "") (Or.inl (hw _ (List.mem_of_getElem? (i := 67) rfl))) Via.refl e76 c77 ((((Et.wr W70).wr W72).wr W74).wr W76) (Or.inr ⟨(hw _ (List.mem_of_getElem? (i := 68) rfl)), rfl, hnm⟩) (hw _ (List.mem_of_getElem? (i := 39) rfl)) (ty := (.object "java/lang/String")) (by decide) rfl rfl (g := (mkF m 28 #[.val (.ref r0), .val (.ref r1), .val (.ref r2), .val (.ref r3), .val .null, .val .null] [.null, (.ref r0)])) rfl rfl (hb hby d11_28)
  refine own_by st78 ?_
  have Fw78 := c77.same W78
  have N78 := Fr.snoc X78 N76 g_r0
  show own_Comes p e below s _ _ _ (T78.setTop (mkF m 31 #[.val (.ref r0), .val (.ref r1), .val (.ref r2), .val (.ref r3), .val .null, .val .null] []))
  have c79 := ((((Fw70.other W72 (Or.inr (slot_ne (Or.inr (hw _ (List.mem_of_getElem? (i := 60) rfl))) (Or.inr (hw _ (List.mem_of_getElem? (i := 62) rfl))) (by decide) (t := (.object "com/example/valve_per_tenant/valvepertenant/model/Scope")) (t' := (.object "java/lang/String")) (by decide) (by decide)))).other W74 (Or.inr (slot_ne (Or.inr (hw _ (List.mem_of_getElem? (i := 60) rfl))) (Or.inr (hw _ (List.mem_of_getElem? (i := 64) rfl))) (by decide) (t := (.object "com/example/valve_per_tenant/valvepertenant/model/Scope")) (t' := (.object "java/lang/String")) (by decide) (by decide)))).other W76 (Or.inr (slot_ne (Or.inr (hw _ (List.mem_of_getElem? (i := 60) rfl))) (Or.inr (hw _ (List.mem_of_getElem? (i := 66) rfl))) (by decide) (t := (.object "com/example/valve_per_tenant/valvepertenant/model/Scope")) (t' := (.object "java/lang/String")) (by decide) (by decide)))).other W78 (Or.inr (slot_ne (Or.inr (hw _ (List.mem_of_getElem? (i := 60) rfl))) (Or.inr (hw _ (List.mem_of_getElem? (i := 68) rfl))) (by decide) (t := (.object "com/example/valve_per_tenant/valvepertenant/model/Scope")) (t' := (.object "java/lang/String")) (by decide) (by decide))))
  have c80 := (((Fw72.other W74 (Or.inr (slot_ne (Or.inr (hw _ (List.mem_of_getElem? (i := 62) rfl))) (Or.inr (hw _ (List.mem_of_getElem? (i := 64) rfl))) (by decide) (t := (.object "java/lang/String")) (t' := (.object "java/lang/String")) (by decide) (by decide)))).other W76 (Or.inr (slot_ne (Or.inr (hw _ (List.mem_of_getElem? (i := 62) rfl))) (Or.inr (hw _ (List.mem_of_getElem? (i := 66) rfl))) (by decide) (t := (.object "java/lang/String")) (t' := (.object "java/lang/String")) (by decide) (by decide)))).other W78 (Or.inr (slot_ne (Or.inr (hw _ (List.mem_of_getElem? (i := 62) rfl))) (Or.inr (hw _ (List.mem_of_getElem? (i := 68) rfl))) (by decide) (t := (.object "java/lang/String")) (t' := (.object "java/lang/String")) (by decide) (by decide))))
  have c81 := ((Fw74.other W76 (Or.inr (slot_ne (Or.inr (hw _ (List.mem_of_getElem? (i := 64) rfl))) (Or.inr (hw _ (List.mem_of_getElem? (i := 66) rfl))) (by decide) (t := (.object "java/lang/String")) (t' := (.object "java/lang/String")) (by decide) (by decide)))).other W78 (Or.inr (slot_ne (Or.inr (hw _ (List.mem_of_getElem? (i := 64) rfl))) (Or.inr (hw _ (List.mem_of_getElem? (i := 68) rfl))) (by decide) (t := (.object "java/lang/String")) (t' := (.object "java/lang/String")) (by decide) (by decide))))
  have c82 := (Fw76.other W78 (Or.inr (slot_ne (Or.inr (hw _ (List.mem_of_getElem? (i := 66) rfl))) (Or.inr (hw _ (List.mem_of_getElem? (i := 68) rfl))) (by decide) (t := (.object "java/lang/String")) (t' := (.object "java/lang/String")) (by decide) (by decide))))
  refine own_ret X78 (v := none) (fun _ => rfl) Bd.notSynchronized (by decide) (by decide) ?_ (fun fs hr => X78.returnOut hx Bd.returns (hb hby d11_31) hr)
  rw [e78]; exact ⟨rfl, N78, ((((((Keep.refl _ _).wr W70 (Or.inl (List.mem_of_getElem? (i := 0) rfl))).wr W72 (Or.inl (List.mem_of_getElem? (i := 0) rfl))).wr W74 (Or.inl (List.mem_of_getElem? (i := 0) rfl))).wr W76 (Or.inl (List.mem_of_getElem? (i := 0) rfl))).wr W78 (Or.inl (List.mem_of_getElem? (i := 0) rfl))), (((((Et.wr W70).wr W72).wr W74).wr W76).wr W78), c79, c80, c81, c82, Fw78⟩
def Q8rn (Z : State) (sc r0 r1 : Addr) (h0 : Heap) (n0 : Nat) (v : Option Value) (h : Heap) (L : List Loc) : Prop := ∃ a : Addr, v = some (.ref a) ∧ Fr n0 L ∧ Ext h0 h ∧ own_B Z h a (.ref sc) (.ref r0) (.ref r1) .null
theorem ef_rm8rn (m : MethodId) (x0 : Addr) (x1 : Addr) : entryFrame m #[(.ref x0), (.ref x1), .null] 3 = mkF m 0 #[.val (.ref x0), .val (.ref x1), .val .null] [] := by first | (simp [entryFrame, mkF, argsToLocals, Value.category]; done) | rfl
theorem d8_21 : decode prog_25_method_7_code 21 = .ok (.ldc 36, 2) := by decide +kernel
theorem d8_23 : decode prog_25_method_7_code 23 = .ok (.aload_n 1, 1) := by decide +kernel
theorem d8_24 : decode prog_25_method_7_code 24 = .ok (.invokestatic 32, 3) := by decide +kernel
set_option maxRecDepth 65536 in
set_option maxHeartbeats 40000000 in
theorem rm8rn (l : Launch) (Z : State) (a0 : Array Value) (hw : ∀ d ∈ tables_1, d.before a0 Z = true) (ws : List Jvm.Cond) (sc r0 r1 : Addr) (h0 : Heap) (n0 : Nat) (Z0 : n0 ≤ h0.size) (O0 : Old Z n0 h0) (Sc : Sta Z Z.heap "com/example/valve_per_tenant/valvepertenant/model/Scope" "OVERRIDE" "Lcom/example/valve_per_tenant/valvepertenant/model/Scope;" (.ref sc)) (S0 : own_S Z h0 r0) (S1 : own_S Z h0 r1) :
    MetFree l (⟨"com/example/valve_per_tenant/valvepertenant/store/BucketKey", "override", "(Ljava/lang/String;Ljava/lang/String;Ljava/lang/String;)Lcom/example/valve_per_tenant/valvepertenant/store/BucketKey;"⟩ : MethodName) (head1 (Jvm.Cond.code (⟨"com/example/valve_per_tenant/valvepertenant/store/BucketKey", "override", "(Ljava/lang/String;Ljava/lang/String;Ljava/lang/String;)Lcom/example/valve_per_tenant/valvepertenant/store/BucketKey;"⟩ : MethodName) prog_25_method_7_code 3 (some (.object "com/example/valve_per_tenant/valvepertenant/store/BucketKey")) :: ws) ({ frames := 2, cells := 5, slots := 53, locals := 30 } : Room)) (fun aX UX => aX = #[(.ref r0), (.ref r1), .null] ∧ Z.Warmed39 UX.vm ∧ UX.heap = h0) (fun _ _ _ _ _ => True) (fun _ UX oX UX' => ∃ vX LX, oX = .returned vX ∧ Q8rn Z sc r0 r1 h0 n0 vX UX'.heap LX ∧ ReturnedEndW UX oX UX' LX ({ frames := 2, cells := 5, slots := 53, locals := 30 } : Room).cells ({ frames := 2, cells := 5, slots := 53, locals := 30 } : Room).slots) := by
  refine MetFree.of_bodySF (plainFor_of_name pn_com_example_valve_per_tenant_valvepertenant_store_BucketKey) hisR ?_
  intro p e s m args below meth c s₁ Bd hml0 hP hK
  obtain ⟨rfl, hZ, hh⟩ := hP
  have hx := Bd.exec
  have hby := Bd.bytes
  have hml : c.maxLocals = 3 := hml0
  have hown : s.vm.findClass "com/example/valve_per_tenant/valvepertenant/store/BucketKey" = some m.cls := findClass_of_methodNamed Bd.named
  have hnm := (name_of_methodNamed Bd.named Bd.method).1
  have X0 : Stand p l e ({ frames := 2, cells := 5, slots := 53, locals := 30 } : Room) (s.setVm s.vm) m #[(.ref r0), (.ref r1), .null] below meth c s₁ [] 0 0 := Stand.of_body Bd
  have hS : s.Since s.vm 0 := (State.WarmedH.refl s).since 0
  have hk : 0 ≤ h0.size := Nat.zero_le _
  have hZ : Z.Warmed39 (s.setVm s.vm).vm := hZ
  have hown : (s.setVm s.vm).vm.findClass "com/example/valve_per_tenant/valvepertenant/store/BucketKey" = some m.cls := hown
  have e0 : s₁.heap = h0 := by rw [← hh, Bd.state]; rfl
  have N0 := Fr.nil n0
  show own_ComesW p e below s ({ frames := 2, cells := 5, slots := 53, locals := 30 } : Room).cells ({ frames := 2, cells := 5, slots := 53, locals := 30 } : Room).slots (Q8rn Z sc r0 r1 h0 n0) _
  rw [show entryFrame m #[(.ref r0), (.ref r1), .null] 3 = mkF m 0 #[.val (.ref r0), .val (.ref r1), .val .null] [] from ef_rm8rn m r0 r1]
  show own_ComesW p e below s _ _ _ (s₁.setTop (mkF m 0 #[.val (.ref r0), .val (.ref r1), .val .null] []))
  obtain ⟨T83, h83, X83, e83, E83, A83, D83, -, st83⟩ := newO X0 hx hZ hown (hw _ (List.mem_of_getElem? (i := 38) rfl)) (hw _ (List.mem_of_getElem? (i := 39) rfl)) (hw _ (List.mem_of_getElem? (i := 36) rfl)) e0 (g := (mkF m 0 #[.val (.ref r0), .val (.ref r1), .val .null] [])) rfl (hb hby d8_0) (by decide) (by decide)
  obtain ⟨b83, g83⟩ : ∃ z, z = h0.size := ⟨_, rfl⟩
  rw [← g83] at A83 D83 st83
  have g_b83 : n0 ≤ b83 := Nat.le_trans Z0 (Nat.le_of_eq g83.symm)
  refine own_byW st83 ?_
  show own_ComesW p e below s _ _ _ (T83.setTop (mkF m 3 #[.val (.ref r0), .val (.ref r1), .val .null] [(.ref b83)]))
  refine own_byW (fun _ kS => XS.dup X83.here hx rfl (hb hby d8_3) rfl rfl kS) ?_
  show own_ComesW p e below s _ _ _ (T83.setTop (mkF m 4 #[.val (.ref r0), .val (.ref r1), .val .null] [(.ref b83), (.ref b83)]))
  obtain ⟨T84, X84, e84, st84⟩ := getS2 X83 hx hZ hown (host := "") (Or.inl (hw _ (List.mem_of_getElem? (i := 40) rfl))) Via.refl e83 (Sc.ext (O0.ext E83).2) (g := (mkF m 4 #[.val (.ref r0), .val (.ref r1), .val .null] [(.ref b83), (.ref b83)])) rfl (hb hby d8_4)
  refine own_byW st84 ?_
  show own_ComesW p e below s _ _ _ (T84.setTop (mkF m 7 #[.val (.ref r0), .val (.ref r1), .val .null] [(.ref sc), (.ref b83), (.ref b83)]))
  have sz_b83 : h0.size ≤ b83 := Nat.le_trans (Keep.refl h0 []).1 (Nat.le_of_eq g83.symm)
  have wS : ∀ a ∈ Bundle.stringAtoms, a.before a0 Z = true := fun d hd => hw d ((by decide +kernel : ∀ d ∈ Bundle.stringAtoms, d ∈ tables_1) d hd)
  obtain ⟨a85, T85, h85, k85, X85, e85, E85, hS85, hk85, hZ85, hown85, st85⟩ := ldcS X84 hx hZ hown (hw _ (List.mem_of_getElem? (i := 43) rfl)) wS e84 hS (Nat.le_trans hk E83.1) (g := (mkF m 7 #[.val (.ref r0), .val (.ref r1), .val .null] [(.ref sc), (.ref b83), (.ref b83)])) rfl (hb hby d8_7) (n := 24) (by decide) (by decide) (by decide) (by decide)
  refine own_byW st85 ?_
  show own_ComesW p e below s _ _ _ (T85.setTop (mkF m 9 #[.val (.ref r0), .val (.ref r1), .val .null] [(.ref a85), (.ref sc), (.ref b83), (.ref b83)]))
  refine own_byW (fun _ kS => XS.aloadN X85.here hx rfl (hb hby d8_9) rfl rfl kS) ?_
  show own_ComesW p e below s _ _ _ (T85.setTop (mkF m 10 #[.val (.ref r0), .val (.ref r1), .val .null] [(.ref r0), (.ref a85), (.ref sc), (.ref b83), (.ref b83)]))
  obtain ⟨_, _, ⟨T86, L86, k86, n86⟩, -, X86, ⟨Lc86, hQ86, l86, y86, z86⟩, st86⟩ := Jvm.LawKit.callS X85 hx (y := (⟨"com/example/valve_per_tenant/valvepertenant/store/BucketKey", "requireName", "(Ljava/lang/String;Ljava/lang/String;)Ljava/lang/String;"⟩ : MethodName)) hown85 (mvT hZ85 (hw _ (List.mem_of_getElem? (i := 46) rfl))) (mvT hZ85 (hw _ (List.mem_of_getElem? (i := 47) rfl))) (mvT hZ85 (hw _ (List.mem_of_getElem? (i := 36) rfl))) (mvT hZ85 (hw _ (List.mem_of_getElem? (i := 48) rfl))) (by decide) (backOf (W := 3) (rm9 l Z a0 hw [] a85 r0 h85 n0 (Nat.le_trans (Nat.le_trans Z0 E83.1) E85.1) ((S0.ext E83).ext E85)) hZ85 (hw _ (List.mem_of_getElem? (i := 48) rfl)) (hw _ (List.mem_of_getElem? (i := 36) rfl)) (by decide) (by decide)) (g := (mkF m 10 #[.val (.ref r0), .val (.ref r1), .val .null] [(.ref r0), (.ref a85), (.ref sc), (.ref b83), (.ref b83)])) rfl (by rw [hml]; rfl) (argsL := [(.ref a85), (.ref r0)]) (rest := [(.ref sc), (.ref b83), (.ref b83)]) (lenOf pd__Ljava_lang_String_Ljava_lang_String__Ljava_lang_String__184 rfl) rfl (by show 2 * 0 + _ ≤ _; exact Nat.le_of_eq rfl) (hb hby d8_10) (fun _ _ => ⟨rfl, e85, (by decide : 3 + 0 ≤ _), (by decide : 33 + 0 ≤ _)⟩)
  dsimp only [Pt.U, Pt.locs, Pt.cells, Pt.slots] at X86 l86 y86 z86 st86 hQ86
  subst l86 y86 z86
  obtain ⟨rfl, N86q, e86q⟩ := hQ86
  have N86 := Fr.app N0 N86q
  refine own_byW st86 ?_
  have e86 : T86.heap = h85 := e86q
  show own_ComesW p e below s _ _ _ (T86.setTop (mkF m 13 #[.val (.ref r0), .val (.ref r1), .val .null] [(.ref r0), (.ref sc), (.ref b83), (.ref b83)]))
  refine own_byW (fun _ kS => XS.aloadN X86.here hx rfl (hb hby d8_13) rfl rfl kS) ?_
  show own_ComesW p e below s _ _ _ (T86.setTop (mkF m 14 #[.val (.ref r0), .val (.ref r1), .val .null] [(.ref r1), (.ref r0), (.ref sc), (.ref b83), (.ref b83)]))
  refine own_byW (fun _ kS => XS.ifnonnullYes X86.here hx rfl (pc0 := 14) (pc' := 21) rfl (hb hby d8_14) rfl (by decide) (by decide) kS) ?_
  show own_ComesW p e below s _ _ _ (T86.setTop (mkF m 21 #[.val (.ref r0), .val (.ref r1), .val .null] [(.ref r0), (.ref sc), (.ref b83), (.ref b83)]))
  obtain ⟨a87, T87, h87, k87, X87, e87, E87, hS87, hk87, hZ87, hown87, st87⟩ := ldcS X86 hx hZ85 hown85 (hw _ (List.mem_of_getElem? (i := 103) rfl)) wS e86 hS85 hk85 (g := (mkF m 21 #[.val (.ref r0), .val (.ref r1), .val .null] [(.ref r0), (.ref sc), (.ref b83), (.ref b83)])) rfl (hb hby d8_21) (n := 16) (by decide) (by decide) (by decide) (by decide)
  refine own_byW st87 ?_
  show own_ComesW p e below s _ _ _ (T87.setTop (mkF m 23 #[.val (.ref r0), .val (.ref r1), .val .null] [(.ref a87), (.ref r0), (.ref sc), (.ref b83), (.ref b83)]))
  refine own_byW (fun _ kS => XS.aloadN X87.here hx rfl (hb hby d8_23) rfl rfl kS) ?_
  show own_ComesW p e below s _ _ _ (T87.setTop (mkF m 24 #[.val (.ref r0), .val (.ref r1), .val .null] [(.ref r1), (.ref a87), (.ref r0), (.ref sc), (.ref b83), (.ref b83)]))
  obtain ⟨_, _, ⟨T88, L88, k88, n88⟩, -, X88, ⟨Lc88, hQ88, l88, y88, z88⟩, st88⟩ := Jvm.LawKit.callS X87 hx (y := (⟨"com/example/valve_per_tenant/valvepertenant/store/BucketKey", "requireName", "(Ljava/lang/String;Ljava/lang/String;)Ljava/lang/String;"⟩ : MethodName)) hown87 (mvT hZ87 (hw _ (List.mem_of_getElem? (i := 46) rfl))) (mvT hZ87 (hw _ (List.mem_of_getElem? (i := 47) rfl))) (mvT hZ87 (hw _ (List.mem_of_getElem? (i := 36) rfl))) (mvT hZ87 (hw _ (List.mem_of_getElem? (i := 48) rfl))) (by decide) (backOf (W := 4) (rm9 l Z a0 hw [] a87 r1 h87 n0 (Nat.le_trans (Nat.le_trans (Nat.le_trans Z0 E83.1) E85.1) E87.1) (((S1.ext E83).ext E85).ext E87)) hZ87 (hw _ (List.mem_of_getElem? (i := 48) rfl)) (hw _ (List.mem_of_getElem? (i := 36) rfl)) (by decide) (by decide)) (g := (mkF m 24 #[.val (.ref r0), .val (.ref r1), .val .null] [(.ref r1), (.ref a87), (.ref r0), (.ref sc), (.ref b83), (.ref b83)])) rfl (by rw [hml]; rfl) (argsL := [(.ref a87), (.ref r1)]) (rest := [(.ref r0), (.ref sc), (.ref b83), (.ref b83)]) (lenOf pd__Ljava_lang_String_Ljava_lang_String__Ljava_lang_String__184 rfl) rfl (by show 2 * 0 + _ ≤ _; exact Nat.le_of_eq rfl) (hb hby d8_24) (fun _ _ => ⟨rfl, e87, (by decide : 5 + 0 ≤ _), (by decide : 53 + 0 ≤ _)⟩)
  dsimp only [Pt.U, Pt.locs, Pt.cells, Pt.slots] at X88 l88 y88 z88 st88 hQ88
  subst l88 y88 z88
  obtain ⟨rfl, N88q, e88q⟩ := hQ88
  have N88 := Fr.app N86 N88q
  refine own_byW st88 ?_
  have e88 : T88.heap = h87 := e88q
  show own_ComesW p e below s _ _ _ (T88.setTop (mkF m 27 #[.val (.ref r0), .val (.ref r1), .val .null] [(.ref r1), (.ref r0), (.ref sc), (.ref b83), (.ref b83)]))
  refine own_byW (fun _ kS => XS.aconstNull X88.here hx rfl (hb hby d8_27) kS) ?_
  show own_ComesW p e below s _ _ _ (T88.setTop (mkF m 28 #[.val (.ref r0), .val (.ref r1), .val .null] [.null, (.ref r1), (.ref r0), (.ref sc), (.ref b83), (.ref b83)]))
  refine own_byW (fun _ kS => XS.aloadN X88.here hx rfl (hb hby d8_28) rfl rfl kS) ?_
  show own_ComesW p e below s _ _ _ (T88.setTop (mkF m 29 #[.val (.ref r0), .val (.ref r1), .val .null] [.null, .null, (.ref r1), (.ref r0), (.ref sc), (.ref b83), (.ref b83)]))
  refine own_byW (fun _ kS => XS.ifnonnullNo X88.here hx rfl (hb hby d8_29) rfl kS) ?_
  show own_ComesW p e below s _ _ _ (T88.setTop (mkF m 32 #[.val (.ref r0), .val (.ref r1), .val .null] [.null, (.ref r1), (.ref r0), (.ref sc), (.ref b83), (.ref b83)]))
  refine own_byW (fun _ kS => XS.aconstNull X88.here hx rfl (hb hby d8_32) kS) ?_
  show own_ComesW p e below s _ _ _ (T88.setTop (mkF m 33 #[.val (.ref r0), .val (.ref r1), .val .null] [.null, .null, (.ref r1), (.ref r0), (.ref sc), (.ref b83), (.ref b83)]))
  refine own_byW (fun _ kS => XS.goto X88.here hx rfl (pc0 := 33) (pc' := 42) rfl (hb hby d8_33) (by decide) (by decide) kS) ?_
  show own_ComesW p e below s _ _ _ (T88.setTop (mkF m 42 #[.val (.ref r0), .val (.ref r1), .val .null] [.null, .null, (.ref r1), (.ref r0), (.ref sc), (.ref b83), (.ref b83)]))
  have c89 := (((D83 (Or.inr (hw _ (List.mem_of_getElem? (i := 60) rfl))) (ty := (.object "com/example/valve_per_tenant/valvepertenant/model/Scope")) (by decide)).ext E85).ext E87)
  have c90 := (((D83 (Or.inr (hw _ (List.mem_of_getElem? (i := 62) rfl))) (ty := (.object "java/lang/String")) (by decide)).ext E85).ext E87)
  have c91 := (((D83 (Or.inr (hw _ (List.mem_of_getElem? (i := 64) rfl))) (ty := (.object "java/lang/String")) (by decide)).ext E85).ext E87)
  have c92 := (((D83 (Or.inr (hw _ (List.mem_of_getElem? (i := 66) rfl))) (ty := (.object "java/lang/String")) (by decide)).ext E85).ext E87)
  have c93 := (((D83 (Or.inr (hw _ (List.mem_of_getElem? (i := 68) rfl))) (ty := (.object "java/lang/String")) (by decide)).ext E85).ext E87)
  obtain ⟨_, _, ⟨T94, L94, k94, n94⟩, -, X94, ⟨Lc94, hQ94, l94, y94, z94⟩, st94⟩ := X88.specialBack hx (y := (⟨"com/example/valve_per_tenant/valvepertenant/store/BucketKey", "<init>", "(Lcom/example/valve_per_tenant/valvepertenant/model/Scope;Ljava/lang/String;Ljava/lang/String;Ljava/lang/String;Ljava/lang/String;)V"⟩ : MethodName)) rfl hown87 (mvT hZ87 (hw _ (List.mem_of_getElem? (i := 55) rfl))) (mvT hZ87 (hw _ (List.mem_of_getElem? (i := 56) rfl))) (mvT hZ87 (hw _ (List.mem_of_getElem? (i := 57) rfl))) (by decide) (backOf (W := 1) (rm11rn l Z a0 hw [] b83 sc r0 r1 h87 n0 (Nat.le_trans (Nat.le_trans (Nat.le_trans Z0 E83.1) E85.1) E87.1) ((A83.ext E85).ext E87) c89 c90 c91 c92 c93 g_b83) hZ87 (hw _ (List.mem_of_getElem? (i := 57) rfl)) (hw _ (List.mem_of_getElem? (i := 36) rfl)) (by decide) (by decide)) (g := (mkF m 42 #[.val (.ref r0), .val (.ref r1), .val .null] [.null, .null, (.ref r1), (.ref r0), (.ref sc), (.ref b83), (.ref b83)])) rfl (by rw [hml]; rfl) (Steps.refl _) (a := b83) (argsL := [(.ref sc), (.ref r0), (.ref r1), .null, .null]) (rest := [(.ref b83)]) (lenOf pd__Lcom_example_valve_per_tenant_valvepertenant_model_Scope_Ljava_lang_String_Ljava_lang_String_Ljava_lang_String_Ljava_lang_String__V_687 rfl) rfl (by show 2 * 0 + _ ≤ _; exact Nat.le_of_eq rfl) (hb hby d8_42) (fun _ _ => ⟨rfl, e88, (by decide : 5 + 0 ≤ _), (by decide : 53 + 0 ≤ _)⟩)
  dsimp only [Pt.U, Pt.locs, Pt.cells, Pt.slots] at X94 l94 y94 z94 st94 hQ94
  subst l94 y94 z94
  obtain ⟨rfl, N94q, K94, B94⟩ := hQ94
  have N94 := Fr.app N88 N94q
  refine own_trW st94 ?_
  show own_ComesW p e below s _ _ _ (T94.setTop (mkF m 45 #[.val (.ref r0), .val (.ref r1), .val .null] [(.ref b83)]))
  have hkr95 := (Nat.le_trans hk87 K94.1)
  refine own_retW X94 hS87 hkr95 (v := some (.ref b83)) (fun h => by rw [Bd.returns] at h; cases h) Bd.notSynchronized (by decide) (by decide) ?_ (fun fs hr => own_reta X94 hx Bd.returns rfl rfl (hb hby d8_45) hr)
  exact ⟨_, rfl, N94, own_ext (((((Keep.refl _ _).ext E83).ext E85).ext E87).trans K94 (allS (Or.inr sz_b83) all0)), B94⟩
def Q11rr (Z : State) (r0 r1 r2 r3 r5 : Addr) (h0 : Heap) (n0 : Nat) (v : Option Value) (h : Heap) (L : List Loc) : Prop := v = none ∧ Fr n0 L ∧ Keep h0 h [r0] ∧ own_B Z h r0 (.ref r1) (.ref r2) (.ref r3) (.ref r5)
theorem ef_rm11rr (m : MethodId) (x0 : Addr) (x1 : Addr) (x2 : Addr) (x3 : Addr) (x5 : Addr) : entryFrame m #[(.ref x0), (.ref x1), (.ref x2), (.ref x3), .null, (.ref x5)] 6 = mkF m 0 #[.val (.ref x0), .val (.ref x1), .val (.ref x2), .val (.ref x3), .val .null, .val (.ref x5)] [] := by first | (simp [entryFrame, mkF, argsToLocals, Value.category]; done) | rfl
set_option maxRecDepth 65536 in
set_option maxHeartbeats 40000000 in
theorem rm11rr (l : Launch) (Z : State) (a0 : Array Value) (hw : ∀ d ∈ tables_1, d.before a0 Z = true) (ws : List Jvm.Cond) (r0 r1 r2 r3 r5 : Addr) (h0 : Heap) (n0 : Nat) (Z0 : n0 ≤ h0.size) (Et : Exa Z h0 r0 "com/example/valve_per_tenant/valvepertenant/store/BucketKey") (G_scope : Fld Z h0 r0 "com/example/valve_per_tenant/valvepertenant/store/BucketKey" "scope" "Lcom/example/valve_per_tenant/valvepertenant/model/Scope;" .null) (G_tenant : Fld Z h0 r0 "com/example/valve_per_tenant/valvepertenant/store/BucketKey" "tenant" "Ljava/lang/String;" .null) (G_user : Fld Z h0 r0 "com/example/valve_per_tenant/valvepertenant/store/BucketKey" "user" "Ljava/lang/String;" .null) (G_address : Fld Z h0 r0 "com/example/valve_per_tenant/valvepertenant/store/BucketKey" "address" "Ljava/lang/String;" .null) (G_endpoint : Fld Z h0 r0 "com/example/valve_per_tenant/valvepertenant/store/BucketKey" "endpoint" "Ljava/lang/String;" .null) (g_r0 : n0 ≤ r0) :
    MetFree l (⟨"com/example/valve_per_tenant/valvepertenant/store/BucketKey", "<init>", "(Lcom/example/valve_per_tenant/valvepertenant/model/Scope;Ljava/lang/String;Ljava/lang/String;Ljava/lang/String;Ljava/lang/String;)V"⟩ : MethodName) (head1 (Jvm.Cond.code (⟨"com/example/valve_per_tenant/valvepertenant/store/BucketKey", "<init>", "(Lcom/example/valve_per_tenant/valvepertenant/model/Scope;Ljava/lang/String;Ljava/lang/String;Ljava/lang/String;Ljava/lang/String;)V"⟩ : MethodName) prog_25_method_1_code 6 none :: ws) ({ frames := 1, cells := 0, slots := 0, locals := 12 } : Room)) (fun aX UX => aX = #[(.ref r0), (.ref r1), (.ref r2), (.ref r3), .null, (.ref r5)] ∧ Z.Warmed39 UX.vm ∧ UX.heap = h0) (fun _ _ _ _ _ => True) (fun _ UX oX UX' => ∃ vX LX, oX = .returned vX ∧ Q11rr Z r0 r1 r2 r3 r5 h0 n0 vX UX'.heap LX ∧ FrameEnd UX oX UX' LX ({ frames := 1, cells := 0, slots := 0, locals := 12 } : Room).cells ({ frames := 1, cells := 0, slots := 0, locals := 12 } : Room).slots) := by
  refine MetFree.of_bodySF (plainFor_of_name pn_com_example_valve_per_tenant_valvepertenant_store_BucketKey) hisR ?_
  intro p e s m args below meth c s₁ Bd hml0 hP hK
  obtain ⟨rfl, hZ, hh⟩ := hP
  have hx := Bd.exec
  have hby := Bd.bytes
  have hml : c.maxLocals = 6 := hml0
  have hown : s.vm.findClass "com/example/valve_per_tenant/valvepertenant/store/BucketKey" = some m.cls := findClass_of_methodNamed Bd.named
  have hnm := (name_of_methodNamed Bd.named Bd.method).1
  have X0 : Stand p l e ({ frames := 1, cells := 0, slots := 0, locals := 12 } : Room) s m #[(.ref r0), (.ref r1), (.ref r2), (.ref r3), .null, (.ref r5)] below meth c s₁ [] 0 0 := Stand.of_body Bd
  have e0 : s₁.heap = h0 := by rw [← hh, Bd.state]; rfl
  have N0 := Fr.nil n0
  show own_Comes p e below s ({ frames := 1, cells := 0, slots := 0, locals := 12 } : Room).cells ({ frames := 1, cells := 0, slots := 0, locals := 12 } : Room).slots (Q11rr Z r0 r1 r2 r3 r5 h0 n0) _
  rw [show entryFrame m #[(.ref r0), (.ref r1), (.ref r2), (.ref r3), .null, (.ref r5)] 6 = mkF m 0 #[.val (.ref r0), .val (.ref r1), .val (.ref r2), .val (.ref r3), .val .null, .val (.ref r5)] [] from ef_rm11rr m r0 r1 r2 r3 r5]
  show own_Comes p e below s _ _ _ (s₁.setTop (mkF m 0 #[.val (.ref r0), .val (.ref r1), .val (.ref r2), .val (.ref r3), .val .null, .val (.ref r5)] []))
  refine own_by (fun _ kS => XS.aloadN X0.here hx rfl (hb hby d11_0) rfl rfl kS) ?_
  show own_Comes p e below s _ _ _ (s₁.setTop (mkF m 1 #[.val (.ref r0), .val (.ref r1), .val (.ref r2), .val (.ref r3), .val .null, .val (.ref r5)] [(.ref r0)]))
  obtain ⟨T96, X96, e96, st96⟩ := initO X0 hx hZ hown (hw _ (List.mem_of_getElem? (i := 58) rfl)) (hw _ (List.mem_of_getElem? (i := 16) rfl)) (hw _ (List.mem_of_getElem? (i := 17) rfl)) e0 (g := (mkF m 1 #[.val (.ref r0), .val (.ref r1), .val (.ref r2), .val (.ref r3), .val .null, .val (.ref r5)] [(.ref r0)])) rfl (by rw [hml]; rfl) rfl (hb hby d11_1) (by decide) (W := 0) (by show 2 * 0 + _ ≤ _; exact Nat.le_of_eq rfl) (by decide)
  refine own_by st96 ?_
  show own_Comes p e below s _ _ _ (T96.setTop (mkF m 4 #[.val (.ref r0), .val (.ref r1), .val (.ref r2), .val (.ref r3), .val .null, .val (.ref r5)] []))
  refine own_by (fun _ kS => XS.aloadN X96.here hx rfl (hb hby d11_4) rfl rfl kS) ?_
  show own_Comes p e below s _ _ _ (T96.setTop (mkF m 5 #[.val (.ref r0), .val (.ref r1), .val (.ref r2), .val (.ref r3), .val .null, .val (.ref r5)] [(.ref r0)]))
  refine own_by (fun _ kS => XS.aloadN X96.here hx rfl (hb hby d11_5) rfl rfl kS) ?_
  show own_Comes p e below s _ _ _ (T96.setTop (mkF m 6 #[.val (.ref r0), .val (.ref r1), .val (.ref r2), .val (.ref r3), .val .null, .val (.ref r5)] [(.ref r1), (.ref r0)]))
  obtain ⟨T97, h97, X97, e97, W97, st97⟩ := putF X96 hx hZ hown (host := "") (Or.inl (hw _ (List.mem_of_getElem? (i := 59) rfl))) Via.refl e96 G_scope Et (Or.inr ⟨(hw _ (List.mem_of_getElem? (i := 60) rfl)), rfl, hnm⟩) (hw _ (List.mem_of_getElem? (i := 39) rfl)) (ty := (.object "com/example/valve_per_tenant/valvepertenant/model/Scope")) (by decide) rfl rfl (g := (mkF m 6 #[.val (.ref r0), .val (.ref r1), .val (.ref r2), .val (.ref r3), .val .null, .val (.ref r5)] [(.ref r1), (.ref r0)])) rfl rfl (hb hby d11_6)
  refine own_by st97 ?_
  have Fw97 := G_scope.same W97
  have N97 := Fr.snoc X97 N0 g_r0
  show own_Comes p e below s _ _ _ (T97.setTop (mkF m 9 #[.val (.ref r0), .val (.ref r1), .val (.ref r2), .val (.ref r3), .val .null, .val (.ref r5)] []))
  refine own_by (fun _ kS => XS.aloadN X97.here hx rfl (hb hby d11_9) rfl rfl kS) ?_
  show own_Comes p e below s _ _ _ (T97.setTop (mkF m 10 #[.val (.ref r0), .val (.ref r1), .val (.ref r2), .val (.ref r3), .val .null, .val (.ref r5)] [(.ref r0)]))
  refine own_by (fun _ kS => XS.aloadN X97.here hx rfl (hb hby d11_10) rfl rfl kS) ?_
  show own_Comes p e below s _ _ _ (T97.setTop (mkF m 11 #[.val (.ref r0), .val (.ref r1), .val (.ref r2), .val (.ref r3), .val .null, .val (.ref r5)] [(.ref r2), (.ref r0)]))
  have c98 := (G_tenant.other W97 (Or.inr (slot_ne (Or.inr (hw _ (List.mem_of_getElem? (i := 62) rfl))) (Or.inr (hw _ (List.mem_of_getElem? (i := 60) rfl))) (by decide) (t := (.object "java/lang/String")) (t' := (.object "com/example/valve_per_tenant/valvepertenant/model/Scope")) (by decide) (by decide))))
  obtain ⟨T99, h99, X99, e99, W99, st99⟩ := putF X97 hx hZ hown (host := "") (Or.inl (hw _ (List.mem_of_getElem? (i := 61) rfl))) Via.refl e97 c98 (Et.wr W97) (Or.inr ⟨(hw _ (List.mem_of_getElem? (i := 62) rfl)), rfl, hnm⟩) (hw _ (List.mem_of_getElem? (i := 39) rfl)) (ty := (.object "java/lang/String")) (by decide) rfl rfl (g := (mkF m 11 #[.val (.ref r0), .val (.ref r1), .val (.ref r2), .val (.ref r3), .val .null, .val (.ref r5)] [(.ref r2), (.ref r0)])) rfl rfl (hb hby d11_11)
  refine own_by st99 ?_
  have Fw99 := c98.same W99
  have N99 := Fr.snoc X99 N97 g_r0
  show own_Comes p e below s _ _ _ (T99.setTop (mkF m 14 #[.val (.ref r0), .val (.ref r1), .val (.ref r2), .val (.ref r3), .val .null, .val (.ref r5)] []))
  refine own_by (fun _ kS => XS.aloadN X99.here hx rfl (hb hby d11_14) rfl rfl kS) ?_
  show own_Comes p e below s _ _ _ (T99.setTop (mkF m 15 #[.val (.ref r0), .val (.ref r1), .val (.ref r2), .val (.ref r3), .val .null, .val (.ref r5)] [(.ref r0)]))
  refine own_by (fun _ kS => XS.aloadN X99.here hx rfl (hb hby d11_15) rfl rfl kS) ?_
  show own_Comes p e below s _ _ _ (T99.setTop (mkF m 16 #[.val (.ref r0), .val (.ref r1), .val (.ref r2), .val (.ref r3), .val .null, .val (.ref r5)] [(.ref r3), (.ref r0)]))
  have c100 := ((G_user.other W97 (Or.inr (slot_ne (Or.inr (hw _ (List.mem_of_getElem? (i := 64) rfl))) (Or.inr (hw _ (List.mem_of_getElem? (i := 60) rfl))) (by decide) (t := (.object "java/lang/String")) (t' := (.object "com/example/valve_per_tenant/valvepertenant/model/Scope")) (by decide) (by decide)))).other W99 (Or.inr (slot_ne (Or.inr (hw _ (List.mem_of_getElem? (i := 64) rfl))) (Or.inr (hw _ (List.mem_of_getElem? (i := 62) rfl))) (by decide) (t := (.object "java/lang/String")) (t' := (.object "java/lang/String")) (by decide) (by decide))))
  obtain ⟨T101, h101, X101, e101, W101, st101⟩ := putF X99 hx hZ hown (host := "") (Or.inl (hw _ (List.mem_of_getElem? (i := 63) rfl))) Via.refl e99 c100 ((Et.wr W97).wr W99) (Or.inr ⟨(hw _ (List.mem_of_getElem? (i := 64) rfl)), rfl, hnm⟩) (hw _ (List.mem_of_getElem? (i := 39) rfl)) (ty := (.object "java/lang/String")) (by decide) rfl rfl (g := (mkF m 16 #[.val (.ref r0), .val (.ref r1), .val (.ref r2), .val (.ref r3), .val .null, .val (.ref r5)] [(.ref r3), (.ref r0)])) rfl rfl (hb hby d11_16)
  refine own_by st101 ?_
  have Fw101 := c100.same W101
  have N101 := Fr.snoc X101 N99 g_r0
  show own_Comes p e below s _ _ _ (T101.setTop (mkF m 19 #[.val (.ref r0), .val (.ref r1), .val (.ref r2), .val (.ref r3), .val .null, .val (.ref r5)] []))
  refine own_by (fun _ kS => XS.aloadN X101.here hx rfl (hb hby d11_19) rfl rfl kS) ?_
  show own_Comes p e below s _ _ _ (T101.setTop (mkF m 20 #[.val (.ref r0), .val (.ref r1), .val (.ref r2), .val (.ref r3), .val .null, .val (.ref r5)] [(.ref r0)]))
  refine own_by (fun _ kS => XS.aload X101.here hx rfl (hb hby d11_20) rfl rfl kS) ?_
  show own_Comes p e below s _ _ _ (T101.setTop (mkF m 22 #[.val (.ref r0), .val (.ref r1), .val (.ref r2), .val (.ref r3), .val .null, .val (.ref r5)] [.null, (.ref r0)]))
  have c102 := (((G_address.other W97 (Or.inr (slot_ne (Or.inr (hw _ (List.mem_of_getElem? (i := 66) rfl))) (Or.inr (hw _ (List.mem_of_getElem? (i := 60) rfl))) (by decide) (t := (.object "java/lang/String")) (t' := (.object "com/example/valve_per_tenant/valvepertenant/model/Scope")) (by decide) (by decide)))).other W99 (Or.inr (slot_ne (Or.inr (hw _ (List.mem_of_getElem? (i := 66) rfl))) (Or.inr (hw _ (List.mem_of_getElem? (i := 62) rfl))) (by decide) (t := (.object "java/lang/String")) (t' := (.object "java/lang/String")) (by decide) (by decide)))).other W101 (Or.inr (slot_ne (Or.inr (hw _ (List.mem_of_getElem? (i := 66) rfl))) (Or.inr (hw _ (List.mem_of_getElem? (i := 64) rfl))) (by decide) (t := (.object "java/lang/String")) (t' := (.object "java/lang/String")) (by decide) (by decide))))
  obtain ⟨T103, h103, X103, e103, W103, st103⟩ := putF X101 hx hZ hown (host := "") (Or.inl (hw _ (List.mem_of_getElem? (i := 65) rfl))) Via.refl e101 c102 (((Et.wr W97).wr W99).wr W101) (Or.inr ⟨(hw _ (List.mem_of_getElem? (i := 66) rfl)), rfl, hnm⟩) (hw _ (List.mem_of_getElem? (i := 39) rfl)) (ty := (.object "java/lang/String")) (by decide) rfl rfl (g := (mkF m 22 #[.val (.ref r0), .val (.ref r1), .val (.ref r2), .val (.ref r3), .val .null, .val (.ref r5)] [.null, (.ref r0)])) rfl rfl (hb hby d11_22)
  refine own_by st103 ?_
  have Fw103 := c102.same W103
  have N103 := Fr.snoc X103 N101 g_r0
  show own_Comes p e below s _ _ _ (T103.setTop (mkF m 25 #[.val (.ref r0), .val (.ref r1), .val (.ref r2), .val (.ref r3), .val .null, .val (.ref r5)] []))
  refine own_by (fun _ kS => XS.aloadN X103.here hx rfl (hb hby d11_25) rfl rfl kS) ?_
  show own_Comes p e below s _ _ _ (T103.setTop (mkF m 26 #[.val (.ref r0), .val (.ref r1), .val (.ref r2), .val (.ref r3), .val .null, .val (.ref r5)] [(.ref r0)]))
  refine own_by (fun _ kS => XS.aload X103.here hx rfl (hb hby d11_26) rfl rfl kS) ?_
  show own_Comes p e below s _ _ _ (T103.setTop (mkF m 28 #[.val (.ref r0), .val (.ref r1), .val (.ref r2), .val (.ref r3), .val .null, .val (.ref r5)] [(.ref r5), (.ref r0)]))
  have c104 := ((((G_endpoint.other W97 (Or.inr (slot_ne (Or.inr (hw _ (List.mem_of_getElem? (i := 68) rfl))) (Or.inr (hw _ (List.mem_of_getElem? (i := 60) rfl))) (by decide) (t := (.object "java/lang/String")) (t' := (.object "com/example/valve_per_tenant/valvepertenant/model/Scope")) (by decide) (by decide)))).other W99 (Or.inr (slot_ne (Or.inr (hw _ (List.mem_of_getElem? (i := 68) rfl))) (Or.inr (hw _ (List.mem_of_getElem? (i := 62) rfl))) (by decide) (t := (.object "java/lang/String")) (t' := (.object "java/lang/String")) (by decide) (by decide)))).other W101 (Or.inr (slot_ne (Or.inr (hw _ (List.mem_of_getElem? (i := 68) rfl))) (Or.inr (hw _ (List.mem_of_getElem? (i := 64) rfl))) (by decide) (t := (.object "java/lang/String")) (t' := (.object "java/lang/String")) (by decide) (by decide)))).other W103 (Or.inr (slot_ne (Or.inr (hw _ (List.mem_of_getElem? (i := 68) rfl))) (Or.inr (hw _ (List.mem_of_getElem? (i := 66) rfl))) (by decide) (t := (.object "java/lang/String")) (t' := (.object "java/lang/String")) (by decide) (by decide))))
  obtain ⟨T105, h105, X105, e105, W105, st105⟩ := putF X103 hx hZ hown (host := "") (Or.inl (hw _ (List.mem_of_getElem? (i := 67) rfl))) Via.refl e103 c104 ((((Et.wr W97).wr W99).wr W101).wr W103) (Or.inr ⟨(hw _ (List.mem_of_getElem? (i := 68) rfl)), rfl, hnm⟩) (hw _ (List.mem_of_getElem? (i := 39) rfl)) (ty := (.object "java/lang/String")) (by decide) rfl rfl (g := (mkF m 28 #[.val (.ref r0), .val (.ref r1), .val (.ref r2), .val (.ref r3), .val .null, .val (.ref r5)] [(.ref r5), (.ref r0)])) rfl rfl (hb hby d11_28)
  refine own_by st105 ?_
  have Fw105 := c104.same W105
  have N105 := Fr.snoc X105 N103 g_r0
  show own_Comes p e below s _ _ _ (T105.setTop (mkF m 31 #[.val (.ref r0), .val (.ref r1), .val (.ref r2), .val (.ref r3), .val .null, .val (.ref r5)] []))
  have c106 := ((((Fw97.other W99 (Or.inr (slot_ne (Or.inr (hw _ (List.mem_of_getElem? (i := 60) rfl))) (Or.inr (hw _ (List.mem_of_getElem? (i := 62) rfl))) (by decide) (t := (.object "com/example/valve_per_tenant/valvepertenant/model/Scope")) (t' := (.object "java/lang/String")) (by decide) (by decide)))).other W101 (Or.inr (slot_ne (Or.inr (hw _ (List.mem_of_getElem? (i := 60) rfl))) (Or.inr (hw _ (List.mem_of_getElem? (i := 64) rfl))) (by decide) (t := (.object "com/example/valve_per_tenant/valvepertenant/model/Scope")) (t' := (.object "java/lang/String")) (by decide) (by decide)))).other W103 (Or.inr (slot_ne (Or.inr (hw _ (List.mem_of_getElem? (i := 60) rfl))) (Or.inr (hw _ (List.mem_of_getElem? (i := 66) rfl))) (by decide) (t := (.object "com/example/valve_per_tenant/valvepertenant/model/Scope")) (t' := (.object "java/lang/String")) (by decide) (by decide)))).other W105 (Or.inr (slot_ne (Or.inr (hw _ (List.mem_of_getElem? (i := 60) rfl))) (Or.inr (hw _ (List.mem_of_getElem? (i := 68) rfl))) (by decide) (t := (.object "com/example/valve_per_tenant/valvepertenant/model/Scope")) (t' := (.object "java/lang/String")) (by decide) (by decide))))
  have c107 := (((Fw99.other W101 (Or.inr (slot_ne (Or.inr (hw _ (List.mem_of_getElem? (i := 62) rfl))) (Or.inr (hw _ (List.mem_of_getElem? (i := 64) rfl))) (by decide) (t := (.object "java/lang/String")) (t' := (.object "java/lang/String")) (by decide) (by decide)))).other W103 (Or.inr (slot_ne (Or.inr (hw _ (List.mem_of_getElem? (i := 62) rfl))) (Or.inr (hw _ (List.mem_of_getElem? (i := 66) rfl))) (by decide) (t := (.object "java/lang/String")) (t' := (.object "java/lang/String")) (by decide) (by decide)))).other W105 (Or.inr (slot_ne (Or.inr (hw _ (List.mem_of_getElem? (i := 62) rfl))) (Or.inr (hw _ (List.mem_of_getElem? (i := 68) rfl))) (by decide) (t := (.object "java/lang/String")) (t' := (.object "java/lang/String")) (by decide) (by decide))))
  have c108 := ((Fw101.other W103 (Or.inr (slot_ne (Or.inr (hw _ (List.mem_of_getElem? (i := 64) rfl))) (Or.inr (hw _ (List.mem_of_getElem? (i := 66) rfl))) (by decide) (t := (.object "java/lang/String")) (t' := (.object "java/lang/String")) (by decide) (by decide)))).other W105 (Or.inr (slot_ne (Or.inr (hw _ (List.mem_of_getElem? (i := 64) rfl))) (Or.inr (hw _ (List.mem_of_getElem? (i := 68) rfl))) (by decide) (t := (.object "java/lang/String")) (t' := (.object "java/lang/String")) (by decide) (by decide))))
  have c109 := (Fw103.other W105 (Or.inr (slot_ne (Or.inr (hw _ (List.mem_of_getElem? (i := 66) rfl))) (Or.inr (hw _ (List.mem_of_getElem? (i := 68) rfl))) (by decide) (t := (.object "java/lang/String")) (t' := (.object "java/lang/String")) (by decide) (by decide))))
  refine own_ret X105 (v := none) (fun _ => rfl) Bd.notSynchronized (by decide) (by decide) ?_ (fun fs hr => X105.returnOut hx Bd.returns (hb hby d11_31) hr)
  rw [e105]; exact ⟨rfl, N105, ((((((Keep.refl _ _).wr W97 (Or.inl (List.mem_of_getElem? (i := 0) rfl))).wr W99 (Or.inl (List.mem_of_getElem? (i := 0) rfl))).wr W101 (Or.inl (List.mem_of_getElem? (i := 0) rfl))).wr W103 (Or.inl (List.mem_of_getElem? (i := 0) rfl))).wr W105 (Or.inl (List.mem_of_getElem? (i := 0) rfl))), (((((Et.wr W97).wr W99).wr W101).wr W103).wr W105), c106, c107, c108, c109, Fw105⟩
def Q8rr (Z : State) (sc r0 r1 r2 : Addr) (h0 : Heap) (n0 : Nat) (v : Option Value) (h : Heap) (L : List Loc) : Prop := ∃ a : Addr, v = some (.ref a) ∧ Fr n0 L ∧ Ext h0 h ∧ own_B Z h a (.ref sc) (.ref r0) (.ref r1) (.ref r2)
theorem ef_rm8rr (m : MethodId) (x0 : Addr) (x1 : Addr) (x2 : Addr) : entryFrame m #[(.ref x0), (.ref x1), (.ref x2)] 3 = mkF m 0 #[.val (.ref x0), .val (.ref x1), .val (.ref x2)] [] := by first | (simp [entryFrame, mkF, argsToLocals, Value.category]; done) | rfl
set_option maxRecDepth 65536 in
set_option maxHeartbeats 40000000 in
theorem rm8rr (l : Launch) (Z : State) (a0 : Array Value) (hw : ∀ d ∈ tables_1, d.before a0 Z = true) (ws : List Jvm.Cond) (sc r0 r1 r2 : Addr) (h0 : Heap) (n0 : Nat) (Z0 : n0 ≤ h0.size) (O0 : Old Z n0 h0) (Sc : Sta Z Z.heap "com/example/valve_per_tenant/valvepertenant/model/Scope" "OVERRIDE" "Lcom/example/valve_per_tenant/valvepertenant/model/Scope;" (.ref sc)) (S0 : own_S Z h0 r0) (S1 : own_S Z h0 r1) (S2 : own_S Z h0 r2) :
    MetFree l (⟨"com/example/valve_per_tenant/valvepertenant/store/BucketKey", "override", "(Ljava/lang/String;Ljava/lang/String;Ljava/lang/String;)Lcom/example/valve_per_tenant/valvepertenant/store/BucketKey;"⟩ : MethodName) (head1 (Jvm.Cond.code (⟨"com/example/valve_per_tenant/valvepertenant/store/BucketKey", "override", "(Ljava/lang/String;Ljava/lang/String;Ljava/lang/String;)Lcom/example/valve_per_tenant/valvepertenant/store/BucketKey;"⟩ : MethodName) prog_25_method_7_code 3 (some (.object "com/example/valve_per_tenant/valvepertenant/store/BucketKey")) :: ws) ({ frames := 2, cells := 7, slots := 89, locals := 31 } : Room)) (fun aX UX => aX = #[(.ref r0), (.ref r1), (.ref r2)] ∧ Z.Warmed39 UX.vm ∧ UX.heap = h0) (fun _ _ _ _ _ => True) (fun _ UX oX UX' => ∃ vX LX, oX = .returned vX ∧ Q8rr Z sc r0 r1 r2 h0 n0 vX UX'.heap LX ∧ ReturnedEndW UX oX UX' LX ({ frames := 2, cells := 7, slots := 89, locals := 31 } : Room).cells ({ frames := 2, cells := 7, slots := 89, locals := 31 } : Room).slots) := by
  refine MetFree.of_bodySF (plainFor_of_name pn_com_example_valve_per_tenant_valvepertenant_store_BucketKey) hisR ?_
  intro p e s m args below meth c s₁ Bd hml0 hP hK
  obtain ⟨rfl, hZ, hh⟩ := hP
  have hx := Bd.exec
  have hby := Bd.bytes
  have hml : c.maxLocals = 3 := hml0
  have hown : s.vm.findClass "com/example/valve_per_tenant/valvepertenant/store/BucketKey" = some m.cls := findClass_of_methodNamed Bd.named
  have hnm := (name_of_methodNamed Bd.named Bd.method).1
  have X0 : Stand p l e ({ frames := 2, cells := 7, slots := 89, locals := 31 } : Room) (s.setVm s.vm) m #[(.ref r0), (.ref r1), (.ref r2)] below meth c s₁ [] 0 0 := Stand.of_body Bd
  have hS : s.Since s.vm 0 := (State.WarmedH.refl s).since 0
  have hk : 0 ≤ h0.size := Nat.zero_le _
  have hZ : Z.Warmed39 (s.setVm s.vm).vm := hZ
  have hown : (s.setVm s.vm).vm.findClass "com/example/valve_per_tenant/valvepertenant/store/BucketKey" = some m.cls := hown
  have e0 : s₁.heap = h0 := by rw [← hh, Bd.state]; rfl
  have N0 := Fr.nil n0
  show own_ComesW p e below s ({ frames := 2, cells := 7, slots := 89, locals := 31 } : Room).cells ({ frames := 2, cells := 7, slots := 89, locals := 31 } : Room).slots (Q8rr Z sc r0 r1 r2 h0 n0) _
  rw [show entryFrame m #[(.ref r0), (.ref r1), (.ref r2)] 3 = mkF m 0 #[.val (.ref r0), .val (.ref r1), .val (.ref r2)] [] from ef_rm8rr m r0 r1 r2]
  show own_ComesW p e below s _ _ _ (s₁.setTop (mkF m 0 #[.val (.ref r0), .val (.ref r1), .val (.ref r2)] []))
  obtain ⟨T110, h110, X110, e110, E110, A110, D110, -, st110⟩ := newO X0 hx hZ hown (hw _ (List.mem_of_getElem? (i := 38) rfl)) (hw _ (List.mem_of_getElem? (i := 39) rfl)) (hw _ (List.mem_of_getElem? (i := 36) rfl)) e0 (g := (mkF m 0 #[.val (.ref r0), .val (.ref r1), .val (.ref r2)] [])) rfl (hb hby d8_0) (by decide) (by decide)
  obtain ⟨b110, g110⟩ : ∃ z, z = h0.size := ⟨_, rfl⟩
  rw [← g110] at A110 D110 st110
  have g_b110 : n0 ≤ b110 := Nat.le_trans Z0 (Nat.le_of_eq g110.symm)
  refine own_byW st110 ?_
  show own_ComesW p e below s _ _ _ (T110.setTop (mkF m 3 #[.val (.ref r0), .val (.ref r1), .val (.ref r2)] [(.ref b110)]))
  refine own_byW (fun _ kS => XS.dup X110.here hx rfl (hb hby d8_3) rfl rfl kS) ?_
  show own_ComesW p e below s _ _ _ (T110.setTop (mkF m 4 #[.val (.ref r0), .val (.ref r1), .val (.ref r2)] [(.ref b110), (.ref b110)]))
  obtain ⟨T111, X111, e111, st111⟩ := getS2 X110 hx hZ hown (host := "") (Or.inl (hw _ (List.mem_of_getElem? (i := 40) rfl))) Via.refl e110 (Sc.ext (O0.ext E110).2) (g := (mkF m 4 #[.val (.ref r0), .val (.ref r1), .val (.ref r2)] [(.ref b110), (.ref b110)])) rfl (hb hby d8_4)
  refine own_byW st111 ?_
  show own_ComesW p e below s _ _ _ (T111.setTop (mkF m 7 #[.val (.ref r0), .val (.ref r1), .val (.ref r2)] [(.ref sc), (.ref b110), (.ref b110)]))
  have sz_b110 : h0.size ≤ b110 := Nat.le_trans (Keep.refl h0 []).1 (Nat.le_of_eq g110.symm)
  have wS : ∀ a ∈ Bundle.stringAtoms, a.before a0 Z = true := fun d hd => hw d ((by decide +kernel : ∀ d ∈ Bundle.stringAtoms, d ∈ tables_1) d hd)
  obtain ⟨a112, T112, h112, k112, X112, e112, E112, hS112, hk112, hZ112, hown112, st112⟩ := ldcS X111 hx hZ hown (hw _ (List.mem_of_getElem? (i := 43) rfl)) wS e111 hS (Nat.le_trans hk E110.1) (g := (mkF m 7 #[.val (.ref r0), .val (.ref r1), .val (.ref r2)] [(.ref sc), (.ref b110), (.ref b110)])) rfl (hb hby d8_7) (n := 24) (by decide) (by decide) (by decide) (by decide)
  refine own_byW st112 ?_
  show own_ComesW p e below s _ _ _ (T112.setTop (mkF m 9 #[.val (.ref r0), .val (.ref r1), .val (.ref r2)] [(.ref a112), (.ref sc), (.ref b110), (.ref b110)]))
  refine own_byW (fun _ kS => XS.aloadN X112.here hx rfl (hb hby d8_9) rfl rfl kS) ?_
  show own_ComesW p e below s _ _ _ (T112.setTop (mkF m 10 #[.val (.ref r0), .val (.ref r1), .val (.ref r2)] [(.ref r0), (.ref a112), (.ref sc), (.ref b110), (.ref b110)]))
  obtain ⟨_, _, ⟨T113, L113, k113, n113⟩, -, X113, ⟨Lc113, hQ113, l113, y113, z113⟩, st113⟩ := Jvm.LawKit.callS X112 hx (y := (⟨"com/example/valve_per_tenant/valvepertenant/store/BucketKey", "requireName", "(Ljava/lang/String;Ljava/lang/String;)Ljava/lang/String;"⟩ : MethodName)) hown112 (mvT hZ112 (hw _ (List.mem_of_getElem? (i := 46) rfl))) (mvT hZ112 (hw _ (List.mem_of_getElem? (i := 47) rfl))) (mvT hZ112 (hw _ (List.mem_of_getElem? (i := 36) rfl))) (mvT hZ112 (hw _ (List.mem_of_getElem? (i := 48) rfl))) (by decide) (backOf (W := 3) (rm9 l Z a0 hw [] a112 r0 h112 n0 (Nat.le_trans (Nat.le_trans Z0 E110.1) E112.1) ((S0.ext E110).ext E112)) hZ112 (hw _ (List.mem_of_getElem? (i := 48) rfl)) (hw _ (List.mem_of_getElem? (i := 36) rfl)) (by decide) (by decide)) (g := (mkF m 10 #[.val (.ref r0), .val (.ref r1), .val (.ref r2)] [(.ref r0), (.ref a112), (.ref sc), (.ref b110), (.ref b110)])) rfl (by rw [hml]; rfl) (argsL := [(.ref a112), (.ref r0)]) (rest := [(.ref sc), (.ref b110), (.ref b110)]) (lenOf pd__Ljava_lang_String_Ljava_lang_String__Ljava_lang_String__184 rfl) rfl (by show 2 * 0 + _ ≤ _; exact Nat.le_of_eq rfl) (hb hby d8_10) (fun _ _ => ⟨rfl, e112, (by decide : 3 + 0 ≤ _), (by decide : 33 + 0 ≤ _)⟩)
  dsimp only [Pt.U, Pt.locs, Pt.cells, Pt.slots] at X113 l113 y113 z113 st113 hQ113
  subst l113 y113 z113
  obtain ⟨rfl, N113q, e113q⟩ := hQ113
  have N113 := Fr.app N0 N113q
  refine own_byW st113 ?_
  have e113 : T113.heap = h112 := e113q
  show own_ComesW p e below s _ _ _ (T113.setTop (mkF m 13 #[.val (.ref r0), .val (.ref r1), .val (.ref r2)] [(.ref r0), (.ref sc), (.ref b110), (.ref b110)]))
  refine own_byW (fun _ kS => XS.aloadN X113.here hx rfl (hb hby d8_13) rfl rfl kS) ?_
  show own_ComesW p e below s _ _ _ (T113.setTop (mkF m 14 #[.val (.ref r0), .val (.ref r1), .val (.ref r2)] [(.ref r1), (.ref r0), (.ref sc), (.ref b110), (.ref b110)]))
  refine own_byW (fun _ kS => XS.ifnonnullYes X113.here hx rfl (pc0 := 14) (pc' := 21) rfl (hb hby d8_14) rfl (by decide) (by decide) kS) ?_
  show own_ComesW p e below s _ _ _ (T113.setTop (mkF m 21 #[.val (.ref r0), .val (.ref r1), .val (.ref r2)] [(.ref r0), (.ref sc), (.ref b110), (.ref b110)]))
  obtain ⟨a114, T114, h114, k114, X114, e114, E114, hS114, hk114, hZ114, hown114, st114⟩ := ldcS X113 hx hZ112 hown112 (hw _ (List.mem_of_getElem? (i := 103) rfl)) wS e113 hS112 hk112 (g := (mkF m 21 #[.val (.ref r0), .val (.ref r1), .val (.ref r2)] [(.ref r0), (.ref sc), (.ref b110), (.ref b110)])) rfl (hb hby d8_21) (n := 16) (by decide) (by decide) (by decide) (by decide)
  refine own_byW st114 ?_
  show own_ComesW p e below s _ _ _ (T114.setTop (mkF m 23 #[.val (.ref r0), .val (.ref r1), .val (.ref r2)] [(.ref a114), (.ref r0), (.ref sc), (.ref b110), (.ref b110)]))
  refine own_byW (fun _ kS => XS.aloadN X114.here hx rfl (hb hby d8_23) rfl rfl kS) ?_
  show own_ComesW p e below s _ _ _ (T114.setTop (mkF m 24 #[.val (.ref r0), .val (.ref r1), .val (.ref r2)] [(.ref r1), (.ref a114), (.ref r0), (.ref sc), (.ref b110), (.ref b110)]))
  obtain ⟨_, _, ⟨T115, L115, k115, n115⟩, -, X115, ⟨Lc115, hQ115, l115, y115, z115⟩, st115⟩ := Jvm.LawKit.callS X114 hx (y := (⟨"com/example/valve_per_tenant/valvepertenant/store/BucketKey", "requireName", "(Ljava/lang/String;Ljava/lang/String;)Ljava/lang/String;"⟩ : MethodName)) hown114 (mvT hZ114 (hw _ (List.mem_of_getElem? (i := 46) rfl))) (mvT hZ114 (hw _ (List.mem_of_getElem? (i := 47) rfl))) (mvT hZ114 (hw _ (List.mem_of_getElem? (i := 36) rfl))) (mvT hZ114 (hw _ (List.mem_of_getElem? (i := 48) rfl))) (by decide) (backOf (W := 4) (rm9 l Z a0 hw [] a114 r1 h114 n0 (Nat.le_trans (Nat.le_trans (Nat.le_trans Z0 E110.1) E112.1) E114.1) (((S1.ext E110).ext E112).ext E114)) hZ114 (hw _ (List.mem_of_getElem? (i := 48) rfl)) (hw _ (List.mem_of_getElem? (i := 36) rfl)) (by decide) (by decide)) (g := (mkF m 24 #[.val (.ref r0), .val (.ref r1), .val (.ref r2)] [(.ref r1), (.ref a114), (.ref r0), (.ref sc), (.ref b110), (.ref b110)])) rfl (by rw [hml]; rfl) (argsL := [(.ref a114), (.ref r1)]) (rest := [(.ref r0), (.ref sc), (.ref b110), (.ref b110)]) (lenOf pd__Ljava_lang_String_Ljava_lang_String__Ljava_lang_String__184 rfl) rfl (by show 2 * 0 + _ ≤ _; exact Nat.le_of_eq rfl) (hb hby d8_24) (fun _ _ => ⟨rfl, e114, (by decide : 5 + 0 ≤ _), (by decide : 53 + 0 ≤ _)⟩)
  dsimp only [Pt.U, Pt.locs, Pt.cells, Pt.slots] at X115 l115 y115 z115 st115 hQ115
  subst l115 y115 z115
  obtain ⟨rfl, N115q, e115q⟩ := hQ115
  have N115 := Fr.app N113 N115q
  refine own_byW st115 ?_
  have e115 : T115.heap = h114 := e115q
  show own_ComesW p e below s _ _ _ (T115.setTop (mkF m 27 #[.val (.ref r0), .val (.ref r1), .val (.ref r2)] [(.ref r1), (.ref r0), (.ref sc), (.ref b110), (.ref b110)]))
  refine own_byW (fun _ kS => XS.aconstNull X115.here hx rfl (hb hby d8_27) kS) ?_
  show own_ComesW p e below s _ _ _ (T115.setTop (mkF m 28 #[.val (.ref r0), .val (.ref r1), .val (.ref r2)] [.null, (.ref r1), (.ref r0), (.ref sc), (.ref b110), (.ref b110)]))
  refine own_byW (fun _ kS => XS.aloadN X115.here hx rfl (hb hby d8_28) rfl rfl kS) ?_
  show own_ComesW p e below s _ _ _ (T115.setTop (mkF m 29 #[.val (.ref r0), .val (.ref r1), .val (.ref r2)] [(.ref r2), .null, (.ref r1), (.ref r0), (.ref sc), (.ref b110), (.ref b110)]))
  refine own_byW (fun _ kS => XS.ifnonnullYes X115.here hx rfl (pc0 := 29) (pc' := 36) rfl (hb hby d8_29) rfl (by decide) (by decide) kS) ?_
  show own_ComesW p e below s _ _ _ (T115.setTop (mkF m 36 #[.val (.ref r0), .val (.ref r1), .val (.ref r2)] [.null, (.ref r1), (.ref r0), (.ref sc), (.ref b110), (.ref b110)]))
  obtain ⟨a116, T116, h116, k116, X116, e116, E116, hS116, hk116, hZ116, hown116, st116⟩ := ldcS X115 hx hZ114 hown114 (hw _ (List.mem_of_getElem? (i := 54) rfl)) wS e115 hS114 hk114 (g := (mkF m 36 #[.val (.ref r0), .val (.ref r1), .val (.ref r2)] [.null, (.ref r1), (.ref r0), (.ref sc), (.ref b110), (.ref b110)])) rfl (hb hby d8_36) (n := 32) (by decide) (by decide) (by decide) (by decide)
  refine own_byW st116 ?_
  show own_ComesW p e below s _ _ _ (T116.setTop (mkF m 38 #[.val (.ref r0), .val (.ref r1), .val (.ref r2)] [(.ref a116), .null, (.ref r1), (.ref r0), (.ref sc), (.ref b110), (.ref b110)]))
  refine own_byW (fun _ kS => XS.aloadN X116.here hx rfl (hb hby d8_38) rfl rfl kS) ?_
  show own_ComesW p e below s _ _ _ (T116.setTop (mkF m 39 #[.val (.ref r0), .val (.ref r1), .val (.ref r2)] [(.ref r2), (.ref a116), .null, (.ref r1), (.ref r0), (.ref sc), (.ref b110), (.ref b110)]))
  obtain ⟨_, _, ⟨T117, L117, k117, n117⟩, -, X117, ⟨Lc117, hQ117, l117, y117, z117⟩, st117⟩ := Jvm.LawKit.callS X116 hx (y := (⟨"com/example/valve_per_tenant/valvepertenant/store/BucketKey", "requireName", "(Ljava/lang/String;Ljava/lang/String;)Ljava/lang/String;"⟩ : MethodName)) hown116 (mvT hZ116 (hw _ (List.mem_of_getElem? (i := 46) rfl))) (mvT hZ116 (hw _ (List.mem_of_getElem? (i := 47) rfl))) (mvT hZ116 (hw _ (List.mem_of_getElem? (i := 36) rfl))) (mvT hZ116 (hw _ (List.mem_of_getElem? (i := 48) rfl))) (by decide) (backOf (W := 6) (rm9 l Z a0 hw [] a116 r2 h116 n0 (Nat.le_trans (Nat.le_trans (Nat.le_trans (Nat.le_trans Z0 E110.1) E112.1) E114.1) E116.1) ((((S2.ext E110).ext E112).ext E114).ext E116)) hZ116 (hw _ (List.mem_of_getElem? (i := 48) rfl)) (hw _ (List.mem_of_getElem? (i := 36) rfl)) (by decide) (by decide)) (g := (mkF m 39 #[.val (.ref r0), .val (.ref r1), .val (.ref r2)] [(.ref r2), (.ref a116), .null, (.ref r1), (.ref r0), (.ref sc), (.ref b110), (.ref b110)])) rfl (by rw [hml]; rfl) (argsL := [(.ref a116), (.ref r2)]) (rest := [.null, (.ref r1), (.ref r0), (.ref sc), (.ref b110), (.ref b110)]) (lenOf pd__Ljava_lang_String_Ljava_lang_String__Ljava_lang_String__184 rfl) rfl (by show 2 * 0 + _ ≤ _; exact Nat.le_of_eq rfl) (hb hby d8_39) (fun _ _ => ⟨rfl, e116, (by decide : 7 + 0 ≤ _), (by decide : 89 + 0 ≤ _)⟩)
  dsimp only [Pt.U, Pt.locs, Pt.cells, Pt.slots] at X117 l117 y117 z117 st117 hQ117
  subst l117 y117 z117
  obtain ⟨rfl, N117q, e117q⟩ := hQ117
  have N117 := Fr.app N115 N117q
  refine own_byW st117 ?_
  have e117 : T117.heap = h116 := e117q
  show own_ComesW p e below s _ _ _ (T117.setTop (mkF m 42 #[.val (.ref r0), .val (.ref r1), .val (.ref r2)] [(.ref r2), .null, (.ref r1), (.ref r0), (.ref sc), (.ref b110), (.ref b110)]))
  have c118 := ((((D110 (Or.inr (hw _ (List.mem_of_getElem? (i := 60) rfl))) (ty := (.object "com/example/valve_per_tenant/valvepertenant/model/Scope")) (by decide)).ext E112).ext E114).ext E116)
  have c119 := ((((D110 (Or.inr (hw _ (List.mem_of_getElem? (i := 62) rfl))) (ty := (.object "java/lang/String")) (by decide)).ext E112).ext E114).ext E116)
  have c120 := ((((D110 (Or.inr (hw _ (List.mem_of_getElem? (i := 64) rfl))) (ty := (.object "java/lang/String")) (by decide)).ext E112).ext E114).ext E116)
  have c121 := ((((D110 (Or.inr (hw _ (List.mem_of_getElem? (i := 66) rfl))) (ty := (.object "java/lang/String")) (by decide)).ext E112).ext E114).ext E116)
  have c122 := ((((D110 (Or.inr (hw _ (List.mem_of_getElem? (i := 68) rfl))) (ty := (.object "java/lang/String")) (by decide)).ext E112).ext E114).ext E116)
  obtain ⟨_, _, ⟨T123, L123, k123, n123⟩, -, X123, ⟨Lc123, hQ123, l123, y123, z123⟩, st123⟩ := X117.specialBack hx (y := (⟨"com/example/valve_per_tenant/valvepertenant/store/BucketKey", "<init>", "(Lcom/example/valve_per_tenant/valvepertenant/model/Scope;Ljava/lang/String;Ljava/lang/String;Ljava/lang/String;Ljava/lang/String;)V"⟩ : MethodName)) rfl hown116 (mvT hZ116 (hw _ (List.mem_of_getElem? (i := 55) rfl))) (mvT hZ116 (hw _ (List.mem_of_getElem? (i := 56) rfl))) (mvT hZ116 (hw _ (List.mem_of_getElem? (i := 57) rfl))) (by decide) (backOf (W := 1) (rm11rr l Z a0 hw [] b110 sc r0 r1 r2 h116 n0 (Nat.le_trans (Nat.le_trans (Nat.le_trans (Nat.le_trans Z0 E110.1) E112.1) E114.1) E116.1) (((A110.ext E112).ext E114).ext E116) c118 c119 c120 c121 c122 g_b110) hZ116 (hw _ (List.mem_of_getElem? (i := 57) rfl)) (hw _ (List.mem_of_getElem? (i := 36) rfl)) (by decide) (by decide)) (g := (mkF m 42 #[.val (.ref r0), .val (.ref r1), .val (.ref r2)] [(.ref r2), .null, (.ref r1), (.ref r0), (.ref sc), (.ref b110), (.ref b110)])) rfl (by rw [hml]; rfl) (Steps.refl _) (a := b110) (argsL := [(.ref sc), (.ref r0), (.ref r1), .null, (.ref r2)]) (rest := [(.ref b110)]) (lenOf pd__Lcom_example_valve_per_tenant_valvepertenant_model_Scope_Ljava_lang_String_Ljava_lang_String_Ljava_lang_String_Ljava_lang_String__V_687 rfl) rfl (by show 2 * 0 + _ ≤ _; exact Nat.le_of_eq rfl) (hb hby d8_42) (fun _ _ => ⟨rfl, e117, (by decide : 7 + 0 ≤ _), (by decide : 89 + 0 ≤ _)⟩)
  dsimp only [Pt.U, Pt.locs, Pt.cells, Pt.slots] at X123 l123 y123 z123 st123 hQ123
  subst l123 y123 z123
  obtain ⟨rfl, N123q, K123, B123⟩ := hQ123
  have N123 := Fr.app N117 N123q
  refine own_trW st123 ?_
  show own_ComesW p e below s _ _ _ (T123.setTop (mkF m 45 #[.val (.ref r0), .val (.ref r1), .val (.ref r2)] [(.ref b110)]))
  have hkr124 := (Nat.le_trans hk116 K123.1)
  refine own_retW X123 hS116 hkr124 (v := some (.ref b110)) (fun h => by rw [Bd.returns] at h; cases h) Bd.notSynchronized (by decide) (by decide) ?_ (fun fs hr => own_reta X123 hx Bd.returns rfl rfl (hb hby d8_45) hr)
  exact ⟨_, rfl, N123, own_ext ((((((Keep.refl _ _).ext E110).ext E112).ext E114).ext E116).trans K123 (allS (Or.inr sz_b110) all0)), B123⟩
def Q12 (Z : State) (v0 : Value) (h0 : Heap) (n0 : Nat) (v : Option Value) (h : Heap) (L : List Loc) : Prop := v = some v0 ∧ Fr n0 L ∧ h = h0
theorem ef_rm12 (m : MethodId) (x0 : Addr) : entryFrame m #[(.ref x0)] 1 = mkF m 0 #[.val (.ref x0)] [] := by first | (simp [entryFrame, mkF, argsToLocals, Value.category]; done) | rfl
theorem d12_0 : decode prog_25_method_8_code 0 = .ok (.aload_n 0, 1) := by decide +kernel
theorem d12_1 : decode prog_25_method_8_code 1 = .ok (.getfield 7, 3) := by decide +kernel
theorem d12_4 : decode prog_25_method_8_code 4 = .ok (.areturn, 1) := by decide +kernel
set_option maxRecDepth 65536 in
set_option maxHeartbeats 40000000 in
theorem rm12 (l : Launch) (Z : State) (a0 : Array Value) (hw : ∀ d ∈ tables_1, d.before a0 Z = true) (ws : List Jvm.Cond) (r0 : Addr) (v0 : Value) (h0 : Heap) (n0 : Nat) (Z0 : n0 ≤ h0.size) (Ff : Fld Z h0 r0 "com/example/valve_per_tenant/valvepertenant/store/BucketKey" "scope" "Lcom/example/valve_per_tenant/valvepertenant/model/Scope;" v0) (i_v0 : v0.isRef = true) :
    MetFree l (⟨"com/example/valve_per_tenant/valvepertenant/store/BucketKey", "getScope", "()Lcom/example/valve_per_tenant/valvepertenant/model/Scope;"⟩ : MethodName) (head1 (Jvm.Cond.code (⟨"com/example/valve_per_tenant/valvepertenant/store/BucketKey", "getScope", "()Lcom/example/valve_per_tenant/valvepertenant/model/Scope;"⟩ : MethodName) prog_25_method_8_code 1 (some (.object "com/example/valve_per_tenant/valvepertenant/model/Scope")) :: ws) ({ frames := 0, cells := 0, slots := 0, locals := 0 } : Room)) (fun aX UX => aX = #[(.ref r0)] ∧ Z.Warmed39 UX.vm ∧ UX.heap = h0) (fun _ _ _ _ _ => True) (fun _ UX oX UX' => ∃ vX LX, oX = .returned vX ∧ Q12 Z v0 h0 n0 vX UX'.heap LX ∧ FrameEnd UX oX UX' LX ({ frames := 0, cells := 0, slots := 0, locals := 0 } : Room).cells ({ frames := 0, cells := 0, slots := 0, locals := 0 } : Room).slots) := by
  refine MetFree.of_bodySF (plainFor_of_name pn_com_example_valve_per_tenant_valvepertenant_store_BucketKey) hisR ?_
  intro p e s m args below meth c s₁ Bd hml0 hP hK
  obtain ⟨rfl, hZ, hh⟩ := hP
  have hx := Bd.exec
  have hby := Bd.bytes
  have hml : c.maxLocals = 1 := hml0
  have hown : s.vm.findClass "com/example/valve_per_tenant/valvepertenant/store/BucketKey" = some m.cls := findClass_of_methodNamed Bd.named
  have hnm := (name_of_methodNamed Bd.named Bd.method).1
  have X0 : Stand p l e ({ frames := 0, cells := 0, slots := 0, locals := 0 } : Room) s m #[(.ref r0)] below meth c s₁ [] 0 0 := Stand.of_body Bd
  have e0 : s₁.heap = h0 := by rw [← hh, Bd.state]; rfl
  have N0 := Fr.nil n0
  show own_Comes p e below s ({ frames := 0, cells := 0, slots := 0, locals := 0 } : Room).cells ({ frames := 0, cells := 0, slots := 0, locals := 0 } : Room).slots (Q12 Z v0 h0 n0) _
  rw [show entryFrame m #[(.ref r0)] 1 = mkF m 0 #[.val (.ref r0)] [] from ef_rm12 m r0]
  show own_Comes p e below s _ _ _ (s₁.setTop (mkF m 0 #[.val (.ref r0)] []))
  refine own_by (fun _ kS => XS.aloadN X0.here hx rfl (hb hby d12_0) rfl rfl kS) ?_
  show own_Comes p e below s _ _ _ (s₁.setTop (mkF m 1 #[.val (.ref r0)] [(.ref r0)]))
  obtain ⟨T125, X125, e125, st125⟩ := getF X0 hx hZ hown (host := "") (Or.inl (hw _ (List.mem_of_getElem? (i := 59) rfl))) Via.refl e0 Ff (g := (mkF m 1 #[.val (.ref r0)] [(.ref r0)])) rfl rfl (hb hby d12_1)
  refine own_by st125 ?_
  show own_Comes p e below s _ _ _ (T125.setTop (mkF m 4 #[.val (.ref r0)] [v0]))
  refine own_ret X125 (v := some v0) (fun h => by rw [Bd.returns] at h; cases h) Bd.notSynchronized (by decide) (by decide) ?_ (fun fs hr => own_reta X125 hx Bd.returns rfl i_v0 (hb hby d12_4) hr)
  rw [e125]; exact ⟨rfl, N0, rfl⟩
def Q13 (Z : State) (v0 : Value) (h0 : Heap) (n0 : Nat) (v : Option Value) (h : Heap) (L : List Loc) : Prop := v = some v0 ∧ Fr n0 L ∧ h = h0
theorem ef_rm13 (m : MethodId) (x0 : Addr) : entryFrame m #[(.ref x0)] 1 = mkF m 0 #[.val (.ref x0)] [] := by first | (simp [entryFrame, mkF, argsToLocals, Value.category]; done) | rfl
theorem d13_0 : decode prog_25_method_9_code 0 = .ok (.aload_n 0, 1) := by decide +kernel
theorem d13_1 : decode prog_25_method_9_code 1 = .ok (.getfield 13, 3) := by decide +kernel
theorem d13_4 : decode prog_25_method_9_code 4 = .ok (.areturn, 1) := by decide +kernel
set_option maxRecDepth 65536 in
set_option maxHeartbeats 40000000 in
theorem rm13 (l : Launch) (Z : State) (a0 : Array Value) (hw : ∀ d ∈ tables_1, d.before a0 Z = true) (ws : List Jvm.Cond) (r0 : Addr) (v0 : Value) (h0 : Heap) (n0 : Nat) (Z0 : n0 ≤ h0.size) (Ff : Fld Z h0 r0 "com/example/valve_per_tenant/valvepertenant/store/BucketKey" "tenant" "Ljava/lang/String;" v0) (i_v0 : v0.isRef = true) :
    MetFree l (⟨"com/example/valve_per_tenant/valvepertenant/store/BucketKey", "getTenant", "()Ljava/lang/String;"⟩ : MethodName) (head1 (Jvm.Cond.code (⟨"com/example/valve_per_tenant/valvepertenant/store/BucketKey", "getTenant", "()Ljava/lang/String;"⟩ : MethodName) prog_25_method_9_code 1 (some (.object "java/lang/String")) :: ws) ({ frames := 0, cells := 0, slots := 0, locals := 0 } : Room)) (fun aX UX => aX = #[(.ref r0)] ∧ Z.Warmed39 UX.vm ∧ UX.heap = h0) (fun _ _ _ _ _ => True) (fun _ UX oX UX' => ∃ vX LX, oX = .returned vX ∧ Q13 Z v0 h0 n0 vX UX'.heap LX ∧ FrameEnd UX oX UX' LX ({ frames := 0, cells := 0, slots := 0, locals := 0 } : Room).cells ({ frames := 0, cells := 0, slots := 0, locals := 0 } : Room).slots) := by
  refine MetFree.of_bodySF (plainFor_of_name pn_com_example_valve_per_tenant_valvepertenant_store_BucketKey) hisR ?_
  intro p e s m args below meth c s₁ Bd hml0 hP hK
  obtain ⟨rfl, hZ, hh⟩ := hP
  have hx := Bd.exec
  have hby := Bd.bytes
  have hml : c.maxLocals = 1 := hml0
  have hown : s.vm.findClass "com/example/valve_per_tenant/valvepertenant/store/BucketKey" = some m.cls := findClass_of_methodNamed Bd.named
  have hnm := (name_of_methodNamed Bd.named Bd.method).1
  have X0 : Stand p l e ({ frames := 0, cells := 0, slots := 0, locals := 0 } : Room) s m #[(.ref r0)] below meth c s₁ [] 0 0 := Stand.of_body Bd
  have e0 : s₁.heap = h0 := by rw [← hh, Bd.state]; rfl
  have N0 := Fr.nil n0
  show own_Comes p e below s ({ frames := 0, cells := 0, slots := 0, locals := 0 } : Room).cells ({ frames := 0, cells := 0, slots := 0, locals := 0 } : Room).slots (Q13 Z v0 h0 n0) _
  rw [show entryFrame m #[(.ref r0)] 1 = mkF m 0 #[.val (.ref r0)] [] from ef_rm13 m r0]
  show own_Comes p e below s _ _ _ (s₁.setTop (mkF m 0 #[.val (.ref r0)] []))
  refine own_by (fun _ kS => XS.aloadN X0.here hx rfl (hb hby d13_0) rfl rfl kS) ?_
  show own_Comes p e below s _ _ _ (s₁.setTop (mkF m 1 #[.val (.ref r0)] [(.ref r0)]))
  obtain ⟨T126, X126, e126, st126⟩ := getF X0 hx hZ hown (host := "") (Or.inl (hw _ (List.mem_of_getElem? (i := 61) rfl))) Via.refl e0 Ff (g := (mkF m 1 #[.val (.ref r0)] [(.ref r0)])) rfl rfl (hb hby d13_1)
  refine own_by st126 ?_
  show own_Comes p e below s _ _ _ (T126.setTop (mkF m 4 #[.val (.ref r0)] [v0]))
  refine own_ret X126 (v := some v0) (fun h => by rw [Bd.returns] at h; cases h) Bd.notSynchronized (by decide) (by decide) ?_ (fun fs hr => own_reta X126 hx Bd.returns rfl i_v0 (hb hby d13_4) hr)
  rw [e126]; exact ⟨rfl, N0, rfl⟩
def Q16 (Z : State) (v0 : Value) (h0 : Heap) (n0 : Nat) (v : Option Value) (h : Heap) (L : List Loc) : Prop := v = some v0 ∧ Fr n0 L ∧ h = h0
theorem ef_rm16 (m : MethodId) (x0 : Addr) : entryFrame m #[(.ref x0)] 1 = mkF m 0 #[.val (.ref x0)] [] := by first | (simp [entryFrame, mkF, argsToLocals, Value.category]; done) | rfl
theorem d16_0 : decode prog_25_method_10_code 0 = .ok (.aload_n 0, 1) := by decide +kernel
theorem d16_1 : decode prog_25_method_10_code 1 = .ok (.getfield 17, 3) := by decide +kernel
theorem d16_4 : decode prog_25_method_10_code 4 = .ok (.areturn, 1) := by decide +kernel
set_option maxRecDepth 65536 in
set_option maxHeartbeats 40000000 in
theorem rm16 (l : Launch) (Z : State) (a0 : Array Value) (hw : ∀ d ∈ tables_1, d.before a0 Z = true) (ws : List Jvm.Cond) (r0 : Addr) (v0 : Value) (h0 : Heap) (n0 : Nat) (Z0 : n0 ≤ h0.size) (Ff : Fld Z h0 r0 "com/example/valve_per_tenant/valvepertenant/store/BucketKey" "user" "Ljava/lang/String;" v0) (i_v0 : v0.isRef = true) :
    MetFree l (⟨"com/example/valve_per_tenant/valvepertenant/store/BucketKey", "getUser", "()Ljava/lang/String;"⟩ : MethodName) (head1 (Jvm.Cond.code (⟨"com/example/valve_per_tenant/valvepertenant/store/BucketKey", "getUser", "()Ljava/lang/String;"⟩ : MethodName) prog_25_method_10_code 1 (some (.object "java/lang/String")) :: ws) ({ frames := 0, cells := 0, slots := 0, locals := 0 } : Room)) (fun aX UX => aX = #[(.ref r0)] ∧ Z.Warmed39 UX.vm ∧ UX.heap = h0) (fun _ _ _ _ _ => True) (fun _ UX oX UX' => ∃ vX LX, oX = .returned vX ∧ Q16 Z v0 h0 n0 vX UX'.heap LX ∧ FrameEnd UX oX UX' LX ({ frames := 0, cells := 0, slots := 0, locals := 0 } : Room).cells ({ frames := 0, cells := 0, slots := 0, locals := 0 } : Room).slots) := by
  refine MetFree.of_bodySF (plainFor_of_name pn_com_example_valve_per_tenant_valvepertenant_store_BucketKey) hisR ?_
  intro p e s m args below meth c s₁ Bd hml0 hP hK
  obtain ⟨rfl, hZ, hh⟩ := hP
  have hx := Bd.exec
  have hby := Bd.bytes
  have hml : c.maxLocals = 1 := hml0
  have hown : s.vm.findClass "com/example/valve_per_tenant/valvepertenant/store/BucketKey" = some m.cls := findClass_of_methodNamed Bd.named
  have hnm := (name_of_methodNamed Bd.named Bd.method).1
  have X0 : Stand p l e ({ frames := 0, cells := 0, slots := 0, locals := 0 } : Room) s m #[(.ref r0)] below meth c s₁ [] 0 0 := Stand.of_body Bd
  have e0 : s₁.heap = h0 := by rw [← hh, Bd.state]; rfl
  have N0 := Fr.nil n0
  show own_Comes p e below s ({ frames := 0, cells := 0, slots := 0, locals := 0 } : Room).cells ({ frames := 0, cells := 0, slots := 0, locals := 0 } : Room).slots (Q16 Z v0 h0 n0) _
  rw [show entryFrame m #[(.ref r0)] 1 = mkF m 0 #[.val (.ref r0)] [] from ef_rm16 m r0]
  show own_Comes p e below s _ _ _ (s₁.setTop (mkF m 0 #[.val (.ref r0)] []))
  refine own_by (fun _ kS => XS.aloadN X0.here hx rfl (hb hby d16_0) rfl rfl kS) ?_
  show own_Comes p e below s _ _ _ (s₁.setTop (mkF m 1 #[.val (.ref r0)] [(.ref r0)]))
  obtain ⟨T127, X127, e127, st127⟩ := getF X0 hx hZ hown (host := "") (Or.inl (hw _ (List.mem_of_getElem? (i := 63) rfl))) Via.refl e0 Ff (g := (mkF m 1 #[.val (.ref r0)] [(.ref r0)])) rfl rfl (hb hby d16_1)
  refine own_by st127 ?_
  show own_Comes p e below s _ _ _ (T127.setTop (mkF m 4 #[.val (.ref r0)] [v0]))
  refine own_ret X127 (v := some v0) (fun h => by rw [Bd.returns] at h; cases h) Bd.notSynchronized (by decide) (by decide) ?_ (fun fs hr => own_reta X127 hx Bd.returns rfl i_v0 (hb hby d16_4) hr)
  rw [e127]; exact ⟨rfl, N0, rfl⟩
def Q17 (Z : State) (v0 : Value) (h0 : Heap) (n0 : Nat) (v : Option Value) (h : Heap) (L : List Loc) : Prop := v = some v0 ∧ Fr n0 L ∧ h = h0
theorem ef_rm17 (m : MethodId) (x0 : Addr) : entryFrame m #[(.ref x0)] 1 = mkF m 0 #[.val (.ref x0)] [] := by first | (simp [entryFrame, mkF, argsToLocals, Value.category]; done) | rfl
theorem d17_0 : decode prog_25_method_11_code 0 = .ok (.aload_n 0, 1) := by decide +kernel
theorem d17_1 : decode prog_25_method_11_code 1 = .ok (.getfield 20, 3) := by decide +kernel
theorem d17_4 : decode prog_25_method_11_code 4 = .ok (.areturn, 1) := by decide +kernel
set_option maxRecDepth 65536 in
set_option maxHeartbeats 40000000 in
theorem rm17 (l : Launch) (Z : State) (a0 : Array Value) (hw : ∀ d ∈ tables_1, d.before a0 Z = true) (ws : List Jvm.Cond) (r0 : Addr) (v0 : Value) (h0 : Heap) (n0 : Nat) (Z0 : n0 ≤ h0.size) (Ff : Fld Z h0 r0 "com/example/valve_per_tenant/valvepertenant/store/BucketKey" "address" "Ljava/lang/String;" v0) (i_v0 : v0.isRef = true) :
    MetFree l (⟨"com/example/valve_per_tenant/valvepertenant/store/BucketKey", "getAddress", "()Ljava/lang/String;"⟩ : MethodName) (head1 (Jvm.Cond.code (⟨"com/example/valve_per_tenant/valvepertenant/store/BucketKey", "getAddress", "()Ljava/lang/String;"⟩ : MethodName) prog_25_method_11_code 1 (some (.object "java/lang/String")) :: ws) ({ frames := 0, cells := 0, slots := 0, locals := 0 } : Room)) (fun aX UX => aX = #[(.ref r0)] ∧ Z.Warmed39 UX.vm ∧ UX.heap = h0) (fun _ _ _ _ _ => True) (fun _ UX oX UX' => ∃ vX LX, oX = .returned vX ∧ Q17 Z v0 h0 n0 vX UX'.heap LX ∧ FrameEnd UX oX UX' LX ({ frames := 0, cells := 0, slots := 0, locals := 0 } : Room).cells ({ frames := 0, cells := 0, slots := 0, locals := 0 } : Room).slots) := by
  refine MetFree.of_bodySF (plainFor_of_name pn_com_example_valve_per_tenant_valvepertenant_store_BucketKey) hisR ?_
  intro p e s m args below meth c s₁ Bd hml0 hP hK
  obtain ⟨rfl, hZ, hh⟩ := hP
  have hx := Bd.exec
  have hby := Bd.bytes
  have hml : c.maxLocals = 1 := hml0
  have hown : s.vm.findClass "com/example/valve_per_tenant/valvepertenant/store/BucketKey" = some m.cls := findClass_of_methodNamed Bd.named
  have hnm := (name_of_methodNamed Bd.named Bd.method).1
  have X0 : Stand p l e ({ frames := 0, cells := 0, slots := 0, locals := 0 } : Room) s m #[(.ref r0)] below meth c s₁ [] 0 0 := Stand.of_body Bd
  have e0 : s₁.heap = h0 := by rw [← hh, Bd.state]; rfl
  have N0 := Fr.nil n0
  show own_Comes p e below s ({ frames := 0, cells := 0, slots := 0, locals := 0 } : Room).cells ({ frames := 0, cells := 0, slots := 0, locals := 0 } : Room).slots (Q17 Z v0 h0 n0) _
  rw [show entryFrame m #[(.ref r0)] 1 = mkF m 0 #[.val (.ref r0)] [] from ef_rm17 m r0]
  show own_Comes p e below s _ _ _ (s₁.setTop (mkF m 0 #[.val (.ref r0)] []))
  refine own_by (fun _ kS => XS.aloadN X0.here hx rfl (hb hby d17_0) rfl rfl kS) ?_
  show own_Comes p e below s _ _ _ (s₁.setTop (mkF m 1 #[.val (.ref r0)] [(.ref r0)]))
  obtain ⟨T128, X128, e128, st128⟩ := getF X0 hx hZ hown (host := "") (Or.inl (hw _ (List.mem_of_getElem? (i := 65) rfl))) Via.refl e0 Ff (g := (mkF m 1 #[.val (.ref r0)] [(.ref r0)])) rfl rfl (hb hby d17_1)
  refine own_by st128 ?_
  show own_Comes p e below s _ _ _ (T128.setTop (mkF m 4 #[.val (.ref r0)] [v0]))
  refine own_ret X128 (v := some v0) (fun h => by rw [Bd.returns] at h; cases h) Bd.notSynchronized (by decide) (by decide) ?_ (fun fs hr => own_reta X128 hx Bd.returns rfl i_v0 (hb hby d17_4) hr)
  rw [e128]; exact ⟨rfl, N0, rfl⟩
def Q18 (Z : State) (v0 : Value) (h0 : Heap) (n0 : Nat) (v : Option Value) (h : Heap) (L : List Loc) : Prop := v = some v0 ∧ Fr n0 L ∧ h = h0
theorem ef_rm18 (m : MethodId) (x0 : Addr) : entryFrame m #[(.ref x0)] 1 = mkF m 0 #[.val (.ref x0)] [] := by first | (simp [entryFrame, mkF, argsToLocals, Value.category]; done) | rfl
theorem d18_0 : decode prog_25_method_12_code 0 = .ok (.aload_n 0, 1) := by decide +kernel
theorem d18_1 : decode prog_25_method_12_code 1 = .ok (.getfield 23, 3) := by decide +kernel
theorem d18_4 : decode prog_25_method_12_code 4 = .ok (.areturn, 1) := by decide +kernel
set_option maxRecDepth 65536 in
set_option maxHeartbeats 40000000 in
theorem rm18 (l : Launch) (Z : State) (a0 : Array Value) (hw : ∀ d ∈ tables_1, d.before a0 Z = true) (ws : List Jvm.Cond) (r0 : Addr) (v0 : Value) (h0 : Heap) (n0 : Nat) (Z0 : n0 ≤ h0.size) (Ff : Fld Z h0 r0 "com/example/valve_per_tenant/valvepertenant/store/BucketKey" "endpoint" "Ljava/lang/String;" v0) (i_v0 : v0.isRef = true) :
    MetFree l (⟨"com/example/valve_per_tenant/valvepertenant/store/BucketKey", "getEndpoint", "()Ljava/lang/String;"⟩ : MethodName) (head1 (Jvm.Cond.code (⟨"com/example/valve_per_tenant/valvepertenant/store/BucketKey", "getEndpoint", "()Ljava/lang/String;"⟩ : MethodName) prog_25_method_12_code 1 (some (.object "java/lang/String")) :: ws) ({ frames := 0, cells := 0, slots := 0, locals := 0 } : Room)) (fun aX UX => aX = #[(.ref r0)] ∧ Z.Warmed39 UX.vm ∧ UX.heap = h0) (fun _ _ _ _ _ => True) (fun _ UX oX UX' => ∃ vX LX, oX = .returned vX ∧ Q18 Z v0 h0 n0 vX UX'.heap LX ∧ FrameEnd UX oX UX' LX ({ frames := 0, cells := 0, slots := 0, locals := 0 } : Room).cells ({ frames := 0, cells := 0, slots := 0, locals := 0 } : Room).slots) := by
  refine MetFree.of_bodySF (plainFor_of_name pn_com_example_valve_per_tenant_valvepertenant_store_BucketKey) hisR ?_
  intro p e s m args below meth c s₁ Bd hml0 hP hK
  obtain ⟨rfl, hZ, hh⟩ := hP
  have hx := Bd.exec
  have hby := Bd.bytes
  have hml : c.maxLocals = 1 := hml0
  have hown : s.vm.findClass "com/example/valve_per_tenant/valvepertenant/store/BucketKey" = some m.cls := findClass_of_methodNamed Bd.named
  have hnm := (name_of_methodNamed Bd.named Bd.method).1
  have X0 : Stand p l e ({ frames := 0, cells := 0, slots := 0, locals := 0 } : Room) s m #[(.ref r0)] below meth c s₁ [] 0 0 := Stand.of_body Bd
  have e0 : s₁.heap = h0 := by rw [← hh, Bd.state]; rfl
  have N0 := Fr.nil n0
  show own_Comes p e below s ({ frames := 0, cells := 0, slots := 0, locals := 0 } : Room).cells ({ frames := 0, cells := 0, slots := 0, locals := 0 } : Room).slots (Q18 Z v0 h0 n0) _
  rw [show entryFrame m #[(.ref r0)] 1 = mkF m 0 #[.val (.ref r0)] [] from ef_rm18 m r0]
  show own_Comes p e below s _ _ _ (s₁.setTop (mkF m 0 #[.val (.ref r0)] []))
  refine own_by (fun _ kS => XS.aloadN X0.here hx rfl (hb hby d18_0) rfl rfl kS) ?_
  show own_Comes p e below s _ _ _ (s₁.setTop (mkF m 1 #[.val (.ref r0)] [(.ref r0)]))
  obtain ⟨T129, X129, e129, st129⟩ := getF X0 hx hZ hown (host := "") (Or.inl (hw _ (List.mem_of_getElem? (i := 67) rfl))) Via.refl e0 Ff (g := (mkF m 1 #[.val (.ref r0)] [(.ref r0)])) rfl rfl (hb hby d18_1)
  refine own_by st129 ?_
  show own_Comes p e below s _ _ _ (T129.setTop (mkF m 4 #[.val (.ref r0)] [v0]))
  refine own_ret X129 (v := some v0) (fun h => by rw [Bd.returns] at h; cases h) Bd.notSynchronized (by decide) (by decide) ?_ (fun fs hr => own_reta X129 hx Bd.returns rfl i_v0 (hb hby d18_4) hr)
  rw [e129]; exact ⟨rfl, N0, rfl⟩
def Q15 (Z : State) (h0 : Heap) (n0 : Nat) (v : Option Value) (h : Heap) (L : List Loc) : Prop := v = some (.int (1 : Int32)) ∧ Fr n0 L ∧ h = h0
theorem ef_rm15 (m : MethodId) (x0 : Addr) (x1 : Addr) : entryFrame m #[(.ref x0), (.ref x1)] 3 = mkF m 0 #[.val (.ref x0), .val (.ref x1), .unset] [] := by first | (simp [entryFrame, mkF, argsToLocals, Value.category]; done) | rfl
theorem d15_0 : decode jdk_42_method_66_code 0 = .ok (.aload_n 0, 1) := by decide +kernel
theorem d15_1 : decode jdk_42_method_66_code 1 = .ok (.aload_n 1, 1) := by decide +kernel
theorem d15_2 : decode jdk_42_method_66_code 2 = .ok (.if_acmp .ne 5, 3) := by decide +kernel
theorem d15_5 : decode jdk_42_method_66_code 5 = .ok (.iconst 1, 1) := by decide +kernel
theorem d15_6 : decode jdk_42_method_66_code 6 = .ok (.ireturn, 1) := by decide +kernel
set_option maxRecDepth 65536 in
set_option maxHeartbeats 40000000 in
theorem rm15 (l : Launch) (Z : State) (a0 : Array Value) (hw : ∀ d ∈ tables_1, d.before a0 Z = true) (ws : List Jvm.Cond) (r0 : Addr) (h0 : Heap) (n0 : Nat) (Z0 : n0 ≤ h0.size) :
    MetFree l (⟨"java/lang/String", "equals", "(Ljava/lang/Object;)Z"⟩ : MethodName) (head1 (Jvm.Cond.code (⟨"java/lang/String", "equals", "(Ljava/lang/Object;)Z"⟩ : MethodName) jdk_42_method_66_code 3 (some .boolean) :: ws) ({ frames := 0, cells := 0, slots := 0, locals := 0 } : Room)) (fun aX UX => aX = #[(.ref r0), (.ref r0)] ∧ Z.Warmed39 UX.vm ∧ UX.heap = h0) (fun _ _ _ _ _ => True) (fun _ UX oX UX' => ∃ vX LX, oX = .returned vX ∧ Q15 Z  h0 n0 vX UX'.heap LX ∧ FrameEnd UX oX UX' LX ({ frames := 0, cells := 0, slots := 0, locals := 0 } : Room).cells ({ frames := 0, cells := 0, slots := 0, locals := 0 } : Room).slots) := by
  refine MetFree.of_bodySF (plainFor_of_name pn_java_lang_String) hisR ?_
  intro p e s m args below meth c s₁ Bd hml0 hP hK
  obtain ⟨rfl, hZ, hh⟩ := hP
  have hx := Bd.exec
  have hby := Bd.bytes
  have hml : c.maxLocals = 3 := hml0
  have hown : s.vm.findClass "java/lang/String" = some m.cls := findClass_of_methodNamed Bd.named
  have hnm := (name_of_methodNamed Bd.named Bd.method).1
  have X0 : Stand p l e ({ frames := 0, cells := 0, slots := 0, locals := 0 } : Room) s m #[(.ref r0), (.ref r0)] below meth c s₁ [] 0 0 := Stand.of_body Bd
  have e0 : s₁.heap = h0 := by rw [← hh, Bd.state]; rfl
  have N0 := Fr.nil n0
  show own_Comes p e below s ({ frames := 0, cells := 0, slots := 0, locals := 0 } : Room).cells ({ frames := 0, cells := 0, slots := 0, locals := 0 } : Room).slots (Q15 Z  h0 n0) _
  rw [show entryFrame m #[(.ref r0), (.ref r0)] 3 = mkF m 0 #[.val (.ref r0), .val (.ref r0), .unset] [] from ef_rm15 m r0 r0]
  show own_Comes p e below s _ _ _ (s₁.setTop (mkF m 0 #[.val (.ref r0), .val (.ref r0), .unset] []))
  refine own_by (fun _ kS => XS.aloadN X0.here hx rfl (hb hby d15_0) rfl rfl kS) ?_
  show own_Comes p e below s _ _ _ (s₁.setTop (mkF m 1 #[.val (.ref r0), .val (.ref r0), .unset] [(.ref r0)]))
  refine own_by (fun _ kS => XS.aloadN X0.here hx rfl (hb hby d15_1) rfl rfl kS) ?_
  show own_Comes p e below s _ _ _ (s₁.setTop (mkF m 2 #[.val (.ref r0), .val (.ref r0), .unset] [(.ref r0), (.ref r0)]))
  refine own_by (fun _ kS => Jvm.RoadKit.acmp (g := (mkF m 2 #[.val (.ref r0), .val (.ref r0), .unset] [(.ref r0), (.ref r0)])) X0 hx rfl rfl rfl (pc0 := 2) (pc' := 5) (same := true) rfl (hb hby d15_2) rfl (decide_eq_true rfl) (by decide) (by decide) kS) ?_
  show own_Comes p e below s _ _ _ (s₁.setTop (mkF m 5 #[.val (.ref r0), .val (.ref r0), .unset] []))
  refine own_by (fun _ kS => XS.iconst X0.here hx rfl (hb hby d15_5) kS) ?_
  show own_Comes p e below s _ _ _ (s₁.setTop (mkF m 6 #[.val (.ref r0), .val (.ref r0), .unset] [(.int (1 : Int32))]))
  refine own_ret X0 (v := some (.int (1 : Int32))) (fun h => by rw [Bd.returns] at h; cases h) Bd.notSynchronized (by decide) (by decide) ?_ (fun fs hr => retN X0 hx (t := .boolean) Bd.returns (by simp) (hb hby d15_6) hr)
  rw [e0]; exact ⟨rfl, N0, rfl⟩
def Q14n (Z : State) (h0 : Heap) (n0 : Nat) (v : Option Value) (h : Heap) (L : List Loc) : Prop := v = some (.int (1 : Int32)) ∧ Fr n0 L ∧ h = h0
theorem ef_rm14n (m : MethodId)  : entryFrame m #[.null, .null] 2 = mkF m 0 #[.val .null, .val .null] [] := by first | (simp [entryFrame, mkF, argsToLocals, Value.category]; done) | rfl
theorem d14_0 : decode method_3_code 0 = .ok (.aload_n 0, 1) := by decide +kernel
theorem d14_1 : decode method_3_code 1 = .ok (.ifnonnull 13, 3) := by decide +kernel
theorem d14_4 : decode method_3_code 4 = .ok (.aload_n 1, 1) := by decide +kernel
theorem d14_5 : decode method_3_code 5 = .ok (.ifnonnull 7, 3) := by decide +kernel
theorem d14_8 : decode method_3_code 8 = .ok (.iconst 1, 1) := by decide +kernel
theorem d14_9 : decode method_3_code 9 = .ok (.goto 4, 3) := by decide +kernel
theorem d14_13 : decode method_3_code 13 = .ok (.ireturn, 1) := by decide +kernel
set_option maxRecDepth 65536 in
set_option maxHeartbeats 40000000 in
theorem rm14n (l : Launch) (Z : State) (a0 : Array Value) (hw : ∀ d ∈ tables_1, d.before a0 Z = true) (ws : List Jvm.Cond)  (h0 : Heap) (n0 : Nat) (Z0 : n0 ≤ h0.size) :
    MetFree l (⟨"com/example/valve_per_tenant/valvepertenant/store/BucketKeyOverridePinLaw", "same", "(Ljava/lang/String;Ljava/lang/String;)Z"⟩ : MethodName) (head1 (Jvm.Cond.code (⟨"com/example/valve_per_tenant/valvepertenant/store/BucketKeyOverridePinLaw", "same", "(Ljava/lang/String;Ljava/lang/String;)Z"⟩ : MethodName) method_3_code 2 (some .boolean) :: ws) ({ frames := 0, cells := 0, slots := 0, locals := 0 } : Room)) (fun aX UX => aX = #[.null, .null] ∧ Z.Warmed39 UX.vm ∧ UX.heap = h0) (fun _ _ _ _ _ => True) (fun _ UX oX UX' => ∃ vX LX, oX = .returned vX ∧ Q14n Z  h0 n0 vX UX'.heap LX ∧ FrameEnd UX oX UX' LX ({ frames := 0, cells := 0, slots := 0, locals := 0 } : Room).cells ({ frames := 0, cells := 0, slots := 0, locals := 0 } : Room).slots) := by
  refine MetFree.of_bodySF (plainFor_of_name pn_com_example_valve_per_tenant_valvepertenant_store_BucketKeyOverridePinLaw) hisR ?_
  intro p e s m args below meth c s₁ Bd hml0 hP hK
  obtain ⟨rfl, hZ, hh⟩ := hP
  have hx := Bd.exec
  have hby := Bd.bytes
  have hml : c.maxLocals = 2 := hml0
  have hown : s.vm.findClass "com/example/valve_per_tenant/valvepertenant/store/BucketKeyOverridePinLaw" = some m.cls := findClass_of_methodNamed Bd.named
  have hnm := (name_of_methodNamed Bd.named Bd.method).1
  have X0 : Stand p l e ({ frames := 0, cells := 0, slots := 0, locals := 0 } : Room) s m #[.null, .null] below meth c s₁ [] 0 0 := Stand.of_body Bd
  have e0 : s₁.heap = h0 := by rw [← hh, Bd.state]; rfl
  have N0 := Fr.nil n0
  show own_Comes p e below s ({ frames := 0, cells := 0, slots := 0, locals := 0 } : Room).cells ({ frames := 0, cells := 0, slots := 0, locals := 0 } : Room).slots (Q14n Z  h0 n0) _
  rw [show entryFrame m #[.null, .null] 2 = mkF m 0 #[.val .null, .val .null] [] from ef_rm14n m ]
  show own_Comes p e below s _ _ _ (s₁.setTop (mkF m 0 #[.val .null, .val .null] []))
  refine own_by (fun _ kS => XS.aloadN X0.here hx rfl (hb hby d14_0) rfl rfl kS) ?_
  show own_Comes p e below s _ _ _ (s₁.setTop (mkF m 1 #[.val .null, .val .null] [.null]))
  refine own_by (fun _ kS => XS.ifnonnullNo X0.here hx rfl (hb hby d14_1) rfl kS) ?_
  show own_Comes p e below s _ _ _ (s₁.setTop (mkF m 4 #[.val .null, .val .null] []))
  refine own_by (fun _ kS => XS.aloadN X0.here hx rfl (hb hby d14_4) rfl rfl kS) ?_
  show own_Comes p e below s _ _ _ (s₁.setTop (mkF m 5 #[.val .null, .val .null] [.null]))
  refine own_by (fun _ kS => XS.ifnonnullNo X0.here hx rfl (hb hby d14_5) rfl kS) ?_
  show own_Comes p e below s _ _ _ (s₁.setTop (mkF m 8 #[.val .null, .val .null] []))
  refine own_by (fun _ kS => XS.iconst X0.here hx rfl (hb hby d14_8) kS) ?_
  show own_Comes p e below s _ _ _ (s₁.setTop (mkF m 9 #[.val .null, .val .null] [(.int (1 : Int32))]))
  refine own_by (fun _ kS => XS.goto X0.here hx rfl (pc0 := 9) (pc' := 13) rfl (hb hby d14_9) (by decide) (by decide) kS) ?_
  show own_Comes p e below s _ _ _ (s₁.setTop (mkF m 13 #[.val .null, .val .null] [(.int (1 : Int32))]))
  refine own_ret X0 (v := some (.int (1 : Int32))) (fun h => by rw [Bd.returns] at h; cases h) Bd.notSynchronized (by decide) (by decide) ?_ (fun fs hr => retN X0 hx (t := .boolean) Bd.returns (by simp) (hb hby d14_13) hr)
  rw [e0]; exact ⟨rfl, N0, rfl⟩
def Q14r (Z : State) (h0 : Heap) (n0 : Nat) (v : Option Value) (h : Heap) (L : List Loc) : Prop := v = some (.int (1 : Int32)) ∧ Fr n0 L ∧ h = h0
theorem ef_rm14r (m : MethodId) (x0 : Addr) (x1 : Addr) : entryFrame m #[(.ref x0), (.ref x1)] 2 = mkF m 0 #[.val (.ref x0), .val (.ref x1)] [] := by first | (simp [entryFrame, mkF, argsToLocals, Value.category]; done) | rfl
theorem d14_14 : decode method_3_code 14 = .ok (.aload_n 1, 1) := by decide +kernel
theorem d14_15 : decode method_3_code 15 = .ok (.ifnull 15, 3) := by decide +kernel
theorem d14_18 : decode method_3_code 18 = .ok (.aload_n 0, 1) := by decide +kernel
theorem d14_19 : decode method_3_code 19 = .ok (.aload_n 1, 1) := by decide +kernel
theorem pd__Ljava_lang_Object__Z_838 : parseMethodDescriptor "(Ljava/lang/Object;)Z" = some ⟨[(.object "java/lang/Object")], some .boolean⟩ := by decide +kernel
theorem d14_20 : decode method_3_code 20 = .ok (.invokevirtual 12, 3) := by decide +kernel
theorem d14_23 : decode method_3_code 23 = .ok (.ifCond .eq 7, 3) := by decide +kernel
theorem d14_26 : decode method_3_code 26 = .ok (.iconst 1, 1) := by decide +kernel
theorem d14_27 : decode method_3_code 27 = .ok (.goto 4, 3) := by decide +kernel
theorem d14_31 : decode method_3_code 31 = .ok (.ireturn, 1) := by decide +kernel
set_option maxRecDepth 65536 in
set_option maxHeartbeats 40000000 in
theorem rm14r (l : Launch) (Z : State) (a0 : Array Value) (hw : ∀ d ∈ tables_1, d.before a0 Z = true) (ws : List Jvm.Cond) (r0 : Addr) (h0 : Heap) (n0 : Nat) (Z0 : n0 ≤ h0.size) (E0 : Exa Z h0 r0 "java/lang/String") :
    MetFree l (⟨"com/example/valve_per_tenant/valvepertenant/store/BucketKeyOverridePinLaw", "same", "(Ljava/lang/String;Ljava/lang/String;)Z"⟩ : MethodName) (head1 (Jvm.Cond.code (⟨"com/example/valve_per_tenant/valvepertenant/store/BucketKeyOverridePinLaw", "same", "(Ljava/lang/String;Ljava/lang/String;)Z"⟩ : MethodName) method_3_code 2 (some .boolean) :: ws) ({ frames := 1, cells := 0, slots := 0, locals := 14 } : Room)) (fun aX UX => aX = #[(.ref r0), (.ref r0)] ∧ Z.Warmed39 UX.vm ∧ UX.heap = h0) (fun _ _ _ _ _ => True) (fun _ UX oX UX' => ∃ vX LX, oX = .returned vX ∧ Q14r Z  h0 n0 vX UX'.heap LX ∧ FrameEnd UX oX UX' LX ({ frames := 1, cells := 0, slots := 0, locals := 14 } : Room).cells ({ frames := 1, cells := 0, slots := 0, locals := 14 } : Room).slots) := by
  refine MetFree.of_bodySF (plainFor_of_name pn_com_example_valve_per_tenant_valvepertenant_store_BucketKeyOverridePinLaw) hisR ?_
  intro p e s m args below meth c s₁ Bd hml0 hP hK
  obtain ⟨rfl, hZ, hh⟩ := hP
  have hx := Bd.exec
  have hby := Bd.bytes
  have hml : c.maxLocals = 2 := hml0
  have hown : s.vm.findClass "com/example/valve_per_tenant/valvepertenant/store/BucketKeyOverridePinLaw" = some m.cls := findClass_of_methodNamed Bd.named
  have hnm := (name_of_methodNamed Bd.named Bd.method).1
  have X0 : Stand p l e ({ frames := 1, cells := 0, slots := 0, locals := 14 } : Room) s m #[(.ref r0), (.ref r0)] below meth c s₁ [] 0 0 := Stand.of_body Bd
  have e0 : s₁.heap = h0 := by rw [← hh, Bd.state]; rfl
  have N0 := Fr.nil n0
  show own_Comes p e below s ({ frames := 1, cells := 0, slots := 0, locals := 14 } : Room).cells ({ frames := 1, cells := 0, slots := 0, locals := 14 } : Room).slots (Q14r Z  h0 n0) _
  rw [show entryFrame m #[(.ref r0), (.ref r0)] 2 = mkF m 0 #[.val (.ref r0), .val (.ref r0)] [] from ef_rm14r m r0 r0]
  show own_Comes p e below s _ _ _ (s₁.setTop (mkF m 0 #[.val (.ref r0), .val (.ref r0)] []))
  refine own_by (fun _ kS => XS.aloadN X0.here hx rfl (hb hby d14_0) rfl rfl kS) ?_
  show own_Comes p e below s _ _ _ (s₁.setTop (mkF m 1 #[.val (.ref r0), .val (.ref r0)] [(.ref r0)]))
  refine own_by (fun _ kS => XS.ifnonnullYes X0.here hx rfl (pc0 := 1) (pc' := 14) rfl (hb hby d14_1) rfl (by decide) (by decide) kS) ?_
  show own_Comes p e below s _ _ _ (s₁.setTop (mkF m 14 #[.val (.ref r0), .val (.ref r0)] []))
  refine own_by (fun _ kS => XS.aloadN X0.here hx rfl (hb hby d14_14) rfl rfl kS) ?_
  show own_Comes p e below s _ _ _ (s₁.setTop (mkF m 15 #[.val (.ref r0), .val (.ref r0)] [(.ref r0)]))
  refine own_by (fun _ kS => XS.ifnullNo X0.here hx rfl (hb hby d14_15) rfl kS) ?_
  show own_Comes p e below s _ _ _ (s₁.setTop (mkF m 18 #[.val (.ref r0), .val (.ref r0)] []))
  refine own_by (fun _ kS => XS.aloadN X0.here hx rfl (hb hby d14_18) rfl rfl kS) ?_
  show own_Comes p e below s _ _ _ (s₁.setTop (mkF m 19 #[.val (.ref r0), .val (.ref r0)] [(.ref r0)]))
  refine own_by (fun _ kS => XS.aloadN X0.here hx rfl (hb hby d14_19) rfl rfl kS) ?_
  show own_Comes p e below s _ _ _ (s₁.setTop (mkF m 20 #[.val (.ref r0), .val (.ref r0)] [(.ref r0), (.ref r0)]))
  obtain ⟨cq130, kq130, q130a, q130b, q130c⟩ := isOf hZ e0 E0
  obtain ⟨_, _, ⟨T130, L130, k130, n130⟩, -, X130, ⟨Lc130, hQ130, l130, y130, z130⟩, st130⟩ := X0.virtualBack hx (y := (⟨"java/lang/String", "equals", "(Ljava/lang/Object;)Z"⟩ : MethodName)) (z := (⟨"java/lang/String", "equals", "(Ljava/lang/Object;)Z"⟩ : MethodName)) hown (mvT hZ (hw _ (List.mem_of_getElem? (i := 83) rfl))) (mvT hZ (hw _ (List.mem_of_getElem? (i := 84) rfl))) (notFace_of_selects (args := #[]) (mvT hZ (hw _ (List.mem_of_getElem? (i := 86) rfl)))) (mvT hZ (hw _ (List.mem_of_getElem? (i := 86) rfl))) (mvT hZ (hw _ (List.mem_of_getElem? (i := 85) rfl))) (by decide) (backOf (W := 0) (rm15 l Z a0 hw [] r0 h0 n0 Z0) hZ (hw _ (List.mem_of_getElem? (i := 87) rfl)) (hw _ (List.mem_of_getElem? (i := 7) rfl)) (by decide) (by decide)) q130a q130c (g := (mkF m 20 #[.val (.ref r0), .val (.ref r0)] [(.ref r0), (.ref r0)])) rfl (by rw [hml]; rfl) (Steps.refl _) (argsL := [(.ref r0)]) (rest := []) (lenOf pd__Ljava_lang_Object__Z_838 rfl) rfl (by show 2 * 0 + _ ≤ _; exact Nat.le_of_eq rfl) (hb hby d14_20) (fun _ _ => ⟨rfl, e0, (by decide : 0 + 0 ≤ _), (by decide : 0 + 0 ≤ _)⟩)
  dsimp only [Pt.U, Pt.locs, Pt.cells, Pt.slots] at X130 l130 y130 z130 st130 hQ130
  subst l130 y130 z130
  obtain ⟨rfl, N130q, e130q⟩ := hQ130
  have N130 := Fr.app N0 N130q
  refine own_tr st130 ?_
  have e130 : T130.heap = h0 := e130q
  show own_Comes p e below s _ _ _ (T130.setTop (mkF m 23 #[.val (.ref r0), .val (.ref r0)] [(.int (1 : Int32))]))
  have hb131 : ¬ ((1 : Int32) = (0 : Int32)) := by decide
  refine own_by (fun _ kS => XS.ifNo X130.here hx rfl (hb hby d14_23) rfl ((if0 _ _).trans (feq hb131).1) kS) ?_
  show own_Comes p e below s _ _ _ (T130.setTop (mkF m 26 #[.val (.ref r0), .val (.ref r0)] []))
  refine own_by (fun _ kS => XS.iconst X130.here hx rfl (hb hby d14_26) kS) ?_
  show own_Comes p e below s _ _ _ (T130.setTop (mkF m 27 #[.val (.ref r0), .val (.ref r0)] [(.int (1 : Int32))]))
  refine own_by (fun _ kS => XS.goto X130.here hx rfl (pc0 := 27) (pc' := 31) rfl (hb hby d14_27) (by decide) (by decide) kS) ?_
  show own_Comes p e below s _ _ _ (T130.setTop (mkF m 31 #[.val (.ref r0), .val (.ref r0)] [(.int (1 : Int32))]))
  refine own_ret X130 (v := some (.int (1 : Int32))) (fun h => by rw [Bd.returns] at h; cases h) Bd.notSynchronized (by decide) (by decide) ?_ (fun fs hr => retN X130 hx (t := .boolean) Bd.returns (by simp) (hb hby d14_31) hr)
  rw [e130]; exact ⟨rfl, N130, rfl⟩
def Q0 (Z : State) (h0 : Heap) (n0 : Nat) (v : Option Value) (h : Heap) (L : List Loc) : Prop := v = some (.int (1 : Int32)) ∧ Fr n0 L
theorem ef_rm0 (m : MethodId) (x0 : Int32) (x1 : Int32) (x2 : Int32) (x3 : Int32) : entryFrame m #[(.int x0), (.int x1), (.int x2), (.int x3)] maxLocals = mkF m 0 #[.val (.int x0), .val (.int x1), .val (.int x2), .val (.int x3), .unset, .unset, .unset, .unset, .unset, .unset] [] := by first | (simp [entryFrame, mkF, argsToLocals, Value.category, maxLocals]; done) | rfl
theorem pd__IZ_Ljava_lang_String__943 : parseMethodDescriptor "(IZ)Ljava/lang/String;" = some ⟨[.int, .boolean], some (.object "java/lang/String")⟩ := by decide +kernel
theorem pd__Ljava_lang_String_Ljava_lang_String_Ljava_lang_String__Lcom_example_valve_per_tenant_valvepertenant_store_BucketKey__327 : parseMethodDescriptor "(Ljava/lang/String;Ljava/lang/String;Ljava/lang/String;)Lcom/example/valve_per_tenant/valvepertenant/store/BucketKey;" = some ⟨[(.object "java/lang/String"), (.object "java/lang/String"), (.object "java/lang/String")], some (.object "com/example/valve_per_tenant/valvepertenant/store/BucketKey")⟩ := by decide +kernel
theorem pd___Lcom_example_valve_per_tenant_valvepertenant_model_Scope__796 : parseMethodDescriptor "()Lcom/example/valve_per_tenant/valvepertenant/model/Scope;" = some ⟨[], some (.object "com/example/valve_per_tenant/valvepertenant/model/Scope")⟩ := by decide +kernel
theorem pd___Ljava_lang_String__780 : parseMethodDescriptor "()Ljava/lang/String;" = some ⟨[], some (.object "java/lang/String")⟩ := by decide +kernel
theorem pd__Ljava_lang_String_Ljava_lang_String__Z_572 : parseMethodDescriptor "(Ljava/lang/String;Ljava/lang/String;)Z" = some ⟨[(.object "java/lang/String"), (.object "java/lang/String")], some .boolean⟩ := by decide +kernel
set_option maxRecDepth 65536 in
set_option maxHeartbeats 40000000 in
theorem rm0 (l : Launch) (Z : State) (a0 : Array Value) (hw : ∀ d ∈ tables_1, d.before a0 Z = true) (ws : List Jvm.Cond) (p0 p1 p2 p3 : Int32) (sc : Addr) (zc : Int32) (h0 : Heap) (n0 : Nat) (Z0 : n0 ≤ h0.size) (O0 : Old Z n0 h0) (Sc : Sta Z Z.heap "com/example/valve_per_tenant/valvepertenant/model/Scope" "OVERRIDE" "Lcom/example/valve_per_tenant/valvepertenant/model/Scope;" (.ref sc)) (Sz : Sta Z Z.heap "java/lang/String" "COMPACT_STRINGS" "Z" (.int zc)) (hzc : ¬ zc = 0) :
    MetFree l x (head1 (Jvm.Cond.code x code maxLocals ret :: ws) room_1) (fun aX UX => aX = #[(.int p0), (.int p1), (.int p2), (.int p3)] ∧ Z.Warmed39 UX.vm ∧ UX.heap = h0) (fun _ _ _ _ _ => True) (fun _ UX oX UX' => ∃ vX LX, oX = .returned vX ∧ Q0 Z  h0 n0 vX UX'.heap LX ∧ ReturnedEndW UX oX UX' LX room_1.cells room_1.slots) := by
  refine MetFree.of_bodySF (plainFor_of_name pn_com_example_valve_per_tenant_valvepertenant_store_BucketKeyOverridePinLaw) hisR ?_
  intro p e s m args below meth c s₁ Bd hml0 hP hK
  obtain ⟨rfl, hZ, hh⟩ := hP
  have hx := Bd.exec
  have hby := Bd.bytes
  have hml : c.maxLocals = 10 := hml0
  have hown : s.vm.findClass "com/example/valve_per_tenant/valvepertenant/store/BucketKeyOverridePinLaw" = some m.cls := findClass_of_methodNamed Bd.named
  have hnm := (name_of_methodNamed Bd.named Bd.method).1
  have X0 : Stand p l e room_1 (s.setVm s.vm) m #[(.int p0), (.int p1), (.int p2), (.int p3)] below meth c s₁ [] 0 0 := Stand.of_body Bd
  have hS : s.Since s.vm 0 := (State.WarmedH.refl s).since 0
  have hk : 0 ≤ h0.size := Nat.zero_le _
  have hZ : Z.Warmed39 (s.setVm s.vm).vm := hZ
  have hown : (s.setVm s.vm).vm.findClass "com/example/valve_per_tenant/valvepertenant/store/BucketKeyOverridePinLaw" = some m.cls := hown
  have e0 : s₁.heap = h0 := by rw [← hh, Bd.state]; rfl
  have N0 := Fr.nil n0
  show own_ComesW p e below s room_1.cells room_1.slots (Q0 Z  h0 n0) _
  rw [show entryFrame m #[(.int p0), (.int p1), (.int p2), (.int p3)] maxLocals = mkF m 0 #[.val (.int p0), .val (.int p1), .val (.int p2), .val (.int p3), .unset, .unset, .unset, .unset, .unset, .unset] [] from ef_rm0 m p0 p1 p2 p3]
  show own_ComesW p e below s _ _ _ (s₁.setTop (mkF m 0 #[.val (.int p0), .val (.int p1), .val (.int p2), .val (.int p3), .unset, .unset, .unset, .unset, .unset, .unset] []))
  refine own_byW (fun _ kS => XS.iloadN X0.here hx rfl (hb hby at_0) rfl kS) ?_
  show own_ComesW p e below s _ _ _ (s₁.setTop (mkF m 1 #[.val (.int p0), .val (.int p1), .val (.int p2), .val (.int p3), .unset, .unset, .unset, .unset, .unset, .unset] [(.int p3)]))
  refine own_byW (fun _ kS => XS.iconst X0.here hx rfl (hb hby at_1) kS) ?_
  show own_ComesW p e below s _ _ _ (s₁.setTop (mkF m 2 #[.val (.int p0), .val (.int p1), .val (.int p2), .val (.int p3), .unset, .unset, .unset, .unset, .unset, .unset] [(.int (1 : Int32)), (.int p3)]))
  refine own_byW (fun _ kS => XS.iand X0.here hx rfl (hb hby at_2) rfl kS) ?_
  show own_ComesW p e below s _ _ _ (s₁.setTop (mkF m 3 #[.val (.int p0), .val (.int p1), .val (.int p2), .val (.int p3), .unset, .unset, .unset, .unset, .unset, .unset] [(.int (p3 &&& (1 : Int32)))]))
  obtain ⟨z132, hz132, st132⟩ : ∃ z : Int32, ((((p3 &&& (1 : Int32)) = (0 : Int32)) ∧ z = (0 : Int32)) ∨ (¬ ((p3 &&& (1 : Int32)) = (0 : Int32)) ∧ z = (1 : Int32))) ∧ ∀ target, Steps p.tables e below (s₁.setTop (mkF m 11 #[.val (.int p0), .val (.int p1), .val (.int p2), .val (.int p3), .unset, .unset, .unset, .unset, .unset, .unset] [(.int z)])) target → Steps p.tables e below (s₁.setTop (mkF m 3 #[.val (.int p0), .val (.int p1), .val (.int p2), .val (.int p3), .unset, .unset, .unset, .unset, .unset, .unset] [(.int (p3 &&& (1 : Int32)))])) target := by
    by_cases hc : (p3 &&& (1 : Int32)) = (0 : Int32)
    · exact ⟨_, Or.inl ⟨hc, rfl⟩, fun _ kS => XS.ifYes X0.here hx rfl (pc0 := 3) (pc' := 10) rfl (hb hby at_3) rfl ((if0 _ _).trans (teq hc).1) (by decide) (by decide) (XS.iconst X0.here hx rfl (hb hby at_10) kS)⟩
    · exact ⟨_, Or.inr ⟨hc, rfl⟩, fun _ kS => XS.ifNo X0.here hx rfl (hb hby at_3) rfl ((if0 _ _).trans (feq hc).1) (XS.iconst X0.here hx rfl (hb hby at_6) (XS.goto X0.here hx rfl (pc0 := 7) (pc' := 11) rfl (hb hby at_7) (by decide) (by decide) kS))⟩
  refine own_byW st132 ?_
  show own_ComesW p e below s _ _ _ (s₁.setTop (mkF m 11 #[.val (.int p0), .val (.int p1), .val (.int p2), .val (.int p3), .unset, .unset, .unset, .unset, .unset, .unset] [(.int z132)]))
  refine own_byW (fun _ kS => XS.istore X0.here hx rfl (hb hby at_11) rfl (l' := #[.val (.int p0), .val (.int p1), .val (.int p2), .val (.int p3), .val (.int z132), .unset, .unset, .unset, .unset, .unset]) rfl kS) ?_
  show own_ComesW p e below s _ _ _ (s₁.setTop (mkF m 13 #[.val (.int p0), .val (.int p1), .val (.int p2), .val (.int p3), .val (.int z132), .unset, .unset, .unset, .unset, .unset] []))
  refine own_byW (fun _ kS => XS.iloadN X0.here hx rfl (hb hby at_13) rfl kS) ?_
  show own_ComesW p e below s _ _ _ (s₁.setTop (mkF m 14 #[.val (.int p0), .val (.int p1), .val (.int p2), .val (.int p3), .val (.int z132), .unset, .unset, .unset, .unset, .unset] [(.int p3)]))
  refine own_byW (fun _ kS => XS.iconst X0.here hx rfl (hb hby at_14) kS) ?_
  show own_ComesW p e below s _ _ _ (s₁.setTop (mkF m 15 #[.val (.int p0), .val (.int p1), .val (.int p2), .val (.int p3), .val (.int z132), .unset, .unset, .unset, .unset, .unset] [(.int (2 : Int32)), (.int p3)]))
  refine own_byW (fun _ kS => XS.iand X0.here hx rfl (hb hby at_15) rfl kS) ?_
  show own_ComesW p e below s _ _ _ (s₁.setTop (mkF m 16 #[.val (.int p0), .val (.int p1), .val (.int p2), .val (.int p3), .val (.int z132), .unset, .unset, .unset, .unset, .unset] [(.int (p3 &&& (2 : Int32)))]))
  obtain ⟨z133, hz133, st133⟩ : ∃ z : Int32, ((((p3 &&& (2 : Int32)) = (0 : Int32)) ∧ z = (0 : Int32)) ∨ (¬ ((p3 &&& (2 : Int32)) = (0 : Int32)) ∧ z = (1 : Int32))) ∧ ∀ target, Steps p.tables e below (s₁.setTop (mkF m 24 #[.val (.int p0), .val (.int p1), .val (.int p2), .val (.int p3), .val (.int z132), .unset, .unset, .unset, .unset, .unset] [(.int z)])) target → Steps p.tables e below (s₁.setTop (mkF m 16 #[.val (.int p0), .val (.int p1), .val (.int p2), .val (.int p3), .val (.int z132), .unset, .unset, .unset, .unset, .unset] [(.int (p3 &&& (2 : Int32)))])) target := by
    by_cases hc : (p3 &&& (2 : Int32)) = (0 : Int32)
    · exact ⟨_, Or.inl ⟨hc, rfl⟩, fun _ kS => XS.ifYes X0.here hx rfl (pc0 := 16) (pc' := 23) rfl (hb hby at_16) rfl ((if0 _ _).trans (teq hc).1) (by decide) (by decide) (XS.iconst X0.here hx rfl (hb hby at_23) kS)⟩
    · exact ⟨_, Or.inr ⟨hc, rfl⟩, fun _ kS => XS.ifNo X0.here hx rfl (hb hby at_16) rfl ((if0 _ _).trans (feq hc).1) (XS.iconst X0.here hx rfl (hb hby at_19) (XS.goto X0.here hx rfl (pc0 := 20) (pc' := 24) rfl (hb hby at_20) (by decide) (by decide) kS))⟩
  refine own_byW st133 ?_
  show own_ComesW p e below s _ _ _ (s₁.setTop (mkF m 24 #[.val (.int p0), .val (.int p1), .val (.int p2), .val (.int p3), .val (.int z132), .unset, .unset, .unset, .unset, .unset] [(.int z133)]))
  refine own_byW (fun _ kS => XS.istore X0.here hx rfl (hb hby at_24) rfl (l' := #[.val (.int p0), .val (.int p1), .val (.int p2), .val (.int p3), .val (.int z132), .val (.int z133), .unset, .unset, .unset, .unset]) rfl kS) ?_
  show own_ComesW p e below s _ _ _ (s₁.setTop (mkF m 26 #[.val (.int p0), .val (.int p1), .val (.int p2), .val (.int p3), .val (.int z132), .val (.int z133), .unset, .unset, .unset, .unset] []))
  refine own_byW (fun _ kS => XS.iloadN X0.here hx rfl (hb hby at_26) rfl kS) ?_
  show own_ComesW p e below s _ _ _ (s₁.setTop (mkF m 27 #[.val (.int p0), .val (.int p1), .val (.int p2), .val (.int p3), .val (.int z132), .val (.int z133), .unset, .unset, .unset, .unset] [(.int p0)]))
  refine own_byW (fun _ kS => XS.iloadN X0.here hx rfl (hb hby at_27) rfl kS) ?_
  show own_ComesW p e below s _ _ _ (s₁.setTop (mkF m 28 #[.val (.int p0), .val (.int p1), .val (.int p2), .val (.int p3), .val (.int z132), .val (.int z133), .unset, .unset, .unset, .unset] [(.int p3), (.int p0)]))
  refine own_byW (fun _ kS => XS.iconst X0.here hx rfl (hb hby at_28) kS) ?_
  show own_ComesW p e below s _ _ _ (s₁.setTop (mkF m 29 #[.val (.int p0), .val (.int p1), .val (.int p2), .val (.int p3), .val (.int z132), .val (.int z133), .unset, .unset, .unset, .unset] [(.int (4 : Int32)), (.int p3), (.int p0)]))
  refine own_byW (fun _ kS => XS.iand X0.here hx rfl (hb hby at_29) rfl kS) ?_
  show own_ComesW p e below s _ _ _ (s₁.setTop (mkF m 30 #[.val (.int p0), .val (.int p1), .val (.int p2), .val (.int p3), .val (.int z132), .val (.int z133), .unset, .unset, .unset, .unset] [(.int (p3 &&& (4 : Int32))), (.int p0)]))
  obtain ⟨z134, hz134, st134⟩ : ∃ z : Int32, ((((p3 &&& (4 : Int32)) = (0 : Int32)) ∧ z = (0 : Int32)) ∨ (¬ ((p3 &&& (4 : Int32)) = (0 : Int32)) ∧ z = (1 : Int32))) ∧ ∀ target, Steps p.tables e below (s₁.setTop (mkF m 38 #[.val (.int p0), .val (.int p1), .val (.int p2), .val (.int p3), .val (.int z132), .val (.int z133), .unset, .unset, .unset, .unset] [(.int z), (.int p0)])) target → Steps p.tables e below (s₁.setTop (mkF m 30 #[.val (.int p0), .val (.int p1), .val (.int p2), .val (.int p3), .val (.int z132), .val (.int z133), .unset, .unset, .unset, .unset] [(.int (p3 &&& (4 : Int32))), (.int p0)])) target := by
    by_cases hc : (p3 &&& (4 : Int32)) = (0 : Int32)
    · exact ⟨_, Or.inl ⟨hc, rfl⟩, fun _ kS => XS.ifYes X0.here hx rfl (pc0 := 30) (pc' := 37) rfl (hb hby at_30) rfl ((if0 _ _).trans (teq hc).1) (by decide) (by decide) (XS.iconst X0.here hx rfl (hb hby at_37) kS)⟩
    · exact ⟨_, Or.inr ⟨hc, rfl⟩, fun _ kS => XS.ifNo X0.here hx rfl (hb hby at_30) rfl ((if0 _ _).trans (feq hc).1) (XS.iconst X0.here hx rfl (hb hby at_33) (XS.goto X0.here hx rfl (pc0 := 34) (pc' := 38) rfl (hb hby at_34) (by decide) (by decide) kS))⟩
  refine own_byW st134 ?_
  show own_ComesW p e below s _ _ _ (s₁.setTop (mkF m 38 #[.val (.int p0), .val (.int p1), .val (.int p2), .val (.int p3), .val (.int z132), .val (.int z133), .unset, .unset, .unset, .unset] [(.int z134), (.int p0)]))
  obtain ⟨_, _, ⟨T135, L135, k135, n135⟩, -, X135, ⟨Lc135, hQ135, l135, y135, z135⟩, st135⟩ := Jvm.LawKit.callS X0 hx (y := (⟨"com/example/valve_per_tenant/valvepertenant/store/BucketKeyOverridePinLaw", "drawn", "(IZ)Ljava/lang/String;"⟩ : MethodName)) hown (mvT hZ (hw _ (List.mem_of_getElem? (i := 0) rfl))) (mvT hZ (hw _ (List.mem_of_getElem? (i := 1) rfl))) (mvT hZ (hw _ (List.mem_of_getElem? (i := 2) rfl))) (mvT hZ (hw _ (List.mem_of_getElem? (i := 3) rfl))) (by decide) (backOf (W := 0) (rm1 l Z a0 hw [] p0 z134 zc h0 n0 Z0 O0 Sz hzc) hZ (hw _ (List.mem_of_getElem? (i := 3) rfl)) (hw _ (List.mem_of_getElem? (i := 2) rfl)) (by decide) (by decide)) (g := (mkF m 38 #[.val (.int p0), .val (.int p1), .val (.int p2), .val (.int p3), .val (.int z132), .val (.int z133), .unset, .unset, .unset, .unset] [(.int z134), (.int p0)])) rfl (by rw [hml]; rfl) (argsL := [(.int p0), (.int z134)]) (rest := []) (lenOf pd__IZ_Ljava_lang_String__943 rfl) rfl (by show 2 * 0 + _ ≤ _; exact Nat.le_of_eq rfl) (hb hby at_38) (fun _ _ => ⟨rfl, e0, (by decide : 0 + 3 ≤ _), (by decide : 0 + 8 ≤ _)⟩)
  dsimp only [Pt.U, Pt.locs, Pt.cells, Pt.slots] at X135 l135 y135 z135 st135 hQ135
  subst l135 y135 z135
  obtain ⟨a135, rfl, N135q, E135, S135⟩ := hQ135
  have N135 := Fr.app N0 N135q
  refine own_byW st135 ?_
  show own_ComesW p e below s _ _ _ (T135.setTop (mkF m 41 #[.val (.int p0), .val (.int p1), .val (.int p2), .val (.int p3), .val (.int z132), .val (.int z133), .unset, .unset, .unset, .unset] [(.ref a135)]))
  refine own_byW (fun _ kS => XS.astore X135.here hx rfl (hb hby at_41) rfl rfl (l' := #[.val (.int p0), .val (.int p1), .val (.int p2), .val (.int p3), .val (.int z132), .val (.int z133), .val (.ref a135), .unset, .unset, .unset]) rfl kS) ?_
  show own_ComesW p e below s _ _ _ (T135.setTop (mkF m 43 #[.val (.int p0), .val (.int p1), .val (.int p2), .val (.int p3), .val (.int z132), .val (.int z133), .val (.ref a135), .unset, .unset, .unset] []))
  refine own_byW (fun _ kS => XS.iload X135.here hx rfl (hb hby at_43) rfl kS) ?_
  show own_ComesW p e below s _ _ _ (T135.setTop (mkF m 45 #[.val (.int p0), .val (.int p1), .val (.int p2), .val (.int p3), .val (.int z132), .val (.int z133), .val (.ref a135), .unset, .unset, .unset] [(.int z132)]))
  by_cases hun : z132 = (0 : Int32)
  · refine own_byW (fun _ kS => XS.ifYes X135.here hx rfl (pc0 := 45) (pc' := 52) rfl (hb hby at_45) rfl ((if0 _ _).trans (teq hun).1) (by decide) (by decide) kS) ?_
    show own_ComesW p e below s _ _ _ (T135.setTop (mkF m 52 #[.val (.int p0), .val (.int p1), .val (.int p2), .val (.int p3), .val (.int z132), .val (.int z133), .val (.ref a135), .unset, .unset, .unset] []))
    refine own_byW (fun _ kS => XS.iloadN X135.here hx rfl (hb hby at_52) rfl kS) ?_
    show own_ComesW p e below s _ _ _ (T135.setTop (mkF m 53 #[.val (.int p0), .val (.int p1), .val (.int p2), .val (.int p3), .val (.int z132), .val (.int z133), .val (.ref a135), .unset, .unset, .unset] [(.int p1)]))
    refine own_byW (fun _ kS => XS.iloadN X135.here hx rfl (hb hby at_53) rfl kS) ?_
    show own_ComesW p e below s _ _ _ (T135.setTop (mkF m 54 #[.val (.int p0), .val (.int p1), .val (.int p2), .val (.int p3), .val (.int z132), .val (.int z133), .val (.ref a135), .unset, .unset, .unset] [(.int p3), (.int p1)]))
    refine own_byW (fun _ kS => XS.bipush X135.here hx rfl (hb hby at_54) kS) ?_
    show own_ComesW p e below s _ _ _ (T135.setTop (mkF m 56 #[.val (.int p0), .val (.int p1), .val (.int p2), .val (.int p3), .val (.int z132), .val (.int z133), .val (.ref a135), .unset, .unset, .unset] [(.int (8 : Int32)), (.int p3), (.int p1)]))
    refine own_byW (fun _ kS => XS.iand X135.here hx rfl (hb hby at_56) rfl kS) ?_
    show own_ComesW p e below s _ _ _ (T135.setTop (mkF m 57 #[.val (.int p0), .val (.int p1), .val (.int p2), .val (.int p3), .val (.int z132), .val (.int z133), .val (.ref a135), .unset, .unset, .unset] [(.int (p3 &&& (8 : Int32))), (.int p1)]))
    obtain ⟨z136, hz136, st136⟩ : ∃ z : Int32, ((((p3 &&& (8 : Int32)) = (0 : Int32)) ∧ z = (0 : Int32)) ∨ (¬ ((p3 &&& (8 : Int32)) = (0 : Int32)) ∧ z = (1 : Int32))) ∧ ∀ target, Steps p.tables e below (T135.setTop (mkF m 65 #[.val (.int p0), .val (.int p1), .val (.int p2), .val (.int p3), .val (.int z132), .val (.int z133), .val (.ref a135), .unset, .unset, .unset] [(.int z), (.int p1)])) target → Steps p.tables e below (T135.setTop (mkF m 57 #[.val (.int p0), .val (.int p1), .val (.int p2), .val (.int p3), .val (.int z132), .val (.int z133), .val (.ref a135), .unset, .unset, .unset] [(.int (p3 &&& (8 : Int32))), (.int p1)])) target := by
      by_cases hc : (p3 &&& (8 : Int32)) = (0 : Int32)
      · exact ⟨_, Or.inl ⟨hc, rfl⟩, fun _ kS => XS.ifYes X135.here hx rfl (pc0 := 57) (pc' := 64) rfl (hb hby at_57) rfl ((if0 _ _).trans (teq hc).1) (by decide) (by decide) (XS.iconst X135.here hx rfl (hb hby at_64) kS)⟩
      · exact ⟨_, Or.inr ⟨hc, rfl⟩, fun _ kS => XS.ifNo X135.here hx rfl (hb hby at_57) rfl ((if0 _ _).trans (feq hc).1) (XS.iconst X135.here hx rfl (hb hby at_60) (XS.goto X135.here hx rfl (pc0 := 61) (pc' := 65) rfl (hb hby at_61) (by decide) (by decide) kS))⟩
    refine own_byW st136 ?_
    show own_ComesW p e below s _ _ _ (T135.setTop (mkF m 65 #[.val (.int p0), .val (.int p1), .val (.int p2), .val (.int p3), .val (.int z132), .val (.int z133), .val (.ref a135), .unset, .unset, .unset] [(.int z136), (.int p1)]))
    obtain ⟨_, _, ⟨T137, L137, k137, n137⟩, -, X137, ⟨Lc137, hQ137, l137, y137, z137⟩, st137⟩ := Jvm.LawKit.callS X135 hx (y := (⟨"com/example/valve_per_tenant/valvepertenant/store/BucketKeyOverridePinLaw", "drawn", "(IZ)Ljava/lang/String;"⟩ : MethodName)) hown (mvT hZ (hw _ (List.mem_of_getElem? (i := 0) rfl))) (mvT hZ (hw _ (List.mem_of_getElem? (i := 1) rfl))) (mvT hZ (hw _ (List.mem_of_getElem? (i := 2) rfl))) (mvT hZ (hw _ (List.mem_of_getElem? (i := 3) rfl))) (by decide) (backOf (W := 0) (rm1 l Z a0 hw [] p1 z136 zc T135.heap n0 (Nat.le_trans Z0 E135.1) (O0.ext E135) Sz hzc) hZ (hw _ (List.mem_of_getElem? (i := 3) rfl)) (hw _ (List.mem_of_getElem? (i := 2) rfl)) (by decide) (by decide)) (g := (mkF m 65 #[.val (.int p0), .val (.int p1), .val (.int p2), .val (.int p3), .val (.int z132), .val (.int z133), .val (.ref a135), .unset, .unset, .unset] [(.int z136), (.int p1)])) rfl (by rw [hml]; rfl) (argsL := [(.int p1), (.int z136)]) (rest := []) (lenOf pd__IZ_Ljava_lang_String__943 rfl) rfl (by show 2 * 0 + _ ≤ _; exact Nat.le_of_eq rfl) (hb hby at_65) (fun _ _ => ⟨rfl, rfl, (by decide : 3 + 3 ≤ _), (by decide : 8 + 8 ≤ _)⟩)
    dsimp only [Pt.U, Pt.locs, Pt.cells, Pt.slots] at X137 l137 y137 z137 st137 hQ137
    subst l137 y137 z137
    obtain ⟨a137, rfl, N137q, E137, S137⟩ := hQ137
    have N137 := Fr.app N135 N137q
    refine own_byW st137 ?_
    show own_ComesW p e below s _ _ _ (T137.setTop (mkF m 68 #[.val (.int p0), .val (.int p1), .val (.int p2), .val (.int p3), .val (.int z132), .val (.int z133), .val (.ref a135), .unset, .unset, .unset] [(.ref a137)]))
    refine own_byW (fun _ kS => XS.astore X137.here hx rfl (hb hby at_68) rfl rfl (l' := #[.val (.int p0), .val (.int p1), .val (.int p2), .val (.int p3), .val (.int z132), .val (.int z133), .val (.ref a135), .val (.ref a137), .unset, .unset]) rfl kS) ?_
    show own_ComesW p e below s _ _ _ (T137.setTop (mkF m 70 #[.val (.int p0), .val (.int p1), .val (.int p2), .val (.int p3), .val (.int z132), .val (.int z133), .val (.ref a135), .val (.ref a137), .unset, .unset] []))
    refine own_byW (fun _ kS => XS.iload X137.here hx rfl (hb hby at_70) rfl kS) ?_
    show own_ComesW p e below s _ _ _ (T137.setTop (mkF m 72 #[.val (.int p0), .val (.int p1), .val (.int p2), .val (.int p3), .val (.int z132), .val (.int z133), .val (.ref a135), .val (.ref a137), .unset, .unset] [(.int z133)]))
    by_cases hen : z133 = (0 : Int32)
    · refine own_byW (fun _ kS => XS.ifYes X137.here hx rfl (pc0 := 72) (pc' := 79) rfl (hb hby at_72) rfl ((if0 _ _).trans (teq hen).1) (by decide) (by decide) kS) ?_
      show own_ComesW p e below s _ _ _ (T137.setTop (mkF m 79 #[.val (.int p0), .val (.int p1), .val (.int p2), .val (.int p3), .val (.int z132), .val (.int z133), .val (.ref a135), .val (.ref a137), .unset, .unset] []))
      refine own_byW (fun _ kS => XS.iloadN X137.here hx rfl (hb hby at_79) rfl kS) ?_
      show own_ComesW p e below s _ _ _ (T137.setTop (mkF m 80 #[.val (.int p0), .val (.int p1), .val (.int p2), .val (.int p3), .val (.int z132), .val (.int z133), .val (.ref a135), .val (.ref a137), .unset, .unset] [(.int p2)]))
      refine own_byW (fun _ kS => XS.iloadN X137.here hx rfl (hb hby at_80) rfl kS) ?_
      show own_ComesW p e below s _ _ _ (T137.setTop (mkF m 81 #[.val (.int p0), .val (.int p1), .val (.int p2), .val (.int p3), .val (.int z132), .val (.int z133), .val (.ref a135), .val (.ref a137), .unset, .unset] [(.int p3), (.int p2)]))
      refine own_byW (fun _ kS => XS.bipush X137.here hx rfl (hb hby at_81) kS) ?_
      show own_ComesW p e below s _ _ _ (T137.setTop (mkF m 83 #[.val (.int p0), .val (.int p1), .val (.int p2), .val (.int p3), .val (.int z132), .val (.int z133), .val (.ref a135), .val (.ref a137), .unset, .unset] [(.int (16 : Int32)), (.int p3), (.int p2)]))
      refine own_byW (fun _ kS => XS.iand X137.here hx rfl (hb hby at_83) rfl kS) ?_
      show own_ComesW p e below s _ _ _ (T137.setTop (mkF m 84 #[.val (.int p0), .val (.int p1), .val (.int p2), .val (.int p3), .val (.int z132), .val (.int z133), .val (.ref a135), .val (.ref a137), .unset, .unset] [(.int (p3 &&& (16 : Int32))), (.int p2)]))
      obtain ⟨z138, hz138, st138⟩ : ∃ z : Int32, ((((p3 &&& (16 : Int32)) = (0 : Int32)) ∧ z = (0 : Int32)) ∨ (¬ ((p3 &&& (16 : Int32)) = (0 : Int32)) ∧ z = (1 : Int32))) ∧ ∀ target, Steps p.tables e below (T137.setTop (mkF m 92 #[.val (.int p0), .val (.int p1), .val (.int p2), .val (.int p3), .val (.int z132), .val (.int z133), .val (.ref a135), .val (.ref a137), .unset, .unset] [(.int z), (.int p2)])) target → Steps p.tables e below (T137.setTop (mkF m 84 #[.val (.int p0), .val (.int p1), .val (.int p2), .val (.int p3), .val (.int z132), .val (.int z133), .val (.ref a135), .val (.ref a137), .unset, .unset] [(.int (p3 &&& (16 : Int32))), (.int p2)])) target := by
        by_cases hc : (p3 &&& (16 : Int32)) = (0 : Int32)
        · exact ⟨_, Or.inl ⟨hc, rfl⟩, fun _ kS => XS.ifYes X137.here hx rfl (pc0 := 84) (pc' := 91) rfl (hb hby at_84) rfl ((if0 _ _).trans (teq hc).1) (by decide) (by decide) (XS.iconst X137.here hx rfl (hb hby at_91) kS)⟩
        · exact ⟨_, Or.inr ⟨hc, rfl⟩, fun _ kS => XS.ifNo X137.here hx rfl (hb hby at_84) rfl ((if0 _ _).trans (feq hc).1) (XS.iconst X137.here hx rfl (hb hby at_87) (XS.goto X137.here hx rfl (pc0 := 88) (pc' := 92) rfl (hb hby at_88) (by decide) (by decide) kS))⟩
      refine own_byW st138 ?_
      show own_ComesW p e below s _ _ _ (T137.setTop (mkF m 92 #[.val (.int p0), .val (.int p1), .val (.int p2), .val (.int p3), .val (.int z132), .val (.int z133), .val (.ref a135), .val (.ref a137), .unset, .unset] [(.int z138), (.int p2)]))
      obtain ⟨_, _, ⟨T139, L139, k139, n139⟩, -, X139, ⟨Lc139, hQ139, l139, y139, z139⟩, st139⟩ := Jvm.LawKit.callS X137 hx (y := (⟨"com/example/valve_per_tenant/valvepertenant/store/BucketKeyOverridePinLaw", "drawn", "(IZ)Ljava/lang/String;"⟩ : MethodName)) hown (mvT hZ (hw _ (List.mem_of_getElem? (i := 0) rfl))) (mvT hZ (hw _ (List.mem_of_getElem? (i := 1) rfl))) (mvT hZ (hw _ (List.mem_of_getElem? (i := 2) rfl))) (mvT hZ (hw _ (List.mem_of_getElem? (i := 3) rfl))) (by decide) (backOf (W := 0) (rm1 l Z a0 hw [] p2 z138 zc T137.heap n0 (Nat.le_trans (Nat.le_trans Z0 E135.1) E137.1) ((O0.ext E135).ext E137) Sz hzc) hZ (hw _ (List.mem_of_getElem? (i := 3) rfl)) (hw _ (List.mem_of_getElem? (i := 2) rfl)) (by decide) (by decide)) (g := (mkF m 92 #[.val (.int p0), .val (.int p1), .val (.int p2), .val (.int p3), .val (.int z132), .val (.int z133), .val (.ref a135), .val (.ref a137), .unset, .unset] [(.int z138), (.int p2)])) rfl (by rw [hml]; rfl) (argsL := [(.int p2), (.int z138)]) (rest := []) (lenOf pd__IZ_Ljava_lang_String__943 rfl) rfl (by show 2 * 0 + _ ≤ _; exact Nat.le_of_eq rfl) (hb hby at_92) (fun _ _ => ⟨rfl, rfl, (by decide : 6 + 3 ≤ _), (by decide : 16 + 8 ≤ _)⟩)
      dsimp only [Pt.U, Pt.locs, Pt.cells, Pt.slots] at X139 l139 y139 z139 st139 hQ139
      subst l139 y139 z139
      obtain ⟨a139, rfl, N139q, E139, S139⟩ := hQ139
      have N139 := Fr.app N137 N139q
      refine own_byW st139 ?_
      show own_ComesW p e below s _ _ _ (T139.setTop (mkF m 95 #[.val (.int p0), .val (.int p1), .val (.int p2), .val (.int p3), .val (.int z132), .val (.int z133), .val (.ref a135), .val (.ref a137), .unset, .unset] [(.ref a139)]))
      refine own_byW (fun _ kS => XS.astore X139.here hx rfl (hb hby at_95) rfl rfl (l' := #[.val (.int p0), .val (.int p1), .val (.int p2), .val (.int p3), .val (.int z132), .val (.int z133), .val (.ref a135), .val (.ref a137), .val (.ref a139), .unset]) rfl kS) ?_
      show own_ComesW p e below s _ _ _ (T139.setTop (mkF m 97 #[.val (.int p0), .val (.int p1), .val (.int p2), .val (.int p3), .val (.int z132), .val (.int z133), .val (.ref a135), .val (.ref a137), .val (.ref a139), .unset] []))
      refine own_byW (fun _ kS => XS.aload X139.here hx rfl (hb hby at_97) rfl rfl kS) ?_
      show own_ComesW p e below s _ _ _ (T139.setTop (mkF m 99 #[.val (.int p0), .val (.int p1), .val (.int p2), .val (.int p3), .val (.int z132), .val (.int z133), .val (.ref a135), .val (.ref a137), .val (.ref a139), .unset] [(.ref a135)]))
      refine own_byW (fun _ kS => XS.aload X139.here hx rfl (hb hby at_99) rfl rfl kS) ?_
      show own_ComesW p e below s _ _ _ (T139.setTop (mkF m 101 #[.val (.int p0), .val (.int p1), .val (.int p2), .val (.int p3), .val (.int z132), .val (.int z133), .val (.ref a135), .val (.ref a137), .val (.ref a139), .unset] [(.ref a137), (.ref a135)]))
      refine own_byW (fun _ kS => XS.aload X139.here hx rfl (hb hby at_101) rfl rfl kS) ?_
      show own_ComesW p e below s _ _ _ (T139.setTop (mkF m 103 #[.val (.int p0), .val (.int p1), .val (.int p2), .val (.int p3), .val (.int z132), .val (.int z133), .val (.ref a135), .val (.ref a137), .val (.ref a139), .unset] [(.ref a139), (.ref a137), (.ref a135)]))
      obtain ⟨_, _, ⟨T140, L140, k140, n140⟩, -, Xw140, hs140, gr140, ⟨Lc140, hQ140, l140, y140, z140⟩, st140⟩ := callSS X139 hx (y := (⟨"com/example/valve_per_tenant/valvepertenant/store/BucketKey", "override", "(Ljava/lang/String;Ljava/lang/String;Ljava/lang/String;)Lcom/example/valve_per_tenant/valvepertenant/store/BucketKey;"⟩ : MethodName)) hown (mvT hZ (hw _ (List.mem_of_getElem? (i := 34) rfl))) (mvT hZ (hw _ (List.mem_of_getElem? (i := 35) rfl))) (mvT hZ (hw _ (List.mem_of_getElem? (i := 36) rfl))) (mvT hZ (hw _ (List.mem_of_getElem? (i := 37) rfl))) (by decide) (backOfS (W := 0) (rm8rr l Z a0 hw [] sc a135 a137 a139 T139.heap n0 (Nat.le_trans (Nat.le_trans (Nat.le_trans Z0 E135.1) E137.1) E139.1) (((O0.ext E135).ext E137).ext E139) Sc ((S135.ext E137).ext E139) (S137.ext E139) S139) hZ (hw _ (List.mem_of_getElem? (i := 37) rfl)) (hw _ (List.mem_of_getElem? (i := 36) rfl)) (by decide) (by decide)) (g := (mkF m 103 #[.val (.int p0), .val (.int p1), .val (.int p2), .val (.int p3), .val (.int z132), .val (.int z133), .val (.ref a135), .val (.ref a137), .val (.ref a139), .unset] [(.ref a139), (.ref a137), (.ref a135)])) rfl (by rw [hml]; rfl) (argsL := [(.ref a135), (.ref a137), (.ref a139)]) (rest := []) (lenOf pd__Ljava_lang_String_Ljava_lang_String_Ljava_lang_String__Lcom_example_valve_per_tenant_valvepertenant_store_BucketKey__327 rfl) rfl (by show 2 * 0 + _ ≤ _; exact Nat.le_of_eq rfl) (hb hby at_103) (fun _ _ => ⟨rfl, rfl, (by decide : 9 + 7 ≤ _), (by decide : 24 + 89 ≤ _)⟩)
      dsimp only [Pt.U, Pt.locs, Pt.cells, Pt.slots] at Xw140 l140 y140 z140 st140 hQ140 hs140 gr140
      subst l140 y140 z140
      obtain ⟨X140, hS140, hZ140, hown140⟩ := rebS hS (Nat.le_trans (Nat.le_trans (Nat.le_trans hk E135.1) E137.1) E139.1) Xw140 hs140 gr140 hZ hown
      obtain ⟨a140, rfl, N140q, E140, B140⟩ := hQ140
      have N140 := Fr.app N139 N140q
      refine own_trW st140 ?_
      show own_ComesW p e below s _ _ _ (T140.setTop (mkF m 106 #[.val (.int p0), .val (.int p1), .val (.int p2), .val (.int p3), .val (.int z132), .val (.int z133), .val (.ref a135), .val (.ref a137), .val (.ref a139), .unset] [(.ref a140)]))
      refine own_byW (fun _ kS => XS.astore X140.here hx rfl (hb hby at_106) rfl rfl (l' := #[.val (.int p0), .val (.int p1), .val (.int p2), .val (.int p3), .val (.int z132), .val (.int z133), .val (.ref a135), .val (.ref a137), .val (.ref a139), .val (.ref a140)]) rfl kS) ?_
      show own_ComesW p e below s _ _ _ (T140.setTop (mkF m 108 #[.val (.int p0), .val (.int p1), .val (.int p2), .val (.int p3), .val (.int z132), .val (.int z133), .val (.ref a135), .val (.ref a137), .val (.ref a139), .val (.ref a140)] []))
      refine own_byW (fun _ kS => XS.aload X140.here hx rfl (hb hby at_108) rfl rfl kS) ?_
      show own_ComesW p e below s _ _ _ (T140.setTop (mkF m 110 #[.val (.int p0), .val (.int p1), .val (.int p2), .val (.int p3), .val (.int z132), .val (.int z133), .val (.ref a135), .val (.ref a137), .val (.ref a139), .val (.ref a140)] [(.ref a140)]))
      refine own_byW (fun _ kS => XS.ifnonnullYes X140.here hx rfl (pc0 := 110) (pc' := 115) rfl (hb hby at_110) rfl (by decide) (by decide) kS) ?_
      show own_ComesW p e below s _ _ _ (T140.setTop (mkF m 115 #[.val (.int p0), .val (.int p1), .val (.int p2), .val (.int p3), .val (.int z132), .val (.int z133), .val (.ref a135), .val (.ref a137), .val (.ref a139), .val (.ref a140)] []))
      refine own_byW (fun _ kS => XS.aload X140.here hx rfl (hb hby at_115) rfl rfl kS) ?_
      show own_ComesW p e below s _ _ _ (T140.setTop (mkF m 117 #[.val (.int p0), .val (.int p1), .val (.int p2), .val (.int p3), .val (.int z132), .val (.int z133), .val (.ref a135), .val (.ref a137), .val (.ref a139), .val (.ref a140)] [(.ref a140)]))
      obtain ⟨cq141, kq141, q141a, q141b, q141c⟩ := isOf hZ140 rfl B140.1
      obtain ⟨_, _, ⟨T141, L141, k141, n141⟩, -, X141, ⟨Lc141, hQ141, l141, y141, z141⟩, st141⟩ := X140.virtualBack hx (y := (⟨"com/example/valve_per_tenant/valvepertenant/store/BucketKey", "getScope", "()Lcom/example/valve_per_tenant/valvepertenant/model/Scope;"⟩ : MethodName)) (z := (⟨"com/example/valve_per_tenant/valvepertenant/store/BucketKey", "getScope", "()Lcom/example/valve_per_tenant/valvepertenant/model/Scope;"⟩ : MethodName)) hown140 (mvT hZ140 (hw _ (List.mem_of_getElem? (i := 69) rfl))) (mvT hZ140 (hw _ (List.mem_of_getElem? (i := 70) rfl))) (notFace_of_selects (args := #[]) (mvT hZ140 (hw _ (List.mem_of_getElem? (i := 72) rfl)))) (mvT hZ140 (hw _ (List.mem_of_getElem? (i := 72) rfl))) (mvT hZ140 (hw _ (List.mem_of_getElem? (i := 71) rfl))) (by decide) (backOf (W := 0) (rm12 l Z a0 hw [] a140 (.ref sc) T140.heap n0 (Nat.le_trans (Nat.le_trans (Nat.le_trans (Nat.le_trans Z0 E135.1) E137.1) E139.1) E140.1) B140.2.1 rfl) hZ140 (hw _ (List.mem_of_getElem? (i := 73) rfl)) (hw _ (List.mem_of_getElem? (i := 36) rfl)) (by decide) (by decide)) q141a q141c (g := (mkF m 117 #[.val (.int p0), .val (.int p1), .val (.int p2), .val (.int p3), .val (.int z132), .val (.int z133), .val (.ref a135), .val (.ref a137), .val (.ref a139), .val (.ref a140)] [(.ref a140)])) rfl (by rw [hml]; rfl) (Steps.refl _) (argsL := []) (rest := []) (lenOf pd___Lcom_example_valve_per_tenant_valvepertenant_model_Scope__796 rfl) rfl (by show 2 * 0 + _ ≤ _; exact Nat.le_of_eq rfl) (hb hby at_117) (fun _ _ => ⟨rfl, rfl, (by decide : 16 + 0 ≤ _), (by decide : 113 + 0 ≤ _)⟩)
      dsimp only [Pt.U, Pt.locs, Pt.cells, Pt.slots] at X141 l141 y141 z141 st141 hQ141
      subst l141 y141 z141
      obtain ⟨rfl, N141q, e141q⟩ := hQ141
      have N141 := Fr.app N140 N141q
      refine own_trW st141 ?_
      have e141 : T141.heap = T140.heap := e141q
      show own_ComesW p e below s _ _ _ (T141.setTop (mkF m 120 #[.val (.int p0), .val (.int p1), .val (.int p2), .val (.int p3), .val (.int z132), .val (.int z133), .val (.ref a135), .val (.ref a137), .val (.ref a139), .val (.ref a140)] [(.ref sc)]))
      obtain ⟨T142, X142, e142, st142⟩ := getS2 X141 hx hZ140 hown140 (host := "") (Or.inl (hw _ (List.mem_of_getElem? (i := 74) rfl))) Via.refl e141 (Sc.ext ((((O0.ext E135).ext E137).ext E139).ext E140).2) (g := (mkF m 120 #[.val (.int p0), .val (.int p1), .val (.int p2), .val (.int p3), .val (.int z132), .val (.int z133), .val (.ref a135), .val (.ref a137), .val (.ref a139), .val (.ref a140)] [(.ref sc)])) rfl (hb hby at_120)
      refine own_byW st142 ?_
      show own_ComesW p e below s _ _ _ (T142.setTop (mkF m 123 #[.val (.int p0), .val (.int p1), .val (.int p2), .val (.int p3), .val (.int z132), .val (.int z133), .val (.ref a135), .val (.ref a137), .val (.ref a139), .val (.ref a140)] [(.ref sc), (.ref sc)]))
      refine own_byW (fun _ kS => Jvm.RoadKit.acmp (g := (mkF m 123 #[.val (.int p0), .val (.int p1), .val (.int p2), .val (.int p3), .val (.int z132), .val (.int z133), .val (.ref a135), .val (.ref a137), .val (.ref a139), .val (.ref a140)] [(.ref sc), (.ref sc)])) X142 hx rfl rfl rfl (pc0 := 123) (pc' := 126) (same := true) rfl (hb hby at_123) rfl (decide_eq_true rfl) (by decide) (by decide) kS) ?_
      show own_ComesW p e below s _ _ _ (T142.setTop (mkF m 126 #[.val (.int p0), .val (.int p1), .val (.int p2), .val (.int p3), .val (.int z132), .val (.int z133), .val (.ref a135), .val (.ref a137), .val (.ref a139), .val (.ref a140)] []))
      refine own_byW (fun _ kS => XS.aload X142.here hx rfl (hb hby at_126) rfl rfl kS) ?_
      show own_ComesW p e below s _ _ _ (T142.setTop (mkF m 128 #[.val (.int p0), .val (.int p1), .val (.int p2), .val (.int p3), .val (.int z132), .val (.int z133), .val (.ref a135), .val (.ref a137), .val (.ref a139), .val (.ref a140)] [(.ref a135)]))
      refine own_byW (fun _ kS => XS.aload X142.here hx rfl (hb hby at_128) rfl rfl kS) ?_
      show own_ComesW p e below s _ _ _ (T142.setTop (mkF m 130 #[.val (.int p0), .val (.int p1), .val (.int p2), .val (.int p3), .val (.int z132), .val (.int z133), .val (.ref a135), .val (.ref a137), .val (.ref a139), .val (.ref a140)] [(.ref a140), (.ref a135)]))
      obtain ⟨cq143, kq143, q143a, q143b, q143c⟩ := isOf hZ140 e142 B140.1
      obtain ⟨_, _, ⟨T143, L143, k143, n143⟩, -, X143, ⟨Lc143, hQ143, l143, y143, z143⟩, st143⟩ := X142.virtualBack hx (y := (⟨"com/example/valve_per_tenant/valvepertenant/store/BucketKey", "getTenant", "()Ljava/lang/String;"⟩ : MethodName)) (z := (⟨"com/example/valve_per_tenant/valvepertenant/store/BucketKey", "getTenant", "()Ljava/lang/String;"⟩ : MethodName)) hown140 (mvT hZ140 (hw _ (List.mem_of_getElem? (i := 75) rfl))) (mvT hZ140 (hw _ (List.mem_of_getElem? (i := 76) rfl))) (notFace_of_selects (args := #[]) (mvT hZ140 (hw _ (List.mem_of_getElem? (i := 78) rfl)))) (mvT hZ140 (hw _ (List.mem_of_getElem? (i := 78) rfl))) (mvT hZ140 (hw _ (List.mem_of_getElem? (i := 77) rfl))) (by decide) (backOf (W := 1) (rm13 l Z a0 hw [] a140 (.ref a135) T140.heap n0 (Nat.le_trans (Nat.le_trans (Nat.le_trans (Nat.le_trans Z0 E135.1) E137.1) E139.1) E140.1) B140.2.2.1 rfl) hZ140 (hw _ (List.mem_of_getElem? (i := 79) rfl)) (hw _ (List.mem_of_getElem? (i := 36) rfl)) (by decide) (by decide)) q143a q143c (g := (mkF m 130 #[.val (.int p0), .val (.int p1), .val (.int p2), .val (.int p3), .val (.int z132), .val (.int z133), .val (.ref a135), .val (.ref a137), .val (.ref a139), .val (.ref a140)] [(.ref a140), (.ref a135)])) rfl (by rw [hml]; rfl) (Steps.refl _) (argsL := []) (rest := [(.ref a135)]) (lenOf pd___Ljava_lang_String__780 rfl) rfl (by show 2 * 0 + _ ≤ _; exact Nat.le_of_eq rfl) (hb hby at_130) (fun _ _ => ⟨rfl, e142, (by decide : 16 + 0 ≤ _), (by decide : 113 + 0 ≤ _)⟩)
      dsimp only [Pt.U, Pt.locs, Pt.cells, Pt.slots] at X143 l143 y143 z143 st143 hQ143
      subst l143 y143 z143
      obtain ⟨rfl, N143q, e143q⟩ := hQ143
      have N143 := Fr.app N141 N143q
      refine own_trW st143 ?_
      have e143 : T143.heap = T140.heap := e143q
      show own_ComesW p e below s _ _ _ (T143.setTop (mkF m 133 #[.val (.int p0), .val (.int p1), .val (.int p2), .val (.int p3), .val (.int z132), .val (.int z133), .val (.ref a135), .val (.ref a137), .val (.ref a139), .val (.ref a140)] [(.ref a135), (.ref a135)]))
      obtain ⟨_, _, ⟨T144, L144, k144, n144⟩, -, X144, ⟨Lc144, hQ144, l144, y144, z144⟩, st144⟩ := Jvm.LawKit.callS X143 hx (y := (⟨"com/example/valve_per_tenant/valvepertenant/store/BucketKeyOverridePinLaw", "same", "(Ljava/lang/String;Ljava/lang/String;)Z"⟩ : MethodName)) hown140 (mvT hZ140 (hw _ (List.mem_of_getElem? (i := 80) rfl))) (mvT hZ140 (hw _ (List.mem_of_getElem? (i := 81) rfl))) (mvT hZ140 (hw _ (List.mem_of_getElem? (i := 2) rfl))) (mvT hZ140 (hw _ (List.mem_of_getElem? (i := 82) rfl))) (by decide) (backOf (W := 0) (rm14r l Z a0 hw [] a135 T140.heap n0 (Nat.le_trans (Nat.le_trans (Nat.le_trans (Nat.le_trans Z0 E135.1) E137.1) E139.1) E140.1) (((S135.ext E137).ext E139).ext E140).1) hZ140 (hw _ (List.mem_of_getElem? (i := 82) rfl)) (hw _ (List.mem_of_getElem? (i := 2) rfl)) (by decide) (by decide)) (g := (mkF m 133 #[.val (.int p0), .val (.int p1), .val (.int p2), .val (.int p3), .val (.int z132), .val (.int z133), .val (.ref a135), .val (.ref a137), .val (.ref a139), .val (.ref a140)] [(.ref a135), (.ref a135)])) rfl (by rw [hml]; rfl) (argsL := [(.ref a135), (.ref a135)]) (rest := []) (lenOf pd__Ljava_lang_String_Ljava_lang_String__Z_572 rfl) rfl (by show 2 * 0 + _ ≤ _; exact Nat.le_of_eq rfl) (hb hby at_133) (fun _ _ => ⟨rfl, e143, (by decide : 16 + 0 ≤ _), (by decide : 113 + 0 ≤ _)⟩)
      dsimp only [Pt.U, Pt.locs, Pt.cells, Pt.slots] at X144 l144 y144 z144 st144 hQ144
      subst l144 y144 z144
      obtain ⟨rfl, N144q, e144q⟩ := hQ144
      have N144 := Fr.app N143 N144q
      refine own_byW st144 ?_
      have e144 : T144.heap = T140.heap := e144q
      show own_ComesW p e below s _ _ _ (T144.setTop (mkF m 136 #[.val (.int p0), .val (.int p1), .val (.int p2), .val (.int p3), .val (.int z132), .val (.int z133), .val (.ref a135), .val (.ref a137), .val (.ref a139), .val (.ref a140)] [(.int (1 : Int32))]))
      have hb145 : ¬ ((1 : Int32) = (0 : Int32)) := by decide
      refine own_byW (fun _ kS => XS.ifNo X144.here hx rfl (hb hby at_136) rfl ((if0 _ _).trans (feq hb145).1) kS) ?_
      show own_ComesW p e below s _ _ _ (T144.setTop (mkF m 139 #[.val (.int p0), .val (.int p1), .val (.int p2), .val (.int p3), .val (.int z132), .val (.int z133), .val (.ref a135), .val (.ref a137), .val (.ref a139), .val (.ref a140)] []))
      refine own_byW (fun _ kS => XS.aload X144.here hx rfl (hb hby at_139) rfl rfl kS) ?_
      show own_ComesW p e below s _ _ _ (T144.setTop (mkF m 141 #[.val (.int p0), .val (.int p1), .val (.int p2), .val (.int p3), .val (.int z132), .val (.int z133), .val (.ref a135), .val (.ref a137), .val (.ref a139), .val (.ref a140)] [(.ref a137)]))
      refine own_byW (fun _ kS => XS.aload X144.here hx rfl (hb hby at_141) rfl rfl kS) ?_
      show own_ComesW p e below s _ _ _ (T144.setTop (mkF m 143 #[.val (.int p0), .val (.int p1), .val (.int p2), .val (.int p3), .val (.int z132), .val (.int z133), .val (.ref a135), .val (.ref a137), .val (.ref a139), .val (.ref a140)] [(.ref a140), (.ref a137)]))
      obtain ⟨cq146, kq146, q146a, q146b, q146c⟩ := isOf hZ140 e144 B140.1
      obtain ⟨_, _, ⟨T146, L146, k146, n146⟩, -, X146, ⟨Lc146, hQ146, l146, y146, z146⟩, st146⟩ := X144.virtualBack hx (y := (⟨"com/example/valve_per_tenant/valvepertenant/store/BucketKey", "getUser", "()Ljava/lang/String;"⟩ : MethodName)) (z := (⟨"com/example/valve_per_tenant/valvepertenant/store/BucketKey", "getUser", "()Ljava/lang/String;"⟩ : MethodName)) hown140 (mvT hZ140 (hw _ (List.mem_of_getElem? (i := 88) rfl))) (mvT hZ140 (hw _ (List.mem_of_getElem? (i := 89) rfl))) (notFace_of_selects (args := #[]) (mvT hZ140 (hw _ (List.mem_of_getElem? (i := 91) rfl)))) (mvT hZ140 (hw _ (List.mem_of_getElem? (i := 91) rfl))) (mvT hZ140 (hw _ (List.mem_of_getElem? (i := 90) rfl))) (by decide) (backOf (W := 1) (rm16 l Z a0 hw [] a140 (.ref a137) T140.heap n0 (Nat.le_trans (Nat.le_trans (Nat.le_trans (Nat.le_trans Z0 E135.1) E137.1) E139.1) E140.1) B140.2.2.2.1 rfl) hZ140 (hw _ (List.mem_of_getElem? (i := 92) rfl)) (hw _ (List.mem_of_getElem? (i := 36) rfl)) (by decide) (by decide)) q146a q146c (g := (mkF m 143 #[.val (.int p0), .val (.int p1), .val (.int p2), .val (.int p3), .val (.int z132), .val (.int z133), .val (.ref a135), .val (.ref a137), .val (.ref a139), .val (.ref a140)] [(.ref a140), (.ref a137)])) rfl (by rw [hml]; rfl) (Steps.refl _) (argsL := []) (rest := [(.ref a137)]) (lenOf pd___Ljava_lang_String__780 rfl) rfl (by show 2 * 0 + _ ≤ _; exact Nat.le_of_eq rfl) (hb hby at_143) (fun _ _ => ⟨rfl, e144, (by decide : 16 + 0 ≤ _), (by decide : 113 + 0 ≤ _)⟩)
      dsimp only [Pt.U, Pt.locs, Pt.cells, Pt.slots] at X146 l146 y146 z146 st146 hQ146
      subst l146 y146 z146
      obtain ⟨rfl, N146q, e146q⟩ := hQ146
      have N146 := Fr.app N144 N146q
      refine own_trW st146 ?_
      have e146 : T146.heap = T140.heap := e146q
      show own_ComesW p e below s _ _ _ (T146.setTop (mkF m 146 #[.val (.int p0), .val (.int p1), .val (.int p2), .val (.int p3), .val (.int z132), .val (.int z133), .val (.ref a135), .val (.ref a137), .val (.ref a139), .val (.ref a140)] [(.ref a137), (.ref a137)]))
      obtain ⟨_, _, ⟨T147, L147, k147, n147⟩, -, X147, ⟨Lc147, hQ147, l147, y147, z147⟩, st147⟩ := Jvm.LawKit.callS X146 hx (y := (⟨"com/example/valve_per_tenant/valvepertenant/store/BucketKeyOverridePinLaw", "same", "(Ljava/lang/String;Ljava/lang/String;)Z"⟩ : MethodName)) hown140 (mvT hZ140 (hw _ (List.mem_of_getElem? (i := 80) rfl))) (mvT hZ140 (hw _ (List.mem_of_getElem? (i := 81) rfl))) (mvT hZ140 (hw _ (List.mem_of_getElem? (i := 2) rfl))) (mvT hZ140 (hw _ (List.mem_of_getElem? (i := 82) rfl))) (by decide) (backOf (W := 0) (rm14r l Z a0 hw [] a137 T140.heap n0 (Nat.le_trans (Nat.le_trans (Nat.le_trans (Nat.le_trans Z0 E135.1) E137.1) E139.1) E140.1) ((S137.ext E139).ext E140).1) hZ140 (hw _ (List.mem_of_getElem? (i := 82) rfl)) (hw _ (List.mem_of_getElem? (i := 2) rfl)) (by decide) (by decide)) (g := (mkF m 146 #[.val (.int p0), .val (.int p1), .val (.int p2), .val (.int p3), .val (.int z132), .val (.int z133), .val (.ref a135), .val (.ref a137), .val (.ref a139), .val (.ref a140)] [(.ref a137), (.ref a137)])) rfl (by rw [hml]; rfl) (argsL := [(.ref a137), (.ref a137)]) (rest := []) (lenOf pd__Ljava_lang_String_Ljava_lang_String__Z_572 rfl) rfl (by show 2 * 0 + _ ≤ _; exact Nat.le_of_eq rfl) (hb hby at_146) (fun _ _ => ⟨rfl, e146, (by decide : 16 + 0 ≤ _), (by decide : 113 + 0 ≤ _)⟩)
      dsimp only [Pt.U, Pt.locs, Pt.cells, Pt.slots] at X147 l147 y147 z147 st147 hQ147
      subst l147 y147 z147
      obtain ⟨rfl, N147q, e147q⟩ := hQ147
      have N147 := Fr.app N146 N147q
      refine own_byW st147 ?_
      have e147 : T147.heap = T140.heap := e147q
      show own_ComesW p e below s _ _ _ (T147.setTop (mkF m 149 #[.val (.int p0), .val (.int p1), .val (.int p2), .val (.int p3), .val (.int z132), .val (.int z133), .val (.ref a135), .val (.ref a137), .val (.ref a139), .val (.ref a140)] [(.int (1 : Int32))]))
      have hb148 : ¬ ((1 : Int32) = (0 : Int32)) := by decide
      refine own_byW (fun _ kS => XS.ifNo X147.here hx rfl (hb hby at_149) rfl ((if0 _ _).trans (feq hb148).1) kS) ?_
      show own_ComesW p e below s _ _ _ (T147.setTop (mkF m 152 #[.val (.int p0), .val (.int p1), .val (.int p2), .val (.int p3), .val (.int z132), .val (.int z133), .val (.ref a135), .val (.ref a137), .val (.ref a139), .val (.ref a140)] []))
      refine own_byW (fun _ kS => XS.aload X147.here hx rfl (hb hby at_152) rfl rfl kS) ?_
      show own_ComesW p e below s _ _ _ (T147.setTop (mkF m 154 #[.val (.int p0), .val (.int p1), .val (.int p2), .val (.int p3), .val (.int z132), .val (.int z133), .val (.ref a135), .val (.ref a137), .val (.ref a139), .val (.ref a140)] [(.ref a140)]))
      obtain ⟨cq149, kq149, q149a, q149b, q149c⟩ := isOf hZ140 e147 B140.1
      obtain ⟨_, _, ⟨T149, L149, k149, n149⟩, -, X149, ⟨Lc149, hQ149, l149, y149, z149⟩, st149⟩ := X147.virtualBack hx (y := (⟨"com/example/valve_per_tenant/valvepertenant/store/BucketKey", "getAddress", "()Ljava/lang/String;"⟩ : MethodName)) (z := (⟨"com/example/valve_per_tenant/valvepertenant/store/BucketKey", "getAddress", "()Ljava/lang/String;"⟩ : MethodName)) hown140 (mvT hZ140 (hw _ (List.mem_of_getElem? (i := 93) rfl))) (mvT hZ140 (hw _ (List.mem_of_getElem? (i := 94) rfl))) (notFace_of_selects (args := #[]) (mvT hZ140 (hw _ (List.mem_of_getElem? (i := 96) rfl)))) (mvT hZ140 (hw _ (List.mem_of_getElem? (i := 96) rfl))) (mvT hZ140 (hw _ (List.mem_of_getElem? (i := 95) rfl))) (by decide) (backOf (W := 0) (rm17 l Z a0 hw [] a140 .null T140.heap n0 (Nat.le_trans (Nat.le_trans (Nat.le_trans (Nat.le_trans Z0 E135.1) E137.1) E139.1) E140.1) B140.2.2.2.2.1 rfl) hZ140 (hw _ (List.mem_of_getElem? (i := 97) rfl)) (hw _ (List.mem_of_getElem? (i := 36) rfl)) (by decide) (by decide)) q149a q149c (g := (mkF m 154 #[.val (.int p0), .val (.int p1), .val (.int p2), .val (.int p3), .val (.int z132), .val (.int z133), .val (.ref a135), .val (.ref a137), .val (.ref a139), .val (.ref a140)] [(.ref a140)])) rfl (by rw [hml]; rfl) (Steps.refl _) (argsL := []) (rest := []) (lenOf pd___Ljava_lang_String__780 rfl) rfl (by show 2 * 0 + _ ≤ _; exact Nat.le_of_eq rfl) (hb hby at_154) (fun _ _ => ⟨rfl, e147, (by decide : 16 + 0 ≤ _), (by decide : 113 + 0 ≤ _)⟩)
      dsimp only [Pt.U, Pt.locs, Pt.cells, Pt.slots] at X149 l149 y149 z149 st149 hQ149
      subst l149 y149 z149
      obtain ⟨rfl, N149q, e149q⟩ := hQ149
      have N149 := Fr.app N147 N149q
      refine own_trW st149 ?_
      have e149 : T149.heap = T140.heap := e149q
      show own_ComesW p e below s _ _ _ (T149.setTop (mkF m 157 #[.val (.int p0), .val (.int p1), .val (.int p2), .val (.int p3), .val (.int z132), .val (.int z133), .val (.ref a135), .val (.ref a137), .val (.ref a139), .val (.ref a140)] [.null]))
      refine own_byW (fun _ kS => XS.ifnonnullNo X149.here hx rfl (hb hby at_157) rfl kS) ?_
      show own_ComesW p e below s _ _ _ (T149.setTop (mkF m 160 #[.val (.int p0), .val (.int p1), .val (.int p2), .val (.int p3), .val (.int z132), .val (.int z133), .val (.ref a135), .val (.ref a137), .val (.ref a139), .val (.ref a140)] []))
      refine own_byW (fun _ kS => XS.aload X149.here hx rfl (hb hby at_160) rfl rfl kS) ?_
      show own_ComesW p e below s _ _ _ (T149.setTop (mkF m 162 #[.val (.int p0), .val (.int p1), .val (.int p2), .val (.int p3), .val (.int z132), .val (.int z133), .val (.ref a135), .val (.ref a137), .val (.ref a139), .val (.ref a140)] [(.ref a139)]))
      refine own_byW (fun _ kS => XS.aload X149.here hx rfl (hb hby at_162) rfl rfl kS) ?_
      show own_ComesW p e below s _ _ _ (T149.setTop (mkF m 164 #[.val (.int p0), .val (.int p1), .val (.int p2), .val (.int p3), .val (.int z132), .val (.int z133), .val (.ref a135), .val (.ref a137), .val (.ref a139), .val (.ref a140)] [(.ref a140), (.ref a139)]))
      obtain ⟨cq150, kq150, q150a, q150b, q150c⟩ := isOf hZ140 e149 B140.1
      obtain ⟨_, _, ⟨T150, L150, k150, n150⟩, -, X150, ⟨Lc150, hQ150, l150, y150, z150⟩, st150⟩ := X149.virtualBack hx (y := (⟨"com/example/valve_per_tenant/valvepertenant/store/BucketKey", "getEndpoint", "()Ljava/lang/String;"⟩ : MethodName)) (z := (⟨"com/example/valve_per_tenant/valvepertenant/store/BucketKey", "getEndpoint", "()Ljava/lang/String;"⟩ : MethodName)) hown140 (mvT hZ140 (hw _ (List.mem_of_getElem? (i := 98) rfl))) (mvT hZ140 (hw _ (List.mem_of_getElem? (i := 99) rfl))) (notFace_of_selects (args := #[]) (mvT hZ140 (hw _ (List.mem_of_getElem? (i := 101) rfl)))) (mvT hZ140 (hw _ (List.mem_of_getElem? (i := 101) rfl))) (mvT hZ140 (hw _ (List.mem_of_getElem? (i := 100) rfl))) (by decide) (backOf (W := 1) (rm18 l Z a0 hw [] a140 (.ref a139) T140.heap n0 (Nat.le_trans (Nat.le_trans (Nat.le_trans (Nat.le_trans Z0 E135.1) E137.1) E139.1) E140.1) B140.2.2.2.2.2 rfl) hZ140 (hw _ (List.mem_of_getElem? (i := 102) rfl)) (hw _ (List.mem_of_getElem? (i := 36) rfl)) (by decide) (by decide)) q150a q150c (g := (mkF m 164 #[.val (.int p0), .val (.int p1), .val (.int p2), .val (.int p3), .val (.int z132), .val (.int z133), .val (.ref a135), .val (.ref a137), .val (.ref a139), .val (.ref a140)] [(.ref a140), (.ref a139)])) rfl (by rw [hml]; rfl) (Steps.refl _) (argsL := []) (rest := [(.ref a139)]) (lenOf pd___Ljava_lang_String__780 rfl) rfl (by show 2 * 0 + _ ≤ _; exact Nat.le_of_eq rfl) (hb hby at_164) (fun _ _ => ⟨rfl, e149, (by decide : 16 + 0 ≤ _), (by decide : 113 + 0 ≤ _)⟩)
      dsimp only [Pt.U, Pt.locs, Pt.cells, Pt.slots] at X150 l150 y150 z150 st150 hQ150
      subst l150 y150 z150
      obtain ⟨rfl, N150q, e150q⟩ := hQ150
      have N150 := Fr.app N149 N150q
      refine own_trW st150 ?_
      have e150 : T150.heap = T140.heap := e150q
      show own_ComesW p e below s _ _ _ (T150.setTop (mkF m 167 #[.val (.int p0), .val (.int p1), .val (.int p2), .val (.int p3), .val (.int z132), .val (.int z133), .val (.ref a135), .val (.ref a137), .val (.ref a139), .val (.ref a140)] [(.ref a139), (.ref a139)]))
      obtain ⟨_, _, ⟨T151, L151, k151, n151⟩, -, X151, ⟨Lc151, hQ151, l151, y151, z151⟩, st151⟩ := Jvm.LawKit.callS X150 hx (y := (⟨"com/example/valve_per_tenant/valvepertenant/store/BucketKeyOverridePinLaw", "same", "(Ljava/lang/String;Ljava/lang/String;)Z"⟩ : MethodName)) hown140 (mvT hZ140 (hw _ (List.mem_of_getElem? (i := 80) rfl))) (mvT hZ140 (hw _ (List.mem_of_getElem? (i := 81) rfl))) (mvT hZ140 (hw _ (List.mem_of_getElem? (i := 2) rfl))) (mvT hZ140 (hw _ (List.mem_of_getElem? (i := 82) rfl))) (by decide) (backOf (W := 0) (rm14r l Z a0 hw [] a139 T140.heap n0 (Nat.le_trans (Nat.le_trans (Nat.le_trans (Nat.le_trans Z0 E135.1) E137.1) E139.1) E140.1) (S139.ext E140).1) hZ140 (hw _ (List.mem_of_getElem? (i := 82) rfl)) (hw _ (List.mem_of_getElem? (i := 2) rfl)) (by decide) (by decide)) (g := (mkF m 167 #[.val (.int p0), .val (.int p1), .val (.int p2), .val (.int p3), .val (.int z132), .val (.int z133), .val (.ref a135), .val (.ref a137), .val (.ref a139), .val (.ref a140)] [(.ref a139), (.ref a139)])) rfl (by rw [hml]; rfl) (argsL := [(.ref a139), (.ref a139)]) (rest := []) (lenOf pd__Ljava_lang_String_Ljava_lang_String__Z_572 rfl) rfl (by show 2 * 0 + _ ≤ _; exact Nat.le_of_eq rfl) (hb hby at_167) (fun _ _ => ⟨rfl, e150, (by decide : 16 + 0 ≤ _), (by decide : 113 + 0 ≤ _)⟩)
      dsimp only [Pt.U, Pt.locs, Pt.cells, Pt.slots] at X151 l151 y151 z151 st151 hQ151
      subst l151 y151 z151
      obtain ⟨rfl, N151q, e151q⟩ := hQ151
      have N151 := Fr.app N150 N151q
      refine own_byW st151 ?_
      have e151 : T151.heap = T140.heap := e151q
      show own_ComesW p e below s _ _ _ (T151.setTop (mkF m 170 #[.val (.int p0), .val (.int p1), .val (.int p2), .val (.int p3), .val (.int z132), .val (.int z133), .val (.ref a135), .val (.ref a137), .val (.ref a139), .val (.ref a140)] [(.int (1 : Int32))]))
      have hb152 : ¬ ((1 : Int32) = (0 : Int32)) := by decide
      refine own_byW (fun _ kS => XS.ifNo X151.here hx rfl (hb hby at_170) rfl ((if0 _ _).trans (feq hb152).1) kS) ?_
      show own_ComesW p e below s _ _ _ (T151.setTop (mkF m 173 #[.val (.int p0), .val (.int p1), .val (.int p2), .val (.int p3), .val (.int z132), .val (.int z133), .val (.ref a135), .val (.ref a137), .val (.ref a139), .val (.ref a140)] []))
      refine own_byW (fun _ kS => XS.iconst X151.here hx rfl (hb hby at_173) kS) ?_
      show own_ComesW p e below s _ _ _ (T151.setTop (mkF m 174 #[.val (.int p0), .val (.int p1), .val (.int p2), .val (.int p3), .val (.int z132), .val (.int z133), .val (.ref a135), .val (.ref a137), .val (.ref a139), .val (.ref a140)] [(.int (1 : Int32))]))
      refine own_byW (fun _ kS => XS.goto X151.here hx rfl (pc0 := 174) (pc' := 178) rfl (hb hby at_174) (by decide) (by decide) kS) ?_
      show own_ComesW p e below s _ _ _ (T151.setTop (mkF m 178 #[.val (.int p0), .val (.int p1), .val (.int p2), .val (.int p3), .val (.int z132), .val (.int z133), .val (.ref a135), .val (.ref a137), .val (.ref a139), .val (.ref a140)] [(.int (1 : Int32))]))
      have hkr153 := (Nat.le_refl (Array.size T140.heap))
      refine own_retW X151 hS140 (by rw [e151]; exact hkr153) (v := some (.int (1 : Int32))) (fun h => by rw [Bd.returns] at h; cases h) Bd.notSynchronized (by decide) (by decide) ?_ (fun fs hr => retN X151 hx (t := .boolean) Bd.returns (by simp) (hb hby at_178) hr)
      rw [e151]; exact ⟨rfl, N151⟩
    · refine own_byW (fun _ kS => XS.ifNo X137.here hx rfl (hb hby at_72) rfl ((if0 _ _).trans (feq hen).1) kS) ?_
      show own_ComesW p e below s _ _ _ (T137.setTop (mkF m 75 #[.val (.int p0), .val (.int p1), .val (.int p2), .val (.int p3), .val (.int z132), .val (.int z133), .val (.ref a135), .val (.ref a137), .unset, .unset] []))
      refine own_byW (fun _ kS => XS.aconstNull X137.here hx rfl (hb hby at_75) kS) ?_
      show own_ComesW p e below s _ _ _ (T137.setTop (mkF m 76 #[.val (.int p0), .val (.int p1), .val (.int p2), .val (.int p3), .val (.int z132), .val (.int z133), .val (.ref a135), .val (.ref a137), .unset, .unset] [.null]))
      refine own_byW (fun _ kS => XS.goto X137.here hx rfl (pc0 := 76) (pc' := 95) rfl (hb hby at_76) (by decide) (by decide) kS) ?_
      show own_ComesW p e below s _ _ _ (T137.setTop (mkF m 95 #[.val (.int p0), .val (.int p1), .val (.int p2), .val (.int p3), .val (.int z132), .val (.int z133), .val (.ref a135), .val (.ref a137), .unset, .unset] [.null]))
      refine own_byW (fun _ kS => XS.astore X137.here hx rfl (hb hby at_95) rfl rfl (l' := #[.val (.int p0), .val (.int p1), .val (.int p2), .val (.int p3), .val (.int z132), .val (.int z133), .val (.ref a135), .val (.ref a137), .val .null, .unset]) rfl kS) ?_
      show own_ComesW p e below s _ _ _ (T137.setTop (mkF m 97 #[.val (.int p0), .val (.int p1), .val (.int p2), .val (.int p3), .val (.int z132), .val (.int z133), .val (.ref a135), .val (.ref a137), .val .null, .unset] []))
      refine own_byW (fun _ kS => XS.aload X137.here hx rfl (hb hby at_97) rfl rfl kS) ?_
      show own_ComesW p e below s _ _ _ (T137.setTop (mkF m 99 #[.val (.int p0), .val (.int p1), .val (.int p2), .val (.int p3), .val (.int z132), .val (.int z133), .val (.ref a135), .val (.ref a137), .val .null, .unset] [(.ref a135)]))
      refine own_byW (fun _ kS => XS.aload X137.here hx rfl (hb hby at_99) rfl rfl kS) ?_
      show own_ComesW p e below s _ _ _ (T137.setTop (mkF m 101 #[.val (.int p0), .val (.int p1), .val (.int p2), .val (.int p3), .val (.int z132), .val (.int z133), .val (.ref a135), .val (.ref a137), .val .null, .unset] [(.ref a137), (.ref a135)]))
      refine own_byW (fun _ kS => XS.aload X137.here hx rfl (hb hby at_101) rfl rfl kS) ?_
      show own_ComesW p e below s _ _ _ (T137.setTop (mkF m 103 #[.val (.int p0), .val (.int p1), .val (.int p2), .val (.int p3), .val (.int z132), .val (.int z133), .val (.ref a135), .val (.ref a137), .val .null, .unset] [.null, (.ref a137), (.ref a135)]))
      obtain ⟨_, _, ⟨T154, L154, k154, n154⟩, -, Xw154, hs154, gr154, ⟨Lc154, hQ154, l154, y154, z154⟩, st154⟩ := callSS X137 hx (y := (⟨"com/example/valve_per_tenant/valvepertenant/store/BucketKey", "override", "(Ljava/lang/String;Ljava/lang/String;Ljava/lang/String;)Lcom/example/valve_per_tenant/valvepertenant/store/BucketKey;"⟩ : MethodName)) hown (mvT hZ (hw _ (List.mem_of_getElem? (i := 34) rfl))) (mvT hZ (hw _ (List.mem_of_getElem? (i := 35) rfl))) (mvT hZ (hw _ (List.mem_of_getElem? (i := 36) rfl))) (mvT hZ (hw _ (List.mem_of_getElem? (i := 37) rfl))) (by decide) (backOfS (W := 0) (rm8rn l Z a0 hw [] sc a135 a137 T137.heap n0 (Nat.le_trans (Nat.le_trans Z0 E135.1) E137.1) ((O0.ext E135).ext E137) Sc (S135.ext E137) S137) hZ (hw _ (List.mem_of_getElem? (i := 37) rfl)) (hw _ (List.mem_of_getElem? (i := 36) rfl)) (by decide) (by decide)) (g := (mkF m 103 #[.val (.int p0), .val (.int p1), .val (.int p2), .val (.int p3), .val (.int z132), .val (.int z133), .val (.ref a135), .val (.ref a137), .val .null, .unset] [.null, (.ref a137), (.ref a135)])) rfl (by rw [hml]; rfl) (argsL := [(.ref a135), (.ref a137), .null]) (rest := []) (lenOf pd__Ljava_lang_String_Ljava_lang_String_Ljava_lang_String__Lcom_example_valve_per_tenant_valvepertenant_store_BucketKey__327 rfl) rfl (by show 2 * 0 + _ ≤ _; exact Nat.le_of_eq rfl) (hb hby at_103) (fun _ _ => ⟨rfl, rfl, (by decide : 6 + 5 ≤ _), (by decide : 16 + 53 ≤ _)⟩)
      dsimp only [Pt.U, Pt.locs, Pt.cells, Pt.slots] at Xw154 l154 y154 z154 st154 hQ154 hs154 gr154
      subst l154 y154 z154
      obtain ⟨X154, hS154, hZ154, hown154⟩ := rebS hS (Nat.le_trans (Nat.le_trans hk E135.1) E137.1) Xw154 hs154 gr154 hZ hown
      obtain ⟨a154, rfl, N154q, E154, B154⟩ := hQ154
      have N154 := Fr.app N137 N154q
      refine own_trW st154 ?_
      show own_ComesW p e below s _ _ _ (T154.setTop (mkF m 106 #[.val (.int p0), .val (.int p1), .val (.int p2), .val (.int p3), .val (.int z132), .val (.int z133), .val (.ref a135), .val (.ref a137), .val .null, .unset] [(.ref a154)]))
      refine own_byW (fun _ kS => XS.astore X154.here hx rfl (hb hby at_106) rfl rfl (l' := #[.val (.int p0), .val (.int p1), .val (.int p2), .val (.int p3), .val (.int z132), .val (.int z133), .val (.ref a135), .val (.ref a137), .val .null, .val (.ref a154)]) rfl kS) ?_
      show own_ComesW p e below s _ _ _ (T154.setTop (mkF m 108 #[.val (.int p0), .val (.int p1), .val (.int p2), .val (.int p3), .val (.int z132), .val (.int z133), .val (.ref a135), .val (.ref a137), .val .null, .val (.ref a154)] []))
      refine own_byW (fun _ kS => XS.aload X154.here hx rfl (hb hby at_108) rfl rfl kS) ?_
      show own_ComesW p e below s _ _ _ (T154.setTop (mkF m 110 #[.val (.int p0), .val (.int p1), .val (.int p2), .val (.int p3), .val (.int z132), .val (.int z133), .val (.ref a135), .val (.ref a137), .val .null, .val (.ref a154)] [(.ref a154)]))
      refine own_byW (fun _ kS => XS.ifnonnullYes X154.here hx rfl (pc0 := 110) (pc' := 115) rfl (hb hby at_110) rfl (by decide) (by decide) kS) ?_
      show own_ComesW p e below s _ _ _ (T154.setTop (mkF m 115 #[.val (.int p0), .val (.int p1), .val (.int p2), .val (.int p3), .val (.int z132), .val (.int z133), .val (.ref a135), .val (.ref a137), .val .null, .val (.ref a154)] []))
      refine own_byW (fun _ kS => XS.aload X154.here hx rfl (hb hby at_115) rfl rfl kS) ?_
      show own_ComesW p e below s _ _ _ (T154.setTop (mkF m 117 #[.val (.int p0), .val (.int p1), .val (.int p2), .val (.int p3), .val (.int z132), .val (.int z133), .val (.ref a135), .val (.ref a137), .val .null, .val (.ref a154)] [(.ref a154)]))
      obtain ⟨cq155, kq155, q155a, q155b, q155c⟩ := isOf hZ154 rfl B154.1
      obtain ⟨_, _, ⟨T155, L155, k155, n155⟩, -, X155, ⟨Lc155, hQ155, l155, y155, z155⟩, st155⟩ := X154.virtualBack hx (y := (⟨"com/example/valve_per_tenant/valvepertenant/store/BucketKey", "getScope", "()Lcom/example/valve_per_tenant/valvepertenant/model/Scope;"⟩ : MethodName)) (z := (⟨"com/example/valve_per_tenant/valvepertenant/store/BucketKey", "getScope", "()Lcom/example/valve_per_tenant/valvepertenant/model/Scope;"⟩ : MethodName)) hown154 (mvT hZ154 (hw _ (List.mem_of_getElem? (i := 69) rfl))) (mvT hZ154 (hw _ (List.mem_of_getElem? (i := 70) rfl))) (notFace_of_selects (args := #[]) (mvT hZ154 (hw _ (List.mem_of_getElem? (i := 72) rfl)))) (mvT hZ154 (hw _ (List.mem_of_getElem? (i := 72) rfl))) (mvT hZ154 (hw _ (List.mem_of_getElem? (i := 71) rfl))) (by decide) (backOf (W := 0) (rm12 l Z a0 hw [] a154 (.ref sc) T154.heap n0 (Nat.le_trans (Nat.le_trans (Nat.le_trans Z0 E135.1) E137.1) E154.1) B154.2.1 rfl) hZ154 (hw _ (List.mem_of_getElem? (i := 73) rfl)) (hw _ (List.mem_of_getElem? (i := 36) rfl)) (by decide) (by decide)) q155a q155c (g := (mkF m 117 #[.val (.int p0), .val (.int p1), .val (.int p2), .val (.int p3), .val (.int z132), .val (.int z133), .val (.ref a135), .val (.ref a137), .val .null, .val (.ref a154)] [(.ref a154)])) rfl (by rw [hml]; rfl) (Steps.refl _) (argsL := []) (rest := []) (lenOf pd___Lcom_example_valve_per_tenant_valvepertenant_model_Scope__796 rfl) rfl (by show 2 * 0 + _ ≤ _; exact Nat.le_of_eq rfl) (hb hby at_117) (fun _ _ => ⟨rfl, rfl, (by decide : 11 + 0 ≤ _), (by decide : 69 + 0 ≤ _)⟩)
      dsimp only [Pt.U, Pt.locs, Pt.cells, Pt.slots] at X155 l155 y155 z155 st155 hQ155
      subst l155 y155 z155
      obtain ⟨rfl, N155q, e155q⟩ := hQ155
      have N155 := Fr.app N154 N155q
      refine own_trW st155 ?_
      have e155 : T155.heap = T154.heap := e155q
      show own_ComesW p e below s _ _ _ (T155.setTop (mkF m 120 #[.val (.int p0), .val (.int p1), .val (.int p2), .val (.int p3), .val (.int z132), .val (.int z133), .val (.ref a135), .val (.ref a137), .val .null, .val (.ref a154)] [(.ref sc)]))
      obtain ⟨T156, X156, e156, st156⟩ := getS2 X155 hx hZ154 hown154 (host := "") (Or.inl (hw _ (List.mem_of_getElem? (i := 74) rfl))) Via.refl e155 (Sc.ext (((O0.ext E135).ext E137).ext E154).2) (g := (mkF m 120 #[.val (.int p0), .val (.int p1), .val (.int p2), .val (.int p3), .val (.int z132), .val (.int z133), .val (.ref a135), .val (.ref a137), .val .null, .val (.ref a154)] [(.ref sc)])) rfl (hb hby at_120)
      refine own_byW st156 ?_
      show own_ComesW p e below s _ _ _ (T156.setTop (mkF m 123 #[.val (.int p0), .val (.int p1), .val (.int p2), .val (.int p3), .val (.int z132), .val (.int z133), .val (.ref a135), .val (.ref a137), .val .null, .val (.ref a154)] [(.ref sc), (.ref sc)]))
      refine own_byW (fun _ kS => Jvm.RoadKit.acmp (g := (mkF m 123 #[.val (.int p0), .val (.int p1), .val (.int p2), .val (.int p3), .val (.int z132), .val (.int z133), .val (.ref a135), .val (.ref a137), .val .null, .val (.ref a154)] [(.ref sc), (.ref sc)])) X156 hx rfl rfl rfl (pc0 := 123) (pc' := 126) (same := true) rfl (hb hby at_123) rfl (decide_eq_true rfl) (by decide) (by decide) kS) ?_
      show own_ComesW p e below s _ _ _ (T156.setTop (mkF m 126 #[.val (.int p0), .val (.int p1), .val (.int p2), .val (.int p3), .val (.int z132), .val (.int z133), .val (.ref a135), .val (.ref a137), .val .null, .val (.ref a154)] []))
      refine own_byW (fun _ kS => XS.aload X156.here hx rfl (hb hby at_126) rfl rfl kS) ?_
      show own_ComesW p e below s _ _ _ (T156.setTop (mkF m 128 #[.val (.int p0), .val (.int p1), .val (.int p2), .val (.int p3), .val (.int z132), .val (.int z133), .val (.ref a135), .val (.ref a137), .val .null, .val (.ref a154)] [(.ref a135)]))
      refine own_byW (fun _ kS => XS.aload X156.here hx rfl (hb hby at_128) rfl rfl kS) ?_
      show own_ComesW p e below s _ _ _ (T156.setTop (mkF m 130 #[.val (.int p0), .val (.int p1), .val (.int p2), .val (.int p3), .val (.int z132), .val (.int z133), .val (.ref a135), .val (.ref a137), .val .null, .val (.ref a154)] [(.ref a154), (.ref a135)]))
      obtain ⟨cq157, kq157, q157a, q157b, q157c⟩ := isOf hZ154 e156 B154.1
      obtain ⟨_, _, ⟨T157, L157, k157, n157⟩, -, X157, ⟨Lc157, hQ157, l157, y157, z157⟩, st157⟩ := X156.virtualBack hx (y := (⟨"com/example/valve_per_tenant/valvepertenant/store/BucketKey", "getTenant", "()Ljava/lang/String;"⟩ : MethodName)) (z := (⟨"com/example/valve_per_tenant/valvepertenant/store/BucketKey", "getTenant", "()Ljava/lang/String;"⟩ : MethodName)) hown154 (mvT hZ154 (hw _ (List.mem_of_getElem? (i := 75) rfl))) (mvT hZ154 (hw _ (List.mem_of_getElem? (i := 76) rfl))) (notFace_of_selects (args := #[]) (mvT hZ154 (hw _ (List.mem_of_getElem? (i := 78) rfl)))) (mvT hZ154 (hw _ (List.mem_of_getElem? (i := 78) rfl))) (mvT hZ154 (hw _ (List.mem_of_getElem? (i := 77) rfl))) (by decide) (backOf (W := 1) (rm13 l Z a0 hw [] a154 (.ref a135) T154.heap n0 (Nat.le_trans (Nat.le_trans (Nat.le_trans Z0 E135.1) E137.1) E154.1) B154.2.2.1 rfl) hZ154 (hw _ (List.mem_of_getElem? (i := 79) rfl)) (hw _ (List.mem_of_getElem? (i := 36) rfl)) (by decide) (by decide)) q157a q157c (g := (mkF m 130 #[.val (.int p0), .val (.int p1), .val (.int p2), .val (.int p3), .val (.int z132), .val (.int z133), .val (.ref a135), .val (.ref a137), .val .null, .val (.ref a154)] [(.ref a154), (.ref a135)])) rfl (by rw [hml]; rfl) (Steps.refl _) (argsL := []) (rest := [(.ref a135)]) (lenOf pd___Ljava_lang_String__780 rfl) rfl (by show 2 * 0 + _ ≤ _; exact Nat.le_of_eq rfl) (hb hby at_130) (fun _ _ => ⟨rfl, e156, (by decide : 11 + 0 ≤ _), (by decide : 69 + 0 ≤ _)⟩)
      dsimp only [Pt.U, Pt.locs, Pt.cells, Pt.slots] at X157 l157 y157 z157 st157 hQ157
      subst l157 y157 z157
      obtain ⟨rfl, N157q, e157q⟩ := hQ157
      have N157 := Fr.app N155 N157q
      refine own_trW st157 ?_
      have e157 : T157.heap = T154.heap := e157q
      show own_ComesW p e below s _ _ _ (T157.setTop (mkF m 133 #[.val (.int p0), .val (.int p1), .val (.int p2), .val (.int p3), .val (.int z132), .val (.int z133), .val (.ref a135), .val (.ref a137), .val .null, .val (.ref a154)] [(.ref a135), (.ref a135)]))
      obtain ⟨_, _, ⟨T158, L158, k158, n158⟩, -, X158, ⟨Lc158, hQ158, l158, y158, z158⟩, st158⟩ := Jvm.LawKit.callS X157 hx (y := (⟨"com/example/valve_per_tenant/valvepertenant/store/BucketKeyOverridePinLaw", "same", "(Ljava/lang/String;Ljava/lang/String;)Z"⟩ : MethodName)) hown154 (mvT hZ154 (hw _ (List.mem_of_getElem? (i := 80) rfl))) (mvT hZ154 (hw _ (List.mem_of_getElem? (i := 81) rfl))) (mvT hZ154 (hw _ (List.mem_of_getElem? (i := 2) rfl))) (mvT hZ154 (hw _ (List.mem_of_getElem? (i := 82) rfl))) (by decide) (backOf (W := 0) (rm14r l Z a0 hw [] a135 T154.heap n0 (Nat.le_trans (Nat.le_trans (Nat.le_trans Z0 E135.1) E137.1) E154.1) ((S135.ext E137).ext E154).1) hZ154 (hw _ (List.mem_of_getElem? (i := 82) rfl)) (hw _ (List.mem_of_getElem? (i := 2) rfl)) (by decide) (by decide)) (g := (mkF m 133 #[.val (.int p0), .val (.int p1), .val (.int p2), .val (.int p3), .val (.int z132), .val (.int z133), .val (.ref a135), .val (.ref a137), .val .null, .val (.ref a154)] [(.ref a135), (.ref a135)])) rfl (by rw [hml]; rfl) (argsL := [(.ref a135), (.ref a135)]) (rest := []) (lenOf pd__Ljava_lang_String_Ljava_lang_String__Z_572 rfl) rfl (by show 2 * 0 + _ ≤ _; exact Nat.le_of_eq rfl) (hb hby at_133) (fun _ _ => ⟨rfl, e157, (by decide : 11 + 0 ≤ _), (by decide : 69 + 0 ≤ _)⟩)
      dsimp only [Pt.U, Pt.locs, Pt.cells, Pt.slots] at X158 l158 y158 z158 st158 hQ158
      subst l158 y158 z158
      obtain ⟨rfl, N158q, e158q⟩ := hQ158
      have N158 := Fr.app N157 N158q
      refine own_byW st158 ?_
      have e158 : T158.heap = T154.heap := e158q
      show own_ComesW p e below s _ _ _ (T158.setTop (mkF m 136 #[.val (.int p0), .val (.int p1), .val (.int p2), .val (.int p3), .val (.int z132), .val (.int z133), .val (.ref a135), .val (.ref a137), .val .null, .val (.ref a154)] [(.int (1 : Int32))]))
      have hb159 : ¬ ((1 : Int32) = (0 : Int32)) := by decide
      refine own_byW (fun _ kS => XS.ifNo X158.here hx rfl (hb hby at_136) rfl ((if0 _ _).trans (feq hb159).1) kS) ?_
      show own_ComesW p e below s _ _ _ (T158.setTop (mkF m 139 #[.val (.int p0), .val (.int p1), .val (.int p2), .val (.int p3), .val (.int z132), .val (.int z133), .val (.ref a135), .val (.ref a137), .val .null, .val (.ref a154)] []))
      refine own_byW (fun _ kS => XS.aload X158.here hx rfl (hb hby at_139) rfl rfl kS) ?_
      show own_ComesW p e below s _ _ _ (T158.setTop (mkF m 141 #[.val (.int p0), .val (.int p1), .val (.int p2), .val (.int p3), .val (.int z132), .val (.int z133), .val (.ref a135), .val (.ref a137), .val .null, .val (.ref a154)] [(.ref a137)]))
      refine own_byW (fun _ kS => XS.aload X158.here hx rfl (hb hby at_141) rfl rfl kS) ?_
      show own_ComesW p e below s _ _ _ (T158.setTop (mkF m 143 #[.val (.int p0), .val (.int p1), .val (.int p2), .val (.int p3), .val (.int z132), .val (.int z133), .val (.ref a135), .val (.ref a137), .val .null, .val (.ref a154)] [(.ref a154), (.ref a137)]))
      obtain ⟨cq160, kq160, q160a, q160b, q160c⟩ := isOf hZ154 e158 B154.1
      obtain ⟨_, _, ⟨T160, L160, k160, n160⟩, -, X160, ⟨Lc160, hQ160, l160, y160, z160⟩, st160⟩ := X158.virtualBack hx (y := (⟨"com/example/valve_per_tenant/valvepertenant/store/BucketKey", "getUser", "()Ljava/lang/String;"⟩ : MethodName)) (z := (⟨"com/example/valve_per_tenant/valvepertenant/store/BucketKey", "getUser", "()Ljava/lang/String;"⟩ : MethodName)) hown154 (mvT hZ154 (hw _ (List.mem_of_getElem? (i := 88) rfl))) (mvT hZ154 (hw _ (List.mem_of_getElem? (i := 89) rfl))) (notFace_of_selects (args := #[]) (mvT hZ154 (hw _ (List.mem_of_getElem? (i := 91) rfl)))) (mvT hZ154 (hw _ (List.mem_of_getElem? (i := 91) rfl))) (mvT hZ154 (hw _ (List.mem_of_getElem? (i := 90) rfl))) (by decide) (backOf (W := 1) (rm16 l Z a0 hw [] a154 (.ref a137) T154.heap n0 (Nat.le_trans (Nat.le_trans (Nat.le_trans Z0 E135.1) E137.1) E154.1) B154.2.2.2.1 rfl) hZ154 (hw _ (List.mem_of_getElem? (i := 92) rfl)) (hw _ (List.mem_of_getElem? (i := 36) rfl)) (by decide) (by decide)) q160a q160c (g := (mkF m 143 #[.val (.int p0), .val (.int p1), .val (.int p2), .val (.int p3), .val (.int z132), .val (.int z133), .val (.ref a135), .val (.ref a137), .val .null, .val (.ref a154)] [(.ref a154), (.ref a137)])) rfl (by rw [hml]; rfl) (Steps.refl _) (argsL := []) (rest := [(.ref a137)]) (lenOf pd___Ljava_lang_String__780 rfl) rfl (by show 2 * 0 + _ ≤ _; exact Nat.le_of_eq rfl) (hb hby at_143) (fun _ _ => ⟨rfl, e158, (by decide : 11 + 0 ≤ _), (by decide : 69 + 0 ≤ _)⟩)
      dsimp only [Pt.U, Pt.locs, Pt.cells, Pt.slots] at X160 l160 y160 z160 st160 hQ160
      subst l160 y160 z160
      obtain ⟨rfl, N160q, e160q⟩ := hQ160
      have N160 := Fr.app N158 N160q
      refine own_trW st160 ?_
      have e160 : T160.heap = T154.heap := e160q
      show own_ComesW p e below s _ _ _ (T160.setTop (mkF m 146 #[.val (.int p0), .val (.int p1), .val (.int p2), .val (.int p3), .val (.int z132), .val (.int z133), .val (.ref a135), .val (.ref a137), .val .null, .val (.ref a154)] [(.ref a137), (.ref a137)]))
      obtain ⟨_, _, ⟨T161, L161, k161, n161⟩, -, X161, ⟨Lc161, hQ161, l161, y161, z161⟩, st161⟩ := Jvm.LawKit.callS X160 hx (y := (⟨"com/example/valve_per_tenant/valvepertenant/store/BucketKeyOverridePinLaw", "same", "(Ljava/lang/String;Ljava/lang/String;)Z"⟩ : MethodName)) hown154 (mvT hZ154 (hw _ (List.mem_of_getElem? (i := 80) rfl))) (mvT hZ154 (hw _ (List.mem_of_getElem? (i := 81) rfl))) (mvT hZ154 (hw _ (List.mem_of_getElem? (i := 2) rfl))) (mvT hZ154 (hw _ (List.mem_of_getElem? (i := 82) rfl))) (by decide) (backOf (W := 0) (rm14r l Z a0 hw [] a137 T154.heap n0 (Nat.le_trans (Nat.le_trans (Nat.le_trans Z0 E135.1) E137.1) E154.1) (S137.ext E154).1) hZ154 (hw _ (List.mem_of_getElem? (i := 82) rfl)) (hw _ (List.mem_of_getElem? (i := 2) rfl)) (by decide) (by decide)) (g := (mkF m 146 #[.val (.int p0), .val (.int p1), .val (.int p2), .val (.int p3), .val (.int z132), .val (.int z133), .val (.ref a135), .val (.ref a137), .val .null, .val (.ref a154)] [(.ref a137), (.ref a137)])) rfl (by rw [hml]; rfl) (argsL := [(.ref a137), (.ref a137)]) (rest := []) (lenOf pd__Ljava_lang_String_Ljava_lang_String__Z_572 rfl) rfl (by show 2 * 0 + _ ≤ _; exact Nat.le_of_eq rfl) (hb hby at_146) (fun _ _ => ⟨rfl, e160, (by decide : 11 + 0 ≤ _), (by decide : 69 + 0 ≤ _)⟩)
      dsimp only [Pt.U, Pt.locs, Pt.cells, Pt.slots] at X161 l161 y161 z161 st161 hQ161
      subst l161 y161 z161
      obtain ⟨rfl, N161q, e161q⟩ := hQ161
      have N161 := Fr.app N160 N161q
      refine own_byW st161 ?_
      have e161 : T161.heap = T154.heap := e161q
      show own_ComesW p e below s _ _ _ (T161.setTop (mkF m 149 #[.val (.int p0), .val (.int p1), .val (.int p2), .val (.int p3), .val (.int z132), .val (.int z133), .val (.ref a135), .val (.ref a137), .val .null, .val (.ref a154)] [(.int (1 : Int32))]))
      have hb162 : ¬ ((1 : Int32) = (0 : Int32)) := by decide
      refine own_byW (fun _ kS => XS.ifNo X161.here hx rfl (hb hby at_149) rfl ((if0 _ _).trans (feq hb162).1) kS) ?_
      show own_ComesW p e below s _ _ _ (T161.setTop (mkF m 152 #[.val (.int p0), .val (.int p1), .val (.int p2), .val (.int p3), .val (.int z132), .val (.int z133), .val (.ref a135), .val (.ref a137), .val .null, .val (.ref a154)] []))
      refine own_byW (fun _ kS => XS.aload X161.here hx rfl (hb hby at_152) rfl rfl kS) ?_
      show own_ComesW p e below s _ _ _ (T161.setTop (mkF m 154 #[.val (.int p0), .val (.int p1), .val (.int p2), .val (.int p3), .val (.int z132), .val (.int z133), .val (.ref a135), .val (.ref a137), .val .null, .val (.ref a154)] [(.ref a154)]))
      obtain ⟨cq163, kq163, q163a, q163b, q163c⟩ := isOf hZ154 e161 B154.1
      obtain ⟨_, _, ⟨T163, L163, k163, n163⟩, -, X163, ⟨Lc163, hQ163, l163, y163, z163⟩, st163⟩ := X161.virtualBack hx (y := (⟨"com/example/valve_per_tenant/valvepertenant/store/BucketKey", "getAddress", "()Ljava/lang/String;"⟩ : MethodName)) (z := (⟨"com/example/valve_per_tenant/valvepertenant/store/BucketKey", "getAddress", "()Ljava/lang/String;"⟩ : MethodName)) hown154 (mvT hZ154 (hw _ (List.mem_of_getElem? (i := 93) rfl))) (mvT hZ154 (hw _ (List.mem_of_getElem? (i := 94) rfl))) (notFace_of_selects (args := #[]) (mvT hZ154 (hw _ (List.mem_of_getElem? (i := 96) rfl)))) (mvT hZ154 (hw _ (List.mem_of_getElem? (i := 96) rfl))) (mvT hZ154 (hw _ (List.mem_of_getElem? (i := 95) rfl))) (by decide) (backOf (W := 0) (rm17 l Z a0 hw [] a154 .null T154.heap n0 (Nat.le_trans (Nat.le_trans (Nat.le_trans Z0 E135.1) E137.1) E154.1) B154.2.2.2.2.1 rfl) hZ154 (hw _ (List.mem_of_getElem? (i := 97) rfl)) (hw _ (List.mem_of_getElem? (i := 36) rfl)) (by decide) (by decide)) q163a q163c (g := (mkF m 154 #[.val (.int p0), .val (.int p1), .val (.int p2), .val (.int p3), .val (.int z132), .val (.int z133), .val (.ref a135), .val (.ref a137), .val .null, .val (.ref a154)] [(.ref a154)])) rfl (by rw [hml]; rfl) (Steps.refl _) (argsL := []) (rest := []) (lenOf pd___Ljava_lang_String__780 rfl) rfl (by show 2 * 0 + _ ≤ _; exact Nat.le_of_eq rfl) (hb hby at_154) (fun _ _ => ⟨rfl, e161, (by decide : 11 + 0 ≤ _), (by decide : 69 + 0 ≤ _)⟩)
      dsimp only [Pt.U, Pt.locs, Pt.cells, Pt.slots] at X163 l163 y163 z163 st163 hQ163
      subst l163 y163 z163
      obtain ⟨rfl, N163q, e163q⟩ := hQ163
      have N163 := Fr.app N161 N163q
      refine own_trW st163 ?_
      have e163 : T163.heap = T154.heap := e163q
      show own_ComesW p e below s _ _ _ (T163.setTop (mkF m 157 #[.val (.int p0), .val (.int p1), .val (.int p2), .val (.int p3), .val (.int z132), .val (.int z133), .val (.ref a135), .val (.ref a137), .val .null, .val (.ref a154)] [.null]))
      refine own_byW (fun _ kS => XS.ifnonnullNo X163.here hx rfl (hb hby at_157) rfl kS) ?_
      show own_ComesW p e below s _ _ _ (T163.setTop (mkF m 160 #[.val (.int p0), .val (.int p1), .val (.int p2), .val (.int p3), .val (.int z132), .val (.int z133), .val (.ref a135), .val (.ref a137), .val .null, .val (.ref a154)] []))
      refine own_byW (fun _ kS => XS.aload X163.here hx rfl (hb hby at_160) rfl rfl kS) ?_
      show own_ComesW p e below s _ _ _ (T163.setTop (mkF m 162 #[.val (.int p0), .val (.int p1), .val (.int p2), .val (.int p3), .val (.int z132), .val (.int z133), .val (.ref a135), .val (.ref a137), .val .null, .val (.ref a154)] [.null]))
      refine own_byW (fun _ kS => XS.aload X163.here hx rfl (hb hby at_162) rfl rfl kS) ?_
      show own_ComesW p e below s _ _ _ (T163.setTop (mkF m 164 #[.val (.int p0), .val (.int p1), .val (.int p2), .val (.int p3), .val (.int z132), .val (.int z133), .val (.ref a135), .val (.ref a137), .val .null, .val (.ref a154)] [(.ref a154), .null]))
      obtain ⟨cq164, kq164, q164a, q164b, q164c⟩ := isOf hZ154 e163 B154.1
      obtain ⟨_, _, ⟨T164, L164, k164, n164⟩, -, X164, ⟨Lc164, hQ164, l164, y164, z164⟩, st164⟩ := X163.virtualBack hx (y := (⟨"com/example/valve_per_tenant/valvepertenant/store/BucketKey", "getEndpoint", "()Ljava/lang/String;"⟩ : MethodName)) (z := (⟨"com/example/valve_per_tenant/valvepertenant/store/BucketKey", "getEndpoint", "()Ljava/lang/String;"⟩ : MethodName)) hown154 (mvT hZ154 (hw _ (List.mem_of_getElem? (i := 98) rfl))) (mvT hZ154 (hw _ (List.mem_of_getElem? (i := 99) rfl))) (notFace_of_selects (args := #[]) (mvT hZ154 (hw _ (List.mem_of_getElem? (i := 101) rfl)))) (mvT hZ154 (hw _ (List.mem_of_getElem? (i := 101) rfl))) (mvT hZ154 (hw _ (List.mem_of_getElem? (i := 100) rfl))) (by decide) (backOf (W := 1) (rm18 l Z a0 hw [] a154 .null T154.heap n0 (Nat.le_trans (Nat.le_trans (Nat.le_trans Z0 E135.1) E137.1) E154.1) B154.2.2.2.2.2 rfl) hZ154 (hw _ (List.mem_of_getElem? (i := 102) rfl)) (hw _ (List.mem_of_getElem? (i := 36) rfl)) (by decide) (by decide)) q164a q164c (g := (mkF m 164 #[.val (.int p0), .val (.int p1), .val (.int p2), .val (.int p3), .val (.int z132), .val (.int z133), .val (.ref a135), .val (.ref a137), .val .null, .val (.ref a154)] [(.ref a154), .null])) rfl (by rw [hml]; rfl) (Steps.refl _) (argsL := []) (rest := [.null]) (lenOf pd___Ljava_lang_String__780 rfl) rfl (by show 2 * 0 + _ ≤ _; exact Nat.le_of_eq rfl) (hb hby at_164) (fun _ _ => ⟨rfl, e163, (by decide : 11 + 0 ≤ _), (by decide : 69 + 0 ≤ _)⟩)
      dsimp only [Pt.U, Pt.locs, Pt.cells, Pt.slots] at X164 l164 y164 z164 st164 hQ164
      subst l164 y164 z164
      obtain ⟨rfl, N164q, e164q⟩ := hQ164
      have N164 := Fr.app N163 N164q
      refine own_trW st164 ?_
      have e164 : T164.heap = T154.heap := e164q
      show own_ComesW p e below s _ _ _ (T164.setTop (mkF m 167 #[.val (.int p0), .val (.int p1), .val (.int p2), .val (.int p3), .val (.int z132), .val (.int z133), .val (.ref a135), .val (.ref a137), .val .null, .val (.ref a154)] [.null, .null]))
      obtain ⟨_, _, ⟨T165, L165, k165, n165⟩, -, X165, ⟨Lc165, hQ165, l165, y165, z165⟩, st165⟩ := Jvm.LawKit.callS X164 hx (y := (⟨"com/example/valve_per_tenant/valvepertenant/store/BucketKeyOverridePinLaw", "same", "(Ljava/lang/String;Ljava/lang/String;)Z"⟩ : MethodName)) hown154 (mvT hZ154 (hw _ (List.mem_of_getElem? (i := 80) rfl))) (mvT hZ154 (hw _ (List.mem_of_getElem? (i := 81) rfl))) (mvT hZ154 (hw _ (List.mem_of_getElem? (i := 2) rfl))) (mvT hZ154 (hw _ (List.mem_of_getElem? (i := 82) rfl))) (by decide) (backOf (W := 0) (rm14n l Z a0 hw []  T154.heap n0 (Nat.le_trans (Nat.le_trans (Nat.le_trans Z0 E135.1) E137.1) E154.1)) hZ154 (hw _ (List.mem_of_getElem? (i := 82) rfl)) (hw _ (List.mem_of_getElem? (i := 2) rfl)) (by decide) (by decide)) (g := (mkF m 167 #[.val (.int p0), .val (.int p1), .val (.int p2), .val (.int p3), .val (.int z132), .val (.int z133), .val (.ref a135), .val (.ref a137), .val .null, .val (.ref a154)] [.null, .null])) rfl (by rw [hml]; rfl) (argsL := [.null, .null]) (rest := []) (lenOf pd__Ljava_lang_String_Ljava_lang_String__Z_572 rfl) rfl (by show 2 * 0 + _ ≤ _; exact Nat.le_of_eq rfl) (hb hby at_167) (fun _ _ => ⟨rfl, e164, (by decide : 11 + 0 ≤ _), (by decide : 69 + 0 ≤ _)⟩)
      dsimp only [Pt.U, Pt.locs, Pt.cells, Pt.slots] at X165 l165 y165 z165 st165 hQ165
      subst l165 y165 z165
      obtain ⟨rfl, N165q, e165q⟩ := hQ165
      have N165 := Fr.app N164 N165q
      refine own_byW st165 ?_
      have e165 : T165.heap = T154.heap := e165q
      show own_ComesW p e below s _ _ _ (T165.setTop (mkF m 170 #[.val (.int p0), .val (.int p1), .val (.int p2), .val (.int p3), .val (.int z132), .val (.int z133), .val (.ref a135), .val (.ref a137), .val .null, .val (.ref a154)] [(.int (1 : Int32))]))
      have hb166 : ¬ ((1 : Int32) = (0 : Int32)) := by decide
      refine own_byW (fun _ kS => XS.ifNo X165.here hx rfl (hb hby at_170) rfl ((if0 _ _).trans (feq hb166).1) kS) ?_
      show own_ComesW p e below s _ _ _ (T165.setTop (mkF m 173 #[.val (.int p0), .val (.int p1), .val (.int p2), .val (.int p3), .val (.int z132), .val (.int z133), .val (.ref a135), .val (.ref a137), .val .null, .val (.ref a154)] []))
      refine own_byW (fun _ kS => XS.iconst X165.here hx rfl (hb hby at_173) kS) ?_
      show own_ComesW p e below s _ _ _ (T165.setTop (mkF m 174 #[.val (.int p0), .val (.int p1), .val (.int p2), .val (.int p3), .val (.int z132), .val (.int z133), .val (.ref a135), .val (.ref a137), .val .null, .val (.ref a154)] [(.int (1 : Int32))]))
      refine own_byW (fun _ kS => XS.goto X165.here hx rfl (pc0 := 174) (pc' := 178) rfl (hb hby at_174) (by decide) (by decide) kS) ?_
      show own_ComesW p e below s _ _ _ (T165.setTop (mkF m 178 #[.val (.int p0), .val (.int p1), .val (.int p2), .val (.int p3), .val (.int z132), .val (.int z133), .val (.ref a135), .val (.ref a137), .val .null, .val (.ref a154)] [(.int (1 : Int32))]))
      have hkr167 := (Nat.le_refl (Array.size T154.heap))
      refine own_retW X165 hS154 (by rw [e165]; exact hkr167) (v := some (.int (1 : Int32))) (fun h => by rw [Bd.returns] at h; cases h) Bd.notSynchronized (by decide) (by decide) ?_ (fun fs hr => retN X165 hx (t := .boolean) Bd.returns (by simp) (hb hby at_178) hr)
      rw [e165]; exact ⟨rfl, N165⟩
  · refine own_byW (fun _ kS => XS.ifNo X135.here hx rfl (hb hby at_45) rfl ((if0 _ _).trans (feq hun).1) kS) ?_
    show own_ComesW p e below s _ _ _ (T135.setTop (mkF m 48 #[.val (.int p0), .val (.int p1), .val (.int p2), .val (.int p3), .val (.int z132), .val (.int z133), .val (.ref a135), .unset, .unset, .unset] []))
    refine own_byW (fun _ kS => XS.aconstNull X135.here hx rfl (hb hby at_48) kS) ?_
    show own_ComesW p e below s _ _ _ (T135.setTop (mkF m 49 #[.val (.int p0), .val (.int p1), .val (.int p2), .val (.int p3), .val (.int z132), .val (.int z133), .val (.ref a135), .unset, .unset, .unset] [.null]))
    refine own_byW (fun _ kS => XS.goto X135.here hx rfl (pc0 := 49) (pc' := 68) rfl (hb hby at_49) (by decide) (by decide) kS) ?_
    show own_ComesW p e below s _ _ _ (T135.setTop (mkF m 68 #[.val (.int p0), .val (.int p1), .val (.int p2), .val (.int p3), .val (.int z132), .val (.int z133), .val (.ref a135), .unset, .unset, .unset] [.null]))
    refine own_byW (fun _ kS => XS.astore X135.here hx rfl (hb hby at_68) rfl rfl (l' := #[.val (.int p0), .val (.int p1), .val (.int p2), .val (.int p3), .val (.int z132), .val (.int z133), .val (.ref a135), .val .null, .unset, .unset]) rfl kS) ?_
    show own_ComesW p e below s _ _ _ (T135.setTop (mkF m 70 #[.val (.int p0), .val (.int p1), .val (.int p2), .val (.int p3), .val (.int z132), .val (.int z133), .val (.ref a135), .val .null, .unset, .unset] []))
    refine own_byW (fun _ kS => XS.iload X135.here hx rfl (hb hby at_70) rfl kS) ?_
    show own_ComesW p e below s _ _ _ (T135.setTop (mkF m 72 #[.val (.int p0), .val (.int p1), .val (.int p2), .val (.int p3), .val (.int z132), .val (.int z133), .val (.ref a135), .val .null, .unset, .unset] [(.int z133)]))
    by_cases hen : z133 = (0 : Int32)
    · refine own_byW (fun _ kS => XS.ifYes X135.here hx rfl (pc0 := 72) (pc' := 79) rfl (hb hby at_72) rfl ((if0 _ _).trans (teq hen).1) (by decide) (by decide) kS) ?_
      show own_ComesW p e below s _ _ _ (T135.setTop (mkF m 79 #[.val (.int p0), .val (.int p1), .val (.int p2), .val (.int p3), .val (.int z132), .val (.int z133), .val (.ref a135), .val .null, .unset, .unset] []))
      refine own_byW (fun _ kS => XS.iloadN X135.here hx rfl (hb hby at_79) rfl kS) ?_
      show own_ComesW p e below s _ _ _ (T135.setTop (mkF m 80 #[.val (.int p0), .val (.int p1), .val (.int p2), .val (.int p3), .val (.int z132), .val (.int z133), .val (.ref a135), .val .null, .unset, .unset] [(.int p2)]))
      refine own_byW (fun _ kS => XS.iloadN X135.here hx rfl (hb hby at_80) rfl kS) ?_
      show own_ComesW p e below s _ _ _ (T135.setTop (mkF m 81 #[.val (.int p0), .val (.int p1), .val (.int p2), .val (.int p3), .val (.int z132), .val (.int z133), .val (.ref a135), .val .null, .unset, .unset] [(.int p3), (.int p2)]))
      refine own_byW (fun _ kS => XS.bipush X135.here hx rfl (hb hby at_81) kS) ?_
      show own_ComesW p e below s _ _ _ (T135.setTop (mkF m 83 #[.val (.int p0), .val (.int p1), .val (.int p2), .val (.int p3), .val (.int z132), .val (.int z133), .val (.ref a135), .val .null, .unset, .unset] [(.int (16 : Int32)), (.int p3), (.int p2)]))
      refine own_byW (fun _ kS => XS.iand X135.here hx rfl (hb hby at_83) rfl kS) ?_
      show own_ComesW p e below s _ _ _ (T135.setTop (mkF m 84 #[.val (.int p0), .val (.int p1), .val (.int p2), .val (.int p3), .val (.int z132), .val (.int z133), .val (.ref a135), .val .null, .unset, .unset] [(.int (p3 &&& (16 : Int32))), (.int p2)]))
      obtain ⟨z168, hz168, st168⟩ : ∃ z : Int32, ((((p3 &&& (16 : Int32)) = (0 : Int32)) ∧ z = (0 : Int32)) ∨ (¬ ((p3 &&& (16 : Int32)) = (0 : Int32)) ∧ z = (1 : Int32))) ∧ ∀ target, Steps p.tables e below (T135.setTop (mkF m 92 #[.val (.int p0), .val (.int p1), .val (.int p2), .val (.int p3), .val (.int z132), .val (.int z133), .val (.ref a135), .val .null, .unset, .unset] [(.int z), (.int p2)])) target → Steps p.tables e below (T135.setTop (mkF m 84 #[.val (.int p0), .val (.int p1), .val (.int p2), .val (.int p3), .val (.int z132), .val (.int z133), .val (.ref a135), .val .null, .unset, .unset] [(.int (p3 &&& (16 : Int32))), (.int p2)])) target := by
        by_cases hc : (p3 &&& (16 : Int32)) = (0 : Int32)
        · exact ⟨_, Or.inl ⟨hc, rfl⟩, fun _ kS => XS.ifYes X135.here hx rfl (pc0 := 84) (pc' := 91) rfl (hb hby at_84) rfl ((if0 _ _).trans (teq hc).1) (by decide) (by decide) (XS.iconst X135.here hx rfl (hb hby at_91) kS)⟩
        · exact ⟨_, Or.inr ⟨hc, rfl⟩, fun _ kS => XS.ifNo X135.here hx rfl (hb hby at_84) rfl ((if0 _ _).trans (feq hc).1) (XS.iconst X135.here hx rfl (hb hby at_87) (XS.goto X135.here hx rfl (pc0 := 88) (pc' := 92) rfl (hb hby at_88) (by decide) (by decide) kS))⟩
      refine own_byW st168 ?_
      show own_ComesW p e below s _ _ _ (T135.setTop (mkF m 92 #[.val (.int p0), .val (.int p1), .val (.int p2), .val (.int p3), .val (.int z132), .val (.int z133), .val (.ref a135), .val .null, .unset, .unset] [(.int z168), (.int p2)]))
      obtain ⟨_, _, ⟨T169, L169, k169, n169⟩, -, X169, ⟨Lc169, hQ169, l169, y169, z169⟩, st169⟩ := Jvm.LawKit.callS X135 hx (y := (⟨"com/example/valve_per_tenant/valvepertenant/store/BucketKeyOverridePinLaw", "drawn", "(IZ)Ljava/lang/String;"⟩ : MethodName)) hown (mvT hZ (hw _ (List.mem_of_getElem? (i := 0) rfl))) (mvT hZ (hw _ (List.mem_of_getElem? (i := 1) rfl))) (mvT hZ (hw _ (List.mem_of_getElem? (i := 2) rfl))) (mvT hZ (hw _ (List.mem_of_getElem? (i := 3) rfl))) (by decide) (backOf (W := 0) (rm1 l Z a0 hw [] p2 z168 zc T135.heap n0 (Nat.le_trans Z0 E135.1) (O0.ext E135) Sz hzc) hZ (hw _ (List.mem_of_getElem? (i := 3) rfl)) (hw _ (List.mem_of_getElem? (i := 2) rfl)) (by decide) (by decide)) (g := (mkF m 92 #[.val (.int p0), .val (.int p1), .val (.int p2), .val (.int p3), .val (.int z132), .val (.int z133), .val (.ref a135), .val .null, .unset, .unset] [(.int z168), (.int p2)])) rfl (by rw [hml]; rfl) (argsL := [(.int p2), (.int z168)]) (rest := []) (lenOf pd__IZ_Ljava_lang_String__943 rfl) rfl (by show 2 * 0 + _ ≤ _; exact Nat.le_of_eq rfl) (hb hby at_92) (fun _ _ => ⟨rfl, rfl, (by decide : 3 + 3 ≤ _), (by decide : 8 + 8 ≤ _)⟩)
      dsimp only [Pt.U, Pt.locs, Pt.cells, Pt.slots] at X169 l169 y169 z169 st169 hQ169
      subst l169 y169 z169
      obtain ⟨a169, rfl, N169q, E169, S169⟩ := hQ169
      have N169 := Fr.app N135 N169q
      refine own_byW st169 ?_
      show own_ComesW p e below s _ _ _ (T169.setTop (mkF m 95 #[.val (.int p0), .val (.int p1), .val (.int p2), .val (.int p3), .val (.int z132), .val (.int z133), .val (.ref a135), .val .null, .unset, .unset] [(.ref a169)]))
      refine own_byW (fun _ kS => XS.astore X169.here hx rfl (hb hby at_95) rfl rfl (l' := #[.val (.int p0), .val (.int p1), .val (.int p2), .val (.int p3), .val (.int z132), .val (.int z133), .val (.ref a135), .val .null, .val (.ref a169), .unset]) rfl kS) ?_
      show own_ComesW p e below s _ _ _ (T169.setTop (mkF m 97 #[.val (.int p0), .val (.int p1), .val (.int p2), .val (.int p3), .val (.int z132), .val (.int z133), .val (.ref a135), .val .null, .val (.ref a169), .unset] []))
      refine own_byW (fun _ kS => XS.aload X169.here hx rfl (hb hby at_97) rfl rfl kS) ?_
      show own_ComesW p e below s _ _ _ (T169.setTop (mkF m 99 #[.val (.int p0), .val (.int p1), .val (.int p2), .val (.int p3), .val (.int z132), .val (.int z133), .val (.ref a135), .val .null, .val (.ref a169), .unset] [(.ref a135)]))
      refine own_byW (fun _ kS => XS.aload X169.here hx rfl (hb hby at_99) rfl rfl kS) ?_
      show own_ComesW p e below s _ _ _ (T169.setTop (mkF m 101 #[.val (.int p0), .val (.int p1), .val (.int p2), .val (.int p3), .val (.int z132), .val (.int z133), .val (.ref a135), .val .null, .val (.ref a169), .unset] [.null, (.ref a135)]))
      refine own_byW (fun _ kS => XS.aload X169.here hx rfl (hb hby at_101) rfl rfl kS) ?_
      show own_ComesW p e below s _ _ _ (T169.setTop (mkF m 103 #[.val (.int p0), .val (.int p1), .val (.int p2), .val (.int p3), .val (.int z132), .val (.int z133), .val (.ref a135), .val .null, .val (.ref a169), .unset] [(.ref a169), .null, (.ref a135)]))
      obtain ⟨_, _, ⟨T170, L170, k170, n170⟩, -, Xw170, hs170, gr170, ⟨Lc170, hQ170, l170, y170, z170⟩, st170⟩ := callSS X169 hx (y := (⟨"com/example/valve_per_tenant/valvepertenant/store/BucketKey", "override", "(Ljava/lang/String;Ljava/lang/String;Ljava/lang/String;)Lcom/example/valve_per_tenant/valvepertenant/store/BucketKey;"⟩ : MethodName)) hown (mvT hZ (hw _ (List.mem_of_getElem? (i := 34) rfl))) (mvT hZ (hw _ (List.mem_of_getElem? (i := 35) rfl))) (mvT hZ (hw _ (List.mem_of_getElem? (i := 36) rfl))) (mvT hZ (hw _ (List.mem_of_getElem? (i := 37) rfl))) (by decide) (backOfS (W := 0) (rm8nr l Z a0 hw [] sc a135 a169 T169.heap n0 (Nat.le_trans (Nat.le_trans Z0 E135.1) E169.1) ((O0.ext E135).ext E169) Sc (S135.ext E169) S169) hZ (hw _ (List.mem_of_getElem? (i := 37) rfl)) (hw _ (List.mem_of_getElem? (i := 36) rfl)) (by decide) (by decide)) (g := (mkF m 103 #[.val (.int p0), .val (.int p1), .val (.int p2), .val (.int p3), .val (.int z132), .val (.int z133), .val (.ref a135), .val .null, .val (.ref a169), .unset] [(.ref a169), .null, (.ref a135)])) rfl (by rw [hml]; rfl) (argsL := [(.ref a135), .null, (.ref a169)]) (rest := []) (lenOf pd__Ljava_lang_String_Ljava_lang_String_Ljava_lang_String__Lcom_example_valve_per_tenant_valvepertenant_store_BucketKey__327 rfl) rfl (by show 2 * 0 + _ ≤ _; exact Nat.le_of_eq rfl) (hb hby at_103) (fun _ _ => ⟨rfl, rfl, (by decide : 6 + 5 ≤ _), (by decide : 16 + 69 ≤ _)⟩)
      dsimp only [Pt.U, Pt.locs, Pt.cells, Pt.slots] at Xw170 l170 y170 z170 st170 hQ170 hs170 gr170
      subst l170 y170 z170
      obtain ⟨X170, hS170, hZ170, hown170⟩ := rebS hS (Nat.le_trans (Nat.le_trans hk E135.1) E169.1) Xw170 hs170 gr170 hZ hown
      obtain ⟨a170, rfl, N170q, E170, B170⟩ := hQ170
      have N170 := Fr.app N169 N170q
      refine own_trW st170 ?_
      show own_ComesW p e below s _ _ _ (T170.setTop (mkF m 106 #[.val (.int p0), .val (.int p1), .val (.int p2), .val (.int p3), .val (.int z132), .val (.int z133), .val (.ref a135), .val .null, .val (.ref a169), .unset] [(.ref a170)]))
      refine own_byW (fun _ kS => XS.astore X170.here hx rfl (hb hby at_106) rfl rfl (l' := #[.val (.int p0), .val (.int p1), .val (.int p2), .val (.int p3), .val (.int z132), .val (.int z133), .val (.ref a135), .val .null, .val (.ref a169), .val (.ref a170)]) rfl kS) ?_
      show own_ComesW p e below s _ _ _ (T170.setTop (mkF m 108 #[.val (.int p0), .val (.int p1), .val (.int p2), .val (.int p3), .val (.int z132), .val (.int z133), .val (.ref a135), .val .null, .val (.ref a169), .val (.ref a170)] []))
      refine own_byW (fun _ kS => XS.aload X170.here hx rfl (hb hby at_108) rfl rfl kS) ?_
      show own_ComesW p e below s _ _ _ (T170.setTop (mkF m 110 #[.val (.int p0), .val (.int p1), .val (.int p2), .val (.int p3), .val (.int z132), .val (.int z133), .val (.ref a135), .val .null, .val (.ref a169), .val (.ref a170)] [(.ref a170)]))
      refine own_byW (fun _ kS => XS.ifnonnullYes X170.here hx rfl (pc0 := 110) (pc' := 115) rfl (hb hby at_110) rfl (by decide) (by decide) kS) ?_
      show own_ComesW p e below s _ _ _ (T170.setTop (mkF m 115 #[.val (.int p0), .val (.int p1), .val (.int p2), .val (.int p3), .val (.int z132), .val (.int z133), .val (.ref a135), .val .null, .val (.ref a169), .val (.ref a170)] []))
      refine own_byW (fun _ kS => XS.aload X170.here hx rfl (hb hby at_115) rfl rfl kS) ?_
      show own_ComesW p e below s _ _ _ (T170.setTop (mkF m 117 #[.val (.int p0), .val (.int p1), .val (.int p2), .val (.int p3), .val (.int z132), .val (.int z133), .val (.ref a135), .val .null, .val (.ref a169), .val (.ref a170)] [(.ref a170)]))
      obtain ⟨cq171, kq171, q171a, q171b, q171c⟩ := isOf hZ170 rfl B170.1
      obtain ⟨_, _, ⟨T171, L171, k171, n171⟩, -, X171, ⟨Lc171, hQ171, l171, y171, z171⟩, st171⟩ := X170.virtualBack hx (y := (⟨"com/example/valve_per_tenant/valvepertenant/store/BucketKey", "getScope", "()Lcom/example/valve_per_tenant/valvepertenant/model/Scope;"⟩ : MethodName)) (z := (⟨"com/example/valve_per_tenant/valvepertenant/store/BucketKey", "getScope", "()Lcom/example/valve_per_tenant/valvepertenant/model/Scope;"⟩ : MethodName)) hown170 (mvT hZ170 (hw _ (List.mem_of_getElem? (i := 69) rfl))) (mvT hZ170 (hw _ (List.mem_of_getElem? (i := 70) rfl))) (notFace_of_selects (args := #[]) (mvT hZ170 (hw _ (List.mem_of_getElem? (i := 72) rfl)))) (mvT hZ170 (hw _ (List.mem_of_getElem? (i := 72) rfl))) (mvT hZ170 (hw _ (List.mem_of_getElem? (i := 71) rfl))) (by decide) (backOf (W := 0) (rm12 l Z a0 hw [] a170 (.ref sc) T170.heap n0 (Nat.le_trans (Nat.le_trans (Nat.le_trans Z0 E135.1) E169.1) E170.1) B170.2.1 rfl) hZ170 (hw _ (List.mem_of_getElem? (i := 73) rfl)) (hw _ (List.mem_of_getElem? (i := 36) rfl)) (by decide) (by decide)) q171a q171c (g := (mkF m 117 #[.val (.int p0), .val (.int p1), .val (.int p2), .val (.int p3), .val (.int z132), .val (.int z133), .val (.ref a135), .val .null, .val (.ref a169), .val (.ref a170)] [(.ref a170)])) rfl (by rw [hml]; rfl) (Steps.refl _) (argsL := []) (rest := []) (lenOf pd___Lcom_example_valve_per_tenant_valvepertenant_model_Scope__796 rfl) rfl (by show 2 * 0 + _ ≤ _; exact Nat.le_of_eq rfl) (hb hby at_117) (fun _ _ => ⟨rfl, rfl, (by decide : 11 + 0 ≤ _), (by decide : 85 + 0 ≤ _)⟩)
      dsimp only [Pt.U, Pt.locs, Pt.cells, Pt.slots] at X171 l171 y171 z171 st171 hQ171
      subst l171 y171 z171
      obtain ⟨rfl, N171q, e171q⟩ := hQ171
      have N171 := Fr.app N170 N171q
      refine own_trW st171 ?_
      have e171 : T171.heap = T170.heap := e171q
      show own_ComesW p e below s _ _ _ (T171.setTop (mkF m 120 #[.val (.int p0), .val (.int p1), .val (.int p2), .val (.int p3), .val (.int z132), .val (.int z133), .val (.ref a135), .val .null, .val (.ref a169), .val (.ref a170)] [(.ref sc)]))
      obtain ⟨T172, X172, e172, st172⟩ := getS2 X171 hx hZ170 hown170 (host := "") (Or.inl (hw _ (List.mem_of_getElem? (i := 74) rfl))) Via.refl e171 (Sc.ext (((O0.ext E135).ext E169).ext E170).2) (g := (mkF m 120 #[.val (.int p0), .val (.int p1), .val (.int p2), .val (.int p3), .val (.int z132), .val (.int z133), .val (.ref a135), .val .null, .val (.ref a169), .val (.ref a170)] [(.ref sc)])) rfl (hb hby at_120)
      refine own_byW st172 ?_
      show own_ComesW p e below s _ _ _ (T172.setTop (mkF m 123 #[.val (.int p0), .val (.int p1), .val (.int p2), .val (.int p3), .val (.int z132), .val (.int z133), .val (.ref a135), .val .null, .val (.ref a169), .val (.ref a170)] [(.ref sc), (.ref sc)]))
      refine own_byW (fun _ kS => Jvm.RoadKit.acmp (g := (mkF m 123 #[.val (.int p0), .val (.int p1), .val (.int p2), .val (.int p3), .val (.int z132), .val (.int z133), .val (.ref a135), .val .null, .val (.ref a169), .val (.ref a170)] [(.ref sc), (.ref sc)])) X172 hx rfl rfl rfl (pc0 := 123) (pc' := 126) (same := true) rfl (hb hby at_123) rfl (decide_eq_true rfl) (by decide) (by decide) kS) ?_
      show own_ComesW p e below s _ _ _ (T172.setTop (mkF m 126 #[.val (.int p0), .val (.int p1), .val (.int p2), .val (.int p3), .val (.int z132), .val (.int z133), .val (.ref a135), .val .null, .val (.ref a169), .val (.ref a170)] []))
      refine own_byW (fun _ kS => XS.aload X172.here hx rfl (hb hby at_126) rfl rfl kS) ?_
      show own_ComesW p e below s _ _ _ (T172.setTop (mkF m 128 #[.val (.int p0), .val (.int p1), .val (.int p2), .val (.int p3), .val (.int z132), .val (.int z133), .val (.ref a135), .val .null, .val (.ref a169), .val (.ref a170)] [(.ref a135)]))
      refine own_byW (fun _ kS => XS.aload X172.here hx rfl (hb hby at_128) rfl rfl kS) ?_
      show own_ComesW p e below s _ _ _ (T172.setTop (mkF m 130 #[.val (.int p0), .val (.int p1), .val (.int p2), .val (.int p3), .val (.int z132), .val (.int z133), .val (.ref a135), .val .null, .val (.ref a169), .val (.ref a170)] [(.ref a170), (.ref a135)]))
      obtain ⟨cq173, kq173, q173a, q173b, q173c⟩ := isOf hZ170 e172 B170.1
      obtain ⟨_, _, ⟨T173, L173, k173, n173⟩, -, X173, ⟨Lc173, hQ173, l173, y173, z173⟩, st173⟩ := X172.virtualBack hx (y := (⟨"com/example/valve_per_tenant/valvepertenant/store/BucketKey", "getTenant", "()Ljava/lang/String;"⟩ : MethodName)) (z := (⟨"com/example/valve_per_tenant/valvepertenant/store/BucketKey", "getTenant", "()Ljava/lang/String;"⟩ : MethodName)) hown170 (mvT hZ170 (hw _ (List.mem_of_getElem? (i := 75) rfl))) (mvT hZ170 (hw _ (List.mem_of_getElem? (i := 76) rfl))) (notFace_of_selects (args := #[]) (mvT hZ170 (hw _ (List.mem_of_getElem? (i := 78) rfl)))) (mvT hZ170 (hw _ (List.mem_of_getElem? (i := 78) rfl))) (mvT hZ170 (hw _ (List.mem_of_getElem? (i := 77) rfl))) (by decide) (backOf (W := 1) (rm13 l Z a0 hw [] a170 (.ref a135) T170.heap n0 (Nat.le_trans (Nat.le_trans (Nat.le_trans Z0 E135.1) E169.1) E170.1) B170.2.2.1 rfl) hZ170 (hw _ (List.mem_of_getElem? (i := 79) rfl)) (hw _ (List.mem_of_getElem? (i := 36) rfl)) (by decide) (by decide)) q173a q173c (g := (mkF m 130 #[.val (.int p0), .val (.int p1), .val (.int p2), .val (.int p3), .val (.int z132), .val (.int z133), .val (.ref a135), .val .null, .val (.ref a169), .val (.ref a170)] [(.ref a170), (.ref a135)])) rfl (by rw [hml]; rfl) (Steps.refl _) (argsL := []) (rest := [(.ref a135)]) (lenOf pd___Ljava_lang_String__780 rfl) rfl (by show 2 * 0 + _ ≤ _; exact Nat.le_of_eq rfl) (hb hby at_130) (fun _ _ => ⟨rfl, e172, (by decide : 11 + 0 ≤ _), (by decide : 85 + 0 ≤ _)⟩)
      dsimp only [Pt.U, Pt.locs, Pt.cells, Pt.slots] at X173 l173 y173 z173 st173 hQ173
      subst l173 y173 z173
      obtain ⟨rfl, N173q, e173q⟩ := hQ173
      have N173 := Fr.app N171 N173q
      refine own_trW st173 ?_
      have e173 : T173.heap = T170.heap := e173q
      show own_ComesW p e below s _ _ _ (T173.setTop (mkF m 133 #[.val (.int p0), .val (.int p1), .val (.int p2), .val (.int p3), .val (.int z132), .val (.int z133), .val (.ref a135), .val .null, .val (.ref a169), .val (.ref a170)] [(.ref a135), (.ref a135)]))
      obtain ⟨_, _, ⟨T174, L174, k174, n174⟩, -, X174, ⟨Lc174, hQ174, l174, y174, z174⟩, st174⟩ := Jvm.LawKit.callS X173 hx (y := (⟨"com/example/valve_per_tenant/valvepertenant/store/BucketKeyOverridePinLaw", "same", "(Ljava/lang/String;Ljava/lang/String;)Z"⟩ : MethodName)) hown170 (mvT hZ170 (hw _ (List.mem_of_getElem? (i := 80) rfl))) (mvT hZ170 (hw _ (List.mem_of_getElem? (i := 81) rfl))) (mvT hZ170 (hw _ (List.mem_of_getElem? (i := 2) rfl))) (mvT hZ170 (hw _ (List.mem_of_getElem? (i := 82) rfl))) (by decide) (backOf (W := 0) (rm14r l Z a0 hw [] a135 T170.heap n0 (Nat.le_trans (Nat.le_trans (Nat.le_trans Z0 E135.1) E169.1) E170.1) ((S135.ext E169).ext E170).1) hZ170 (hw _ (List.mem_of_getElem? (i := 82) rfl)) (hw _ (List.mem_of_getElem? (i := 2) rfl)) (by decide) (by decide)) (g := (mkF m 133 #[.val (.int p0), .val (.int p1), .val (.int p2), .val (.int p3), .val (.int z132), .val (.int z133), .val (.ref a135), .val .null, .val (.ref a169), .val (.ref a170)] [(.ref a135), (.ref a135)])) rfl (by rw [hml]; rfl) (argsL := [(.ref a135), (.ref a135)]) (rest := []) (lenOf pd__Ljava_lang_String_Ljava_lang_String__Z_572 rfl) rfl (by show 2 * 0 + _ ≤ _; exact Nat.le_of_eq rfl) (hb hby at_133) (fun _ _ => ⟨rfl, e173, (by decide : 11 + 0 ≤ _), (by decide : 85 + 0 ≤ _)⟩)
      dsimp only [Pt.U, Pt.locs, Pt.cells, Pt.slots] at X174 l174 y174 z174 st174 hQ174
      subst l174 y174 z174
      obtain ⟨rfl, N174q, e174q⟩ := hQ174
      have N174 := Fr.app N173 N174q
      refine own_byW st174 ?_
      have e174 : T174.heap = T170.heap := e174q
      show own_ComesW p e below s _ _ _ (T174.setTop (mkF m 136 #[.val (.int p0), .val (.int p1), .val (.int p2), .val (.int p3), .val (.int z132), .val (.int z133), .val (.ref a135), .val .null, .val (.ref a169), .val (.ref a170)] [(.int (1 : Int32))]))
      have hb175 : ¬ ((1 : Int32) = (0 : Int32)) := by decide
      refine own_byW (fun _ kS => XS.ifNo X174.here hx rfl (hb hby at_136) rfl ((if0 _ _).trans (feq hb175).1) kS) ?_
      show own_ComesW p e below s _ _ _ (T174.setTop (mkF m 139 #[.val (.int p0), .val (.int p1), .val (.int p2), .val (.int p3), .val (.int z132), .val (.int z133), .val (.ref a135), .val .null, .val (.ref a169), .val (.ref a170)] []))
      refine own_byW (fun _ kS => XS.aload X174.here hx rfl (hb hby at_139) rfl rfl kS) ?_
      show own_ComesW p e below s _ _ _ (T174.setTop (mkF m 141 #[.val (.int p0), .val (.int p1), .val (.int p2), .val (.int p3), .val (.int z132), .val (.int z133), .val (.ref a135), .val .null, .val (.ref a169), .val (.ref a170)] [.null]))
      refine own_byW (fun _ kS => XS.aload X174.here hx rfl (hb hby at_141) rfl rfl kS) ?_
      show own_ComesW p e below s _ _ _ (T174.setTop (mkF m 143 #[.val (.int p0), .val (.int p1), .val (.int p2), .val (.int p3), .val (.int z132), .val (.int z133), .val (.ref a135), .val .null, .val (.ref a169), .val (.ref a170)] [(.ref a170), .null]))
      obtain ⟨cq176, kq176, q176a, q176b, q176c⟩ := isOf hZ170 e174 B170.1
      obtain ⟨_, _, ⟨T176, L176, k176, n176⟩, -, X176, ⟨Lc176, hQ176, l176, y176, z176⟩, st176⟩ := X174.virtualBack hx (y := (⟨"com/example/valve_per_tenant/valvepertenant/store/BucketKey", "getUser", "()Ljava/lang/String;"⟩ : MethodName)) (z := (⟨"com/example/valve_per_tenant/valvepertenant/store/BucketKey", "getUser", "()Ljava/lang/String;"⟩ : MethodName)) hown170 (mvT hZ170 (hw _ (List.mem_of_getElem? (i := 88) rfl))) (mvT hZ170 (hw _ (List.mem_of_getElem? (i := 89) rfl))) (notFace_of_selects (args := #[]) (mvT hZ170 (hw _ (List.mem_of_getElem? (i := 91) rfl)))) (mvT hZ170 (hw _ (List.mem_of_getElem? (i := 91) rfl))) (mvT hZ170 (hw _ (List.mem_of_getElem? (i := 90) rfl))) (by decide) (backOf (W := 1) (rm16 l Z a0 hw [] a170 .null T170.heap n0 (Nat.le_trans (Nat.le_trans (Nat.le_trans Z0 E135.1) E169.1) E170.1) B170.2.2.2.1 rfl) hZ170 (hw _ (List.mem_of_getElem? (i := 92) rfl)) (hw _ (List.mem_of_getElem? (i := 36) rfl)) (by decide) (by decide)) q176a q176c (g := (mkF m 143 #[.val (.int p0), .val (.int p1), .val (.int p2), .val (.int p3), .val (.int z132), .val (.int z133), .val (.ref a135), .val .null, .val (.ref a169), .val (.ref a170)] [(.ref a170), .null])) rfl (by rw [hml]; rfl) (Steps.refl _) (argsL := []) (rest := [.null]) (lenOf pd___Ljava_lang_String__780 rfl) rfl (by show 2 * 0 + _ ≤ _; exact Nat.le_of_eq rfl) (hb hby at_143) (fun _ _ => ⟨rfl, e174, (by decide : 11 + 0 ≤ _), (by decide : 85 + 0 ≤ _)⟩)
      dsimp only [Pt.U, Pt.locs, Pt.cells, Pt.slots] at X176 l176 y176 z176 st176 hQ176
      subst l176 y176 z176
      obtain ⟨rfl, N176q, e176q⟩ := hQ176
      have N176 := Fr.app N174 N176q
      refine own_trW st176 ?_
      have e176 : T176.heap = T170.heap := e176q
      show own_ComesW p e below s _ _ _ (T176.setTop (mkF m 146 #[.val (.int p0), .val (.int p1), .val (.int p2), .val (.int p3), .val (.int z132), .val (.int z133), .val (.ref a135), .val .null, .val (.ref a169), .val (.ref a170)] [.null, .null]))
      obtain ⟨_, _, ⟨T177, L177, k177, n177⟩, -, X177, ⟨Lc177, hQ177, l177, y177, z177⟩, st177⟩ := Jvm.LawKit.callS X176 hx (y := (⟨"com/example/valve_per_tenant/valvepertenant/store/BucketKeyOverridePinLaw", "same", "(Ljava/lang/String;Ljava/lang/String;)Z"⟩ : MethodName)) hown170 (mvT hZ170 (hw _ (List.mem_of_getElem? (i := 80) rfl))) (mvT hZ170 (hw _ (List.mem_of_getElem? (i := 81) rfl))) (mvT hZ170 (hw _ (List.mem_of_getElem? (i := 2) rfl))) (mvT hZ170 (hw _ (List.mem_of_getElem? (i := 82) rfl))) (by decide) (backOf (W := 0) (rm14n l Z a0 hw []  T170.heap n0 (Nat.le_trans (Nat.le_trans (Nat.le_trans Z0 E135.1) E169.1) E170.1)) hZ170 (hw _ (List.mem_of_getElem? (i := 82) rfl)) (hw _ (List.mem_of_getElem? (i := 2) rfl)) (by decide) (by decide)) (g := (mkF m 146 #[.val (.int p0), .val (.int p1), .val (.int p2), .val (.int p3), .val (.int z132), .val (.int z133), .val (.ref a135), .val .null, .val (.ref a169), .val (.ref a170)] [.null, .null])) rfl (by rw [hml]; rfl) (argsL := [.null, .null]) (rest := []) (lenOf pd__Ljava_lang_String_Ljava_lang_String__Z_572 rfl) rfl (by show 2 * 0 + _ ≤ _; exact Nat.le_of_eq rfl) (hb hby at_146) (fun _ _ => ⟨rfl, e176, (by decide : 11 + 0 ≤ _), (by decide : 85 + 0 ≤ _)⟩)
      dsimp only [Pt.U, Pt.locs, Pt.cells, Pt.slots] at X177 l177 y177 z177 st177 hQ177
      subst l177 y177 z177
      obtain ⟨rfl, N177q, e177q⟩ := hQ177
      have N177 := Fr.app N176 N177q
      refine own_byW st177 ?_
      have e177 : T177.heap = T170.heap := e177q
      show own_ComesW p e below s _ _ _ (T177.setTop (mkF m 149 #[.val (.int p0), .val (.int p1), .val (.int p2), .val (.int p3), .val (.int z132), .val (.int z133), .val (.ref a135), .val .null, .val (.ref a169), .val (.ref a170)] [(.int (1 : Int32))]))
      have hb178 : ¬ ((1 : Int32) = (0 : Int32)) := by decide
      refine own_byW (fun _ kS => XS.ifNo X177.here hx rfl (hb hby at_149) rfl ((if0 _ _).trans (feq hb178).1) kS) ?_
      show own_ComesW p e below s _ _ _ (T177.setTop (mkF m 152 #[.val (.int p0), .val (.int p1), .val (.int p2), .val (.int p3), .val (.int z132), .val (.int z133), .val (.ref a135), .val .null, .val (.ref a169), .val (.ref a170)] []))
      refine own_byW (fun _ kS => XS.aload X177.here hx rfl (hb hby at_152) rfl rfl kS) ?_
      show own_ComesW p e below s _ _ _ (T177.setTop (mkF m 154 #[.val (.int p0), .val (.int p1), .val (.int p2), .val (.int p3), .val (.int z132), .val (.int z133), .val (.ref a135), .val .null, .val (.ref a169), .val (.ref a170)] [(.ref a170)]))
      obtain ⟨cq179, kq179, q179a, q179b, q179c⟩ := isOf hZ170 e177 B170.1
      obtain ⟨_, _, ⟨T179, L179, k179, n179⟩, -, X179, ⟨Lc179, hQ179, l179, y179, z179⟩, st179⟩ := X177.virtualBack hx (y := (⟨"com/example/valve_per_tenant/valvepertenant/store/BucketKey", "getAddress", "()Ljava/lang/String;"⟩ : MethodName)) (z := (⟨"com/example/valve_per_tenant/valvepertenant/store/BucketKey", "getAddress", "()Ljava/lang/String;"⟩ : MethodName)) hown170 (mvT hZ170 (hw _ (List.mem_of_getElem? (i := 93) rfl))) (mvT hZ170 (hw _ (List.mem_of_getElem? (i := 94) rfl))) (notFace_of_selects (args := #[]) (mvT hZ170 (hw _ (List.mem_of_getElem? (i := 96) rfl)))) (mvT hZ170 (hw _ (List.mem_of_getElem? (i := 96) rfl))) (mvT hZ170 (hw _ (List.mem_of_getElem? (i := 95) rfl))) (by decide) (backOf (W := 0) (rm17 l Z a0 hw [] a170 .null T170.heap n0 (Nat.le_trans (Nat.le_trans (Nat.le_trans Z0 E135.1) E169.1) E170.1) B170.2.2.2.2.1 rfl) hZ170 (hw _ (List.mem_of_getElem? (i := 97) rfl)) (hw _ (List.mem_of_getElem? (i := 36) rfl)) (by decide) (by decide)) q179a q179c (g := (mkF m 154 #[.val (.int p0), .val (.int p1), .val (.int p2), .val (.int p3), .val (.int z132), .val (.int z133), .val (.ref a135), .val .null, .val (.ref a169), .val (.ref a170)] [(.ref a170)])) rfl (by rw [hml]; rfl) (Steps.refl _) (argsL := []) (rest := []) (lenOf pd___Ljava_lang_String__780 rfl) rfl (by show 2 * 0 + _ ≤ _; exact Nat.le_of_eq rfl) (hb hby at_154) (fun _ _ => ⟨rfl, e177, (by decide : 11 + 0 ≤ _), (by decide : 85 + 0 ≤ _)⟩)
      dsimp only [Pt.U, Pt.locs, Pt.cells, Pt.slots] at X179 l179 y179 z179 st179 hQ179
      subst l179 y179 z179
      obtain ⟨rfl, N179q, e179q⟩ := hQ179
      have N179 := Fr.app N177 N179q
      refine own_trW st179 ?_
      have e179 : T179.heap = T170.heap := e179q
      show own_ComesW p e below s _ _ _ (T179.setTop (mkF m 157 #[.val (.int p0), .val (.int p1), .val (.int p2), .val (.int p3), .val (.int z132), .val (.int z133), .val (.ref a135), .val .null, .val (.ref a169), .val (.ref a170)] [.null]))
      refine own_byW (fun _ kS => XS.ifnonnullNo X179.here hx rfl (hb hby at_157) rfl kS) ?_
      show own_ComesW p e below s _ _ _ (T179.setTop (mkF m 160 #[.val (.int p0), .val (.int p1), .val (.int p2), .val (.int p3), .val (.int z132), .val (.int z133), .val (.ref a135), .val .null, .val (.ref a169), .val (.ref a170)] []))
      refine own_byW (fun _ kS => XS.aload X179.here hx rfl (hb hby at_160) rfl rfl kS) ?_
      show own_ComesW p e below s _ _ _ (T179.setTop (mkF m 162 #[.val (.int p0), .val (.int p1), .val (.int p2), .val (.int p3), .val (.int z132), .val (.int z133), .val (.ref a135), .val .null, .val (.ref a169), .val (.ref a170)] [(.ref a169)]))
      refine own_byW (fun _ kS => XS.aload X179.here hx rfl (hb hby at_162) rfl rfl kS) ?_
      show own_ComesW p e below s _ _ _ (T179.setTop (mkF m 164 #[.val (.int p0), .val (.int p1), .val (.int p2), .val (.int p3), .val (.int z132), .val (.int z133), .val (.ref a135), .val .null, .val (.ref a169), .val (.ref a170)] [(.ref a170), (.ref a169)]))
      obtain ⟨cq180, kq180, q180a, q180b, q180c⟩ := isOf hZ170 e179 B170.1
      obtain ⟨_, _, ⟨T180, L180, k180, n180⟩, -, X180, ⟨Lc180, hQ180, l180, y180, z180⟩, st180⟩ := X179.virtualBack hx (y := (⟨"com/example/valve_per_tenant/valvepertenant/store/BucketKey", "getEndpoint", "()Ljava/lang/String;"⟩ : MethodName)) (z := (⟨"com/example/valve_per_tenant/valvepertenant/store/BucketKey", "getEndpoint", "()Ljava/lang/String;"⟩ : MethodName)) hown170 (mvT hZ170 (hw _ (List.mem_of_getElem? (i := 98) rfl))) (mvT hZ170 (hw _ (List.mem_of_getElem? (i := 99) rfl))) (notFace_of_selects (args := #[]) (mvT hZ170 (hw _ (List.mem_of_getElem? (i := 101) rfl)))) (mvT hZ170 (hw _ (List.mem_of_getElem? (i := 101) rfl))) (mvT hZ170 (hw _ (List.mem_of_getElem? (i := 100) rfl))) (by decide) (backOf (W := 1) (rm18 l Z a0 hw [] a170 (.ref a169) T170.heap n0 (Nat.le_trans (Nat.le_trans (Nat.le_trans Z0 E135.1) E169.1) E170.1) B170.2.2.2.2.2 rfl) hZ170 (hw _ (List.mem_of_getElem? (i := 102) rfl)) (hw _ (List.mem_of_getElem? (i := 36) rfl)) (by decide) (by decide)) q180a q180c (g := (mkF m 164 #[.val (.int p0), .val (.int p1), .val (.int p2), .val (.int p3), .val (.int z132), .val (.int z133), .val (.ref a135), .val .null, .val (.ref a169), .val (.ref a170)] [(.ref a170), (.ref a169)])) rfl (by rw [hml]; rfl) (Steps.refl _) (argsL := []) (rest := [(.ref a169)]) (lenOf pd___Ljava_lang_String__780 rfl) rfl (by show 2 * 0 + _ ≤ _; exact Nat.le_of_eq rfl) (hb hby at_164) (fun _ _ => ⟨rfl, e179, (by decide : 11 + 0 ≤ _), (by decide : 85 + 0 ≤ _)⟩)
      dsimp only [Pt.U, Pt.locs, Pt.cells, Pt.slots] at X180 l180 y180 z180 st180 hQ180
      subst l180 y180 z180
      obtain ⟨rfl, N180q, e180q⟩ := hQ180
      have N180 := Fr.app N179 N180q
      refine own_trW st180 ?_
      have e180 : T180.heap = T170.heap := e180q
      show own_ComesW p e below s _ _ _ (T180.setTop (mkF m 167 #[.val (.int p0), .val (.int p1), .val (.int p2), .val (.int p3), .val (.int z132), .val (.int z133), .val (.ref a135), .val .null, .val (.ref a169), .val (.ref a170)] [(.ref a169), (.ref a169)]))
      obtain ⟨_, _, ⟨T181, L181, k181, n181⟩, -, X181, ⟨Lc181, hQ181, l181, y181, z181⟩, st181⟩ := Jvm.LawKit.callS X180 hx (y := (⟨"com/example/valve_per_tenant/valvepertenant/store/BucketKeyOverridePinLaw", "same", "(Ljava/lang/String;Ljava/lang/String;)Z"⟩ : MethodName)) hown170 (mvT hZ170 (hw _ (List.mem_of_getElem? (i := 80) rfl))) (mvT hZ170 (hw _ (List.mem_of_getElem? (i := 81) rfl))) (mvT hZ170 (hw _ (List.mem_of_getElem? (i := 2) rfl))) (mvT hZ170 (hw _ (List.mem_of_getElem? (i := 82) rfl))) (by decide) (backOf (W := 0) (rm14r l Z a0 hw [] a169 T170.heap n0 (Nat.le_trans (Nat.le_trans (Nat.le_trans Z0 E135.1) E169.1) E170.1) (S169.ext E170).1) hZ170 (hw _ (List.mem_of_getElem? (i := 82) rfl)) (hw _ (List.mem_of_getElem? (i := 2) rfl)) (by decide) (by decide)) (g := (mkF m 167 #[.val (.int p0), .val (.int p1), .val (.int p2), .val (.int p3), .val (.int z132), .val (.int z133), .val (.ref a135), .val .null, .val (.ref a169), .val (.ref a170)] [(.ref a169), (.ref a169)])) rfl (by rw [hml]; rfl) (argsL := [(.ref a169), (.ref a169)]) (rest := []) (lenOf pd__Ljava_lang_String_Ljava_lang_String__Z_572 rfl) rfl (by show 2 * 0 + _ ≤ _; exact Nat.le_of_eq rfl) (hb hby at_167) (fun _ _ => ⟨rfl, e180, (by decide : 11 + 0 ≤ _), (by decide : 85 + 0 ≤ _)⟩)
      dsimp only [Pt.U, Pt.locs, Pt.cells, Pt.slots] at X181 l181 y181 z181 st181 hQ181
      subst l181 y181 z181
      obtain ⟨rfl, N181q, e181q⟩ := hQ181
      have N181 := Fr.app N180 N181q
      refine own_byW st181 ?_
      have e181 : T181.heap = T170.heap := e181q
      show own_ComesW p e below s _ _ _ (T181.setTop (mkF m 170 #[.val (.int p0), .val (.int p1), .val (.int p2), .val (.int p3), .val (.int z132), .val (.int z133), .val (.ref a135), .val .null, .val (.ref a169), .val (.ref a170)] [(.int (1 : Int32))]))
      have hb182 : ¬ ((1 : Int32) = (0 : Int32)) := by decide
      refine own_byW (fun _ kS => XS.ifNo X181.here hx rfl (hb hby at_170) rfl ((if0 _ _).trans (feq hb182).1) kS) ?_
      show own_ComesW p e below s _ _ _ (T181.setTop (mkF m 173 #[.val (.int p0), .val (.int p1), .val (.int p2), .val (.int p3), .val (.int z132), .val (.int z133), .val (.ref a135), .val .null, .val (.ref a169), .val (.ref a170)] []))
      refine own_byW (fun _ kS => XS.iconst X181.here hx rfl (hb hby at_173) kS) ?_
      show own_ComesW p e below s _ _ _ (T181.setTop (mkF m 174 #[.val (.int p0), .val (.int p1), .val (.int p2), .val (.int p3), .val (.int z132), .val (.int z133), .val (.ref a135), .val .null, .val (.ref a169), .val (.ref a170)] [(.int (1 : Int32))]))
      refine own_byW (fun _ kS => XS.goto X181.here hx rfl (pc0 := 174) (pc' := 178) rfl (hb hby at_174) (by decide) (by decide) kS) ?_
      show own_ComesW p e below s _ _ _ (T181.setTop (mkF m 178 #[.val (.int p0), .val (.int p1), .val (.int p2), .val (.int p3), .val (.int z132), .val (.int z133), .val (.ref a135), .val .null, .val (.ref a169), .val (.ref a170)] [(.int (1 : Int32))]))
      have hkr183 := (Nat.le_refl (Array.size T170.heap))
      refine own_retW X181 hS170 (by rw [e181]; exact hkr183) (v := some (.int (1 : Int32))) (fun h => by rw [Bd.returns] at h; cases h) Bd.notSynchronized (by decide) (by decide) ?_ (fun fs hr => retN X181 hx (t := .boolean) Bd.returns (by simp) (hb hby at_178) hr)
      rw [e181]; exact ⟨rfl, N181⟩
    · refine own_byW (fun _ kS => XS.ifNo X135.here hx rfl (hb hby at_72) rfl ((if0 _ _).trans (feq hen).1) kS) ?_
      show own_ComesW p e below s _ _ _ (T135.setTop (mkF m 75 #[.val (.int p0), .val (.int p1), .val (.int p2), .val (.int p3), .val (.int z132), .val (.int z133), .val (.ref a135), .val .null, .unset, .unset] []))
      refine own_byW (fun _ kS => XS.aconstNull X135.here hx rfl (hb hby at_75) kS) ?_
      show own_ComesW p e below s _ _ _ (T135.setTop (mkF m 76 #[.val (.int p0), .val (.int p1), .val (.int p2), .val (.int p3), .val (.int z132), .val (.int z133), .val (.ref a135), .val .null, .unset, .unset] [.null]))
      refine own_byW (fun _ kS => XS.goto X135.here hx rfl (pc0 := 76) (pc' := 95) rfl (hb hby at_76) (by decide) (by decide) kS) ?_
      show own_ComesW p e below s _ _ _ (T135.setTop (mkF m 95 #[.val (.int p0), .val (.int p1), .val (.int p2), .val (.int p3), .val (.int z132), .val (.int z133), .val (.ref a135), .val .null, .unset, .unset] [.null]))
      refine own_byW (fun _ kS => XS.astore X135.here hx rfl (hb hby at_95) rfl rfl (l' := #[.val (.int p0), .val (.int p1), .val (.int p2), .val (.int p3), .val (.int z132), .val (.int z133), .val (.ref a135), .val .null, .val .null, .unset]) rfl kS) ?_
      show own_ComesW p e below s _ _ _ (T135.setTop (mkF m 97 #[.val (.int p0), .val (.int p1), .val (.int p2), .val (.int p3), .val (.int z132), .val (.int z133), .val (.ref a135), .val .null, .val .null, .unset] []))
      refine own_byW (fun _ kS => XS.aload X135.here hx rfl (hb hby at_97) rfl rfl kS) ?_
      show own_ComesW p e below s _ _ _ (T135.setTop (mkF m 99 #[.val (.int p0), .val (.int p1), .val (.int p2), .val (.int p3), .val (.int z132), .val (.int z133), .val (.ref a135), .val .null, .val .null, .unset] [(.ref a135)]))
      refine own_byW (fun _ kS => XS.aload X135.here hx rfl (hb hby at_99) rfl rfl kS) ?_
      show own_ComesW p e below s _ _ _ (T135.setTop (mkF m 101 #[.val (.int p0), .val (.int p1), .val (.int p2), .val (.int p3), .val (.int z132), .val (.int z133), .val (.ref a135), .val .null, .val .null, .unset] [.null, (.ref a135)]))
      refine own_byW (fun _ kS => XS.aload X135.here hx rfl (hb hby at_101) rfl rfl kS) ?_
      show own_ComesW p e below s _ _ _ (T135.setTop (mkF m 103 #[.val (.int p0), .val (.int p1), .val (.int p2), .val (.int p3), .val (.int z132), .val (.int z133), .val (.ref a135), .val .null, .val .null, .unset] [.null, .null, (.ref a135)]))
      obtain ⟨_, _, ⟨T184, L184, k184, n184⟩, -, Xw184, hs184, gr184, ⟨Lc184, hQ184, l184, y184, z184⟩, st184⟩ := callSS X135 hx (y := (⟨"com/example/valve_per_tenant/valvepertenant/store/BucketKey", "override", "(Ljava/lang/String;Ljava/lang/String;Ljava/lang/String;)Lcom/example/valve_per_tenant/valvepertenant/store/BucketKey;"⟩ : MethodName)) hown (mvT hZ (hw _ (List.mem_of_getElem? (i := 34) rfl))) (mvT hZ (hw _ (List.mem_of_getElem? (i := 35) rfl))) (mvT hZ (hw _ (List.mem_of_getElem? (i := 36) rfl))) (mvT hZ (hw _ (List.mem_of_getElem? (i := 37) rfl))) (by decide) (backOfS (W := 0) (rm8nn l Z a0 hw [] sc a135 T135.heap n0 (Nat.le_trans Z0 E135.1) (O0.ext E135) Sc S135) hZ (hw _ (List.mem_of_getElem? (i := 37) rfl)) (hw _ (List.mem_of_getElem? (i := 36) rfl)) (by decide) (by decide)) (g := (mkF m 103 #[.val (.int p0), .val (.int p1), .val (.int p2), .val (.int p3), .val (.int z132), .val (.int z133), .val (.ref a135), .val .null, .val .null, .unset] [.null, .null, (.ref a135)])) rfl (by rw [hml]; rfl) (argsL := [(.ref a135), .null, .null]) (rest := []) (lenOf pd__Ljava_lang_String_Ljava_lang_String_Ljava_lang_String__Lcom_example_valve_per_tenant_valvepertenant_store_BucketKey__327 rfl) rfl (by show 2 * 0 + _ ≤ _; exact Nat.le_of_eq rfl) (hb hby at_103) (fun _ _ => ⟨rfl, rfl, (by decide : 3 + 3 ≤ _), (by decide : 8 + 33 ≤ _)⟩)
      dsimp only [Pt.U, Pt.locs, Pt.cells, Pt.slots] at Xw184 l184 y184 z184 st184 hQ184 hs184 gr184
      subst l184 y184 z184
      obtain ⟨X184, hS184, hZ184, hown184⟩ := rebS hS (Nat.le_trans hk E135.1) Xw184 hs184 gr184 hZ hown
      obtain ⟨a184, rfl, N184q, E184, B184⟩ := hQ184
      have N184 := Fr.app N135 N184q
      refine own_trW st184 ?_
      show own_ComesW p e below s _ _ _ (T184.setTop (mkF m 106 #[.val (.int p0), .val (.int p1), .val (.int p2), .val (.int p3), .val (.int z132), .val (.int z133), .val (.ref a135), .val .null, .val .null, .unset] [(.ref a184)]))
      refine own_byW (fun _ kS => XS.astore X184.here hx rfl (hb hby at_106) rfl rfl (l' := #[.val (.int p0), .val (.int p1), .val (.int p2), .val (.int p3), .val (.int z132), .val (.int z133), .val (.ref a135), .val .null, .val .null, .val (.ref a184)]) rfl kS) ?_
      show own_ComesW p e below s _ _ _ (T184.setTop (mkF m 108 #[.val (.int p0), .val (.int p1), .val (.int p2), .val (.int p3), .val (.int z132), .val (.int z133), .val (.ref a135), .val .null, .val .null, .val (.ref a184)] []))
      refine own_byW (fun _ kS => XS.aload X184.here hx rfl (hb hby at_108) rfl rfl kS) ?_
      show own_ComesW p e below s _ _ _ (T184.setTop (mkF m 110 #[.val (.int p0), .val (.int p1), .val (.int p2), .val (.int p3), .val (.int z132), .val (.int z133), .val (.ref a135), .val .null, .val .null, .val (.ref a184)] [(.ref a184)]))
      refine own_byW (fun _ kS => XS.ifnonnullYes X184.here hx rfl (pc0 := 110) (pc' := 115) rfl (hb hby at_110) rfl (by decide) (by decide) kS) ?_
      show own_ComesW p e below s _ _ _ (T184.setTop (mkF m 115 #[.val (.int p0), .val (.int p1), .val (.int p2), .val (.int p3), .val (.int z132), .val (.int z133), .val (.ref a135), .val .null, .val .null, .val (.ref a184)] []))
      refine own_byW (fun _ kS => XS.aload X184.here hx rfl (hb hby at_115) rfl rfl kS) ?_
      show own_ComesW p e below s _ _ _ (T184.setTop (mkF m 117 #[.val (.int p0), .val (.int p1), .val (.int p2), .val (.int p3), .val (.int z132), .val (.int z133), .val (.ref a135), .val .null, .val .null, .val (.ref a184)] [(.ref a184)]))
      obtain ⟨cq185, kq185, q185a, q185b, q185c⟩ := isOf hZ184 rfl B184.1
      obtain ⟨_, _, ⟨T185, L185, k185, n185⟩, -, X185, ⟨Lc185, hQ185, l185, y185, z185⟩, st185⟩ := X184.virtualBack hx (y := (⟨"com/example/valve_per_tenant/valvepertenant/store/BucketKey", "getScope", "()Lcom/example/valve_per_tenant/valvepertenant/model/Scope;"⟩ : MethodName)) (z := (⟨"com/example/valve_per_tenant/valvepertenant/store/BucketKey", "getScope", "()Lcom/example/valve_per_tenant/valvepertenant/model/Scope;"⟩ : MethodName)) hown184 (mvT hZ184 (hw _ (List.mem_of_getElem? (i := 69) rfl))) (mvT hZ184 (hw _ (List.mem_of_getElem? (i := 70) rfl))) (notFace_of_selects (args := #[]) (mvT hZ184 (hw _ (List.mem_of_getElem? (i := 72) rfl)))) (mvT hZ184 (hw _ (List.mem_of_getElem? (i := 72) rfl))) (mvT hZ184 (hw _ (List.mem_of_getElem? (i := 71) rfl))) (by decide) (backOf (W := 0) (rm12 l Z a0 hw [] a184 (.ref sc) T184.heap n0 (Nat.le_trans (Nat.le_trans Z0 E135.1) E184.1) B184.2.1 rfl) hZ184 (hw _ (List.mem_of_getElem? (i := 73) rfl)) (hw _ (List.mem_of_getElem? (i := 36) rfl)) (by decide) (by decide)) q185a q185c (g := (mkF m 117 #[.val (.int p0), .val (.int p1), .val (.int p2), .val (.int p3), .val (.int z132), .val (.int z133), .val (.ref a135), .val .null, .val .null, .val (.ref a184)] [(.ref a184)])) rfl (by rw [hml]; rfl) (Steps.refl _) (argsL := []) (rest := []) (lenOf pd___Lcom_example_valve_per_tenant_valvepertenant_model_Scope__796 rfl) rfl (by show 2 * 0 + _ ≤ _; exact Nat.le_of_eq rfl) (hb hby at_117) (fun _ _ => ⟨rfl, rfl, (by decide : 6 + 0 ≤ _), (by decide : 41 + 0 ≤ _)⟩)
      dsimp only [Pt.U, Pt.locs, Pt.cells, Pt.slots] at X185 l185 y185 z185 st185 hQ185
      subst l185 y185 z185
      obtain ⟨rfl, N185q, e185q⟩ := hQ185
      have N185 := Fr.app N184 N185q
      refine own_trW st185 ?_
      have e185 : T185.heap = T184.heap := e185q
      show own_ComesW p e below s _ _ _ (T185.setTop (mkF m 120 #[.val (.int p0), .val (.int p1), .val (.int p2), .val (.int p3), .val (.int z132), .val (.int z133), .val (.ref a135), .val .null, .val .null, .val (.ref a184)] [(.ref sc)]))
      obtain ⟨T186, X186, e186, st186⟩ := getS2 X185 hx hZ184 hown184 (host := "") (Or.inl (hw _ (List.mem_of_getElem? (i := 74) rfl))) Via.refl e185 (Sc.ext ((O0.ext E135).ext E184).2) (g := (mkF m 120 #[.val (.int p0), .val (.int p1), .val (.int p2), .val (.int p3), .val (.int z132), .val (.int z133), .val (.ref a135), .val .null, .val .null, .val (.ref a184)] [(.ref sc)])) rfl (hb hby at_120)
      refine own_byW st186 ?_
      show own_ComesW p e below s _ _ _ (T186.setTop (mkF m 123 #[.val (.int p0), .val (.int p1), .val (.int p2), .val (.int p3), .val (.int z132), .val (.int z133), .val (.ref a135), .val .null, .val .null, .val (.ref a184)] [(.ref sc), (.ref sc)]))
      refine own_byW (fun _ kS => Jvm.RoadKit.acmp (g := (mkF m 123 #[.val (.int p0), .val (.int p1), .val (.int p2), .val (.int p3), .val (.int z132), .val (.int z133), .val (.ref a135), .val .null, .val .null, .val (.ref a184)] [(.ref sc), (.ref sc)])) X186 hx rfl rfl rfl (pc0 := 123) (pc' := 126) (same := true) rfl (hb hby at_123) rfl (decide_eq_true rfl) (by decide) (by decide) kS) ?_
      show own_ComesW p e below s _ _ _ (T186.setTop (mkF m 126 #[.val (.int p0), .val (.int p1), .val (.int p2), .val (.int p3), .val (.int z132), .val (.int z133), .val (.ref a135), .val .null, .val .null, .val (.ref a184)] []))
      refine own_byW (fun _ kS => XS.aload X186.here hx rfl (hb hby at_126) rfl rfl kS) ?_
      show own_ComesW p e below s _ _ _ (T186.setTop (mkF m 128 #[.val (.int p0), .val (.int p1), .val (.int p2), .val (.int p3), .val (.int z132), .val (.int z133), .val (.ref a135), .val .null, .val .null, .val (.ref a184)] [(.ref a135)]))
      refine own_byW (fun _ kS => XS.aload X186.here hx rfl (hb hby at_128) rfl rfl kS) ?_
      show own_ComesW p e below s _ _ _ (T186.setTop (mkF m 130 #[.val (.int p0), .val (.int p1), .val (.int p2), .val (.int p3), .val (.int z132), .val (.int z133), .val (.ref a135), .val .null, .val .null, .val (.ref a184)] [(.ref a184), (.ref a135)]))
      obtain ⟨cq187, kq187, q187a, q187b, q187c⟩ := isOf hZ184 e186 B184.1
      obtain ⟨_, _, ⟨T187, L187, k187, n187⟩, -, X187, ⟨Lc187, hQ187, l187, y187, z187⟩, st187⟩ := X186.virtualBack hx (y := (⟨"com/example/valve_per_tenant/valvepertenant/store/BucketKey", "getTenant", "()Ljava/lang/String;"⟩ : MethodName)) (z := (⟨"com/example/valve_per_tenant/valvepertenant/store/BucketKey", "getTenant", "()Ljava/lang/String;"⟩ : MethodName)) hown184 (mvT hZ184 (hw _ (List.mem_of_getElem? (i := 75) rfl))) (mvT hZ184 (hw _ (List.mem_of_getElem? (i := 76) rfl))) (notFace_of_selects (args := #[]) (mvT hZ184 (hw _ (List.mem_of_getElem? (i := 78) rfl)))) (mvT hZ184 (hw _ (List.mem_of_getElem? (i := 78) rfl))) (mvT hZ184 (hw _ (List.mem_of_getElem? (i := 77) rfl))) (by decide) (backOf (W := 1) (rm13 l Z a0 hw [] a184 (.ref a135) T184.heap n0 (Nat.le_trans (Nat.le_trans Z0 E135.1) E184.1) B184.2.2.1 rfl) hZ184 (hw _ (List.mem_of_getElem? (i := 79) rfl)) (hw _ (List.mem_of_getElem? (i := 36) rfl)) (by decide) (by decide)) q187a q187c (g := (mkF m 130 #[.val (.int p0), .val (.int p1), .val (.int p2), .val (.int p3), .val (.int z132), .val (.int z133), .val (.ref a135), .val .null, .val .null, .val (.ref a184)] [(.ref a184), (.ref a135)])) rfl (by rw [hml]; rfl) (Steps.refl _) (argsL := []) (rest := [(.ref a135)]) (lenOf pd___Ljava_lang_String__780 rfl) rfl (by show 2 * 0 + _ ≤ _; exact Nat.le_of_eq rfl) (hb hby at_130) (fun _ _ => ⟨rfl, e186, (by decide : 6 + 0 ≤ _), (by decide : 41 + 0 ≤ _)⟩)
      dsimp only [Pt.U, Pt.locs, Pt.cells, Pt.slots] at X187 l187 y187 z187 st187 hQ187
      subst l187 y187 z187
      obtain ⟨rfl, N187q, e187q⟩ := hQ187
      have N187 := Fr.app N185 N187q
      refine own_trW st187 ?_
      have e187 : T187.heap = T184.heap := e187q
      show own_ComesW p e below s _ _ _ (T187.setTop (mkF m 133 #[.val (.int p0), .val (.int p1), .val (.int p2), .val (.int p3), .val (.int z132), .val (.int z133), .val (.ref a135), .val .null, .val .null, .val (.ref a184)] [(.ref a135), (.ref a135)]))
      obtain ⟨_, _, ⟨T188, L188, k188, n188⟩, -, X188, ⟨Lc188, hQ188, l188, y188, z188⟩, st188⟩ := Jvm.LawKit.callS X187 hx (y := (⟨"com/example/valve_per_tenant/valvepertenant/store/BucketKeyOverridePinLaw", "same", "(Ljava/lang/String;Ljava/lang/String;)Z"⟩ : MethodName)) hown184 (mvT hZ184 (hw _ (List.mem_of_getElem? (i := 80) rfl))) (mvT hZ184 (hw _ (List.mem_of_getElem? (i := 81) rfl))) (mvT hZ184 (hw _ (List.mem_of_getElem? (i := 2) rfl))) (mvT hZ184 (hw _ (List.mem_of_getElem? (i := 82) rfl))) (by decide) (backOf (W := 0) (rm14r l Z a0 hw [] a135 T184.heap n0 (Nat.le_trans (Nat.le_trans Z0 E135.1) E184.1) (S135.ext E184).1) hZ184 (hw _ (List.mem_of_getElem? (i := 82) rfl)) (hw _ (List.mem_of_getElem? (i := 2) rfl)) (by decide) (by decide)) (g := (mkF m 133 #[.val (.int p0), .val (.int p1), .val (.int p2), .val (.int p3), .val (.int z132), .val (.int z133), .val (.ref a135), .val .null, .val .null, .val (.ref a184)] [(.ref a135), (.ref a135)])) rfl (by rw [hml]; rfl) (argsL := [(.ref a135), (.ref a135)]) (rest := []) (lenOf pd__Ljava_lang_String_Ljava_lang_String__Z_572 rfl) rfl (by show 2 * 0 + _ ≤ _; exact Nat.le_of_eq rfl) (hb hby at_133) (fun _ _ => ⟨rfl, e187, (by decide : 6 + 0 ≤ _), (by decide : 41 + 0 ≤ _)⟩)
      dsimp only [Pt.U, Pt.locs, Pt.cells, Pt.slots] at X188 l188 y188 z188 st188 hQ188
      subst l188 y188 z188
      obtain ⟨rfl, N188q, e188q⟩ := hQ188
      have N188 := Fr.app N187 N188q
      refine own_byW st188 ?_
      have e188 : T188.heap = T184.heap := e188q
      show own_ComesW p e below s _ _ _ (T188.setTop (mkF m 136 #[.val (.int p0), .val (.int p1), .val (.int p2), .val (.int p3), .val (.int z132), .val (.int z133), .val (.ref a135), .val .null, .val .null, .val (.ref a184)] [(.int (1 : Int32))]))
      have hb189 : ¬ ((1 : Int32) = (0 : Int32)) := by decide
      refine own_byW (fun _ kS => XS.ifNo X188.here hx rfl (hb hby at_136) rfl ((if0 _ _).trans (feq hb189).1) kS) ?_
      show own_ComesW p e below s _ _ _ (T188.setTop (mkF m 139 #[.val (.int p0), .val (.int p1), .val (.int p2), .val (.int p3), .val (.int z132), .val (.int z133), .val (.ref a135), .val .null, .val .null, .val (.ref a184)] []))
      refine own_byW (fun _ kS => XS.aload X188.here hx rfl (hb hby at_139) rfl rfl kS) ?_
      show own_ComesW p e below s _ _ _ (T188.setTop (mkF m 141 #[.val (.int p0), .val (.int p1), .val (.int p2), .val (.int p3), .val (.int z132), .val (.int z133), .val (.ref a135), .val .null, .val .null, .val (.ref a184)] [.null]))
      refine own_byW (fun _ kS => XS.aload X188.here hx rfl (hb hby at_141) rfl rfl kS) ?_
      show own_ComesW p e below s _ _ _ (T188.setTop (mkF m 143 #[.val (.int p0), .val (.int p1), .val (.int p2), .val (.int p3), .val (.int z132), .val (.int z133), .val (.ref a135), .val .null, .val .null, .val (.ref a184)] [(.ref a184), .null]))
      obtain ⟨cq190, kq190, q190a, q190b, q190c⟩ := isOf hZ184 e188 B184.1
      obtain ⟨_, _, ⟨T190, L190, k190, n190⟩, -, X190, ⟨Lc190, hQ190, l190, y190, z190⟩, st190⟩ := X188.virtualBack hx (y := (⟨"com/example/valve_per_tenant/valvepertenant/store/BucketKey", "getUser", "()Ljava/lang/String;"⟩ : MethodName)) (z := (⟨"com/example/valve_per_tenant/valvepertenant/store/BucketKey", "getUser", "()Ljava/lang/String;"⟩ : MethodName)) hown184 (mvT hZ184 (hw _ (List.mem_of_getElem? (i := 88) rfl))) (mvT hZ184 (hw _ (List.mem_of_getElem? (i := 89) rfl))) (notFace_of_selects (args := #[]) (mvT hZ184 (hw _ (List.mem_of_getElem? (i := 91) rfl)))) (mvT hZ184 (hw _ (List.mem_of_getElem? (i := 91) rfl))) (mvT hZ184 (hw _ (List.mem_of_getElem? (i := 90) rfl))) (by decide) (backOf (W := 1) (rm16 l Z a0 hw [] a184 .null T184.heap n0 (Nat.le_trans (Nat.le_trans Z0 E135.1) E184.1) B184.2.2.2.1 rfl) hZ184 (hw _ (List.mem_of_getElem? (i := 92) rfl)) (hw _ (List.mem_of_getElem? (i := 36) rfl)) (by decide) (by decide)) q190a q190c (g := (mkF m 143 #[.val (.int p0), .val (.int p1), .val (.int p2), .val (.int p3), .val (.int z132), .val (.int z133), .val (.ref a135), .val .null, .val .null, .val (.ref a184)] [(.ref a184), .null])) rfl (by rw [hml]; rfl) (Steps.refl _) (argsL := []) (rest := [.null]) (lenOf pd___Ljava_lang_String__780 rfl) rfl (by show 2 * 0 + _ ≤ _; exact Nat.le_of_eq rfl) (hb hby at_143) (fun _ _ => ⟨rfl, e188, (by decide : 6 + 0 ≤ _), (by decide : 41 + 0 ≤ _)⟩)
      dsimp only [Pt.U, Pt.locs, Pt.cells, Pt.slots] at X190 l190 y190 z190 st190 hQ190
      subst l190 y190 z190
      obtain ⟨rfl, N190q, e190q⟩ := hQ190
      have N190 := Fr.app N188 N190q
      refine own_trW st190 ?_
      have e190 : T190.heap = T184.heap := e190q
      show own_ComesW p e below s _ _ _ (T190.setTop (mkF m 146 #[.val (.int p0), .val (.int p1), .val (.int p2), .val (.int p3), .val (.int z132), .val (.int z133), .val (.ref a135), .val .null, .val .null, .val (.ref a184)] [.null, .null]))
      obtain ⟨_, _, ⟨T191, L191, k191, n191⟩, -, X191, ⟨Lc191, hQ191, l191, y191, z191⟩, st191⟩ := Jvm.LawKit.callS X190 hx (y := (⟨"com/example/valve_per_tenant/valvepertenant/store/BucketKeyOverridePinLaw", "same", "(Ljava/lang/String;Ljava/lang/String;)Z"⟩ : MethodName)) hown184 (mvT hZ184 (hw _ (List.mem_of_getElem? (i := 80) rfl))) (mvT hZ184 (hw _ (List.mem_of_getElem? (i := 81) rfl))) (mvT hZ184 (hw _ (List.mem_of_getElem? (i := 2) rfl))) (mvT hZ184 (hw _ (List.mem_of_getElem? (i := 82) rfl))) (by decide) (backOf (W := 0) (rm14n l Z a0 hw []  T184.heap n0 (Nat.le_trans (Nat.le_trans Z0 E135.1) E184.1)) hZ184 (hw _ (List.mem_of_getElem? (i := 82) rfl)) (hw _ (List.mem_of_getElem? (i := 2) rfl)) (by decide) (by decide)) (g := (mkF m 146 #[.val (.int p0), .val (.int p1), .val (.int p2), .val (.int p3), .val (.int z132), .val (.int z133), .val (.ref a135), .val .null, .val .null, .val (.ref a184)] [.null, .null])) rfl (by rw [hml]; rfl) (argsL := [.null, .null]) (rest := []) (lenOf pd__Ljava_lang_String_Ljava_lang_String__Z_572 rfl) rfl (by show 2 * 0 + _ ≤ _; exact Nat.le_of_eq rfl) (hb hby at_146) (fun _ _ => ⟨rfl, e190, (by decide : 6 + 0 ≤ _), (by decide : 41 + 0 ≤ _)⟩)
      dsimp only [Pt.U, Pt.locs, Pt.cells, Pt.slots] at X191 l191 y191 z191 st191 hQ191
      subst l191 y191 z191
      obtain ⟨rfl, N191q, e191q⟩ := hQ191
      have N191 := Fr.app N190 N191q
      refine own_byW st191 ?_
      have e191 : T191.heap = T184.heap := e191q
      show own_ComesW p e below s _ _ _ (T191.setTop (mkF m 149 #[.val (.int p0), .val (.int p1), .val (.int p2), .val (.int p3), .val (.int z132), .val (.int z133), .val (.ref a135), .val .null, .val .null, .val (.ref a184)] [(.int (1 : Int32))]))
      have hb192 : ¬ ((1 : Int32) = (0 : Int32)) := by decide
      refine own_byW (fun _ kS => XS.ifNo X191.here hx rfl (hb hby at_149) rfl ((if0 _ _).trans (feq hb192).1) kS) ?_
      show own_ComesW p e below s _ _ _ (T191.setTop (mkF m 152 #[.val (.int p0), .val (.int p1), .val (.int p2), .val (.int p3), .val (.int z132), .val (.int z133), .val (.ref a135), .val .null, .val .null, .val (.ref a184)] []))
      refine own_byW (fun _ kS => XS.aload X191.here hx rfl (hb hby at_152) rfl rfl kS) ?_
      show own_ComesW p e below s _ _ _ (T191.setTop (mkF m 154 #[.val (.int p0), .val (.int p1), .val (.int p2), .val (.int p3), .val (.int z132), .val (.int z133), .val (.ref a135), .val .null, .val .null, .val (.ref a184)] [(.ref a184)]))
      obtain ⟨cq193, kq193, q193a, q193b, q193c⟩ := isOf hZ184 e191 B184.1
      obtain ⟨_, _, ⟨T193, L193, k193, n193⟩, -, X193, ⟨Lc193, hQ193, l193, y193, z193⟩, st193⟩ := X191.virtualBack hx (y := (⟨"com/example/valve_per_tenant/valvepertenant/store/BucketKey", "getAddress", "()Ljava/lang/String;"⟩ : MethodName)) (z := (⟨"com/example/valve_per_tenant/valvepertenant/store/BucketKey", "getAddress", "()Ljava/lang/String;"⟩ : MethodName)) hown184 (mvT hZ184 (hw _ (List.mem_of_getElem? (i := 93) rfl))) (mvT hZ184 (hw _ (List.mem_of_getElem? (i := 94) rfl))) (notFace_of_selects (args := #[]) (mvT hZ184 (hw _ (List.mem_of_getElem? (i := 96) rfl)))) (mvT hZ184 (hw _ (List.mem_of_getElem? (i := 96) rfl))) (mvT hZ184 (hw _ (List.mem_of_getElem? (i := 95) rfl))) (by decide) (backOf (W := 0) (rm17 l Z a0 hw [] a184 .null T184.heap n0 (Nat.le_trans (Nat.le_trans Z0 E135.1) E184.1) B184.2.2.2.2.1 rfl) hZ184 (hw _ (List.mem_of_getElem? (i := 97) rfl)) (hw _ (List.mem_of_getElem? (i := 36) rfl)) (by decide) (by decide)) q193a q193c (g := (mkF m 154 #[.val (.int p0), .val (.int p1), .val (.int p2), .val (.int p3), .val (.int z132), .val (.int z133), .val (.ref a135), .val .null, .val .null, .val (.ref a184)] [(.ref a184)])) rfl (by rw [hml]; rfl) (Steps.refl _) (argsL := []) (rest := []) (lenOf pd___Ljava_lang_String__780 rfl) rfl (by show 2 * 0 + _ ≤ _; exact Nat.le_of_eq rfl) (hb hby at_154) (fun _ _ => ⟨rfl, e191, (by decide : 6 + 0 ≤ _), (by decide : 41 + 0 ≤ _)⟩)
      dsimp only [Pt.U, Pt.locs, Pt.cells, Pt.slots] at X193 l193 y193 z193 st193 hQ193
      subst l193 y193 z193
      obtain ⟨rfl, N193q, e193q⟩ := hQ193
      have N193 := Fr.app N191 N193q
      refine own_trW st193 ?_
      have e193 : T193.heap = T184.heap := e193q
      show own_ComesW p e below s _ _ _ (T193.setTop (mkF m 157 #[.val (.int p0), .val (.int p1), .val (.int p2), .val (.int p3), .val (.int z132), .val (.int z133), .val (.ref a135), .val .null, .val .null, .val (.ref a184)] [.null]))
      refine own_byW (fun _ kS => XS.ifnonnullNo X193.here hx rfl (hb hby at_157) rfl kS) ?_
      show own_ComesW p e below s _ _ _ (T193.setTop (mkF m 160 #[.val (.int p0), .val (.int p1), .val (.int p2), .val (.int p3), .val (.int z132), .val (.int z133), .val (.ref a135), .val .null, .val .null, .val (.ref a184)] []))
      refine own_byW (fun _ kS => XS.aload X193.here hx rfl (hb hby at_160) rfl rfl kS) ?_
      show own_ComesW p e below s _ _ _ (T193.setTop (mkF m 162 #[.val (.int p0), .val (.int p1), .val (.int p2), .val (.int p3), .val (.int z132), .val (.int z133), .val (.ref a135), .val .null, .val .null, .val (.ref a184)] [.null]))
      refine own_byW (fun _ kS => XS.aload X193.here hx rfl (hb hby at_162) rfl rfl kS) ?_
      show own_ComesW p e below s _ _ _ (T193.setTop (mkF m 164 #[.val (.int p0), .val (.int p1), .val (.int p2), .val (.int p3), .val (.int z132), .val (.int z133), .val (.ref a135), .val .null, .val .null, .val (.ref a184)] [(.ref a184), .null]))
      obtain ⟨cq194, kq194, q194a, q194b, q194c⟩ := isOf hZ184 e193 B184.1
      obtain ⟨_, _, ⟨T194, L194, k194, n194⟩, -, X194, ⟨Lc194, hQ194, l194, y194, z194⟩, st194⟩ := X193.virtualBack hx (y := (⟨"com/example/valve_per_tenant/valvepertenant/store/BucketKey", "getEndpoint", "()Ljava/lang/String;"⟩ : MethodName)) (z := (⟨"com/example/valve_per_tenant/valvepertenant/store/BucketKey", "getEndpoint", "()Ljava/lang/String;"⟩ : MethodName)) hown184 (mvT hZ184 (hw _ (List.mem_of_getElem? (i := 98) rfl))) (mvT hZ184 (hw _ (List.mem_of_getElem? (i := 99) rfl))) (notFace_of_selects (args := #[]) (mvT hZ184 (hw _ (List.mem_of_getElem? (i := 101) rfl)))) (mvT hZ184 (hw _ (List.mem_of_getElem? (i := 101) rfl))) (mvT hZ184 (hw _ (List.mem_of_getElem? (i := 100) rfl))) (by decide) (backOf (W := 1) (rm18 l Z a0 hw [] a184 .null T184.heap n0 (Nat.le_trans (Nat.le_trans Z0 E135.1) E184.1) B184.2.2.2.2.2 rfl) hZ184 (hw _ (List.mem_of_getElem? (i := 102) rfl)) (hw _ (List.mem_of_getElem? (i := 36) rfl)) (by decide) (by decide)) q194a q194c (g := (mkF m 164 #[.val (.int p0), .val (.int p1), .val (.int p2), .val (.int p3), .val (.int z132), .val (.int z133), .val (.ref a135), .val .null, .val .null, .val (.ref a184)] [(.ref a184), .null])) rfl (by rw [hml]; rfl) (Steps.refl _) (argsL := []) (rest := [.null]) (lenOf pd___Ljava_lang_String__780 rfl) rfl (by show 2 * 0 + _ ≤ _; exact Nat.le_of_eq rfl) (hb hby at_164) (fun _ _ => ⟨rfl, e193, (by decide : 6 + 0 ≤ _), (by decide : 41 + 0 ≤ _)⟩)
      dsimp only [Pt.U, Pt.locs, Pt.cells, Pt.slots] at X194 l194 y194 z194 st194 hQ194
      subst l194 y194 z194
      obtain ⟨rfl, N194q, e194q⟩ := hQ194
      have N194 := Fr.app N193 N194q
      refine own_trW st194 ?_
      have e194 : T194.heap = T184.heap := e194q
      show own_ComesW p e below s _ _ _ (T194.setTop (mkF m 167 #[.val (.int p0), .val (.int p1), .val (.int p2), .val (.int p3), .val (.int z132), .val (.int z133), .val (.ref a135), .val .null, .val .null, .val (.ref a184)] [.null, .null]))
      obtain ⟨_, _, ⟨T195, L195, k195, n195⟩, -, X195, ⟨Lc195, hQ195, l195, y195, z195⟩, st195⟩ := Jvm.LawKit.callS X194 hx (y := (⟨"com/example/valve_per_tenant/valvepertenant/store/BucketKeyOverridePinLaw", "same", "(Ljava/lang/String;Ljava/lang/String;)Z"⟩ : MethodName)) hown184 (mvT hZ184 (hw _ (List.mem_of_getElem? (i := 80) rfl))) (mvT hZ184 (hw _ (List.mem_of_getElem? (i := 81) rfl))) (mvT hZ184 (hw _ (List.mem_of_getElem? (i := 2) rfl))) (mvT hZ184 (hw _ (List.mem_of_getElem? (i := 82) rfl))) (by decide) (backOf (W := 0) (rm14n l Z a0 hw []  T184.heap n0 (Nat.le_trans (Nat.le_trans Z0 E135.1) E184.1)) hZ184 (hw _ (List.mem_of_getElem? (i := 82) rfl)) (hw _ (List.mem_of_getElem? (i := 2) rfl)) (by decide) (by decide)) (g := (mkF m 167 #[.val (.int p0), .val (.int p1), .val (.int p2), .val (.int p3), .val (.int z132), .val (.int z133), .val (.ref a135), .val .null, .val .null, .val (.ref a184)] [.null, .null])) rfl (by rw [hml]; rfl) (argsL := [.null, .null]) (rest := []) (lenOf pd__Ljava_lang_String_Ljava_lang_String__Z_572 rfl) rfl (by show 2 * 0 + _ ≤ _; exact Nat.le_of_eq rfl) (hb hby at_167) (fun _ _ => ⟨rfl, e194, (by decide : 6 + 0 ≤ _), (by decide : 41 + 0 ≤ _)⟩)
      dsimp only [Pt.U, Pt.locs, Pt.cells, Pt.slots] at X195 l195 y195 z195 st195 hQ195
      subst l195 y195 z195
      obtain ⟨rfl, N195q, e195q⟩ := hQ195
      have N195 := Fr.app N194 N195q
      refine own_byW st195 ?_
      have e195 : T195.heap = T184.heap := e195q
      show own_ComesW p e below s _ _ _ (T195.setTop (mkF m 170 #[.val (.int p0), .val (.int p1), .val (.int p2), .val (.int p3), .val (.int z132), .val (.int z133), .val (.ref a135), .val .null, .val .null, .val (.ref a184)] [(.int (1 : Int32))]))
      have hb196 : ¬ ((1 : Int32) = (0 : Int32)) := by decide
      refine own_byW (fun _ kS => XS.ifNo X195.here hx rfl (hb hby at_170) rfl ((if0 _ _).trans (feq hb196).1) kS) ?_
      show own_ComesW p e below s _ _ _ (T195.setTop (mkF m 173 #[.val (.int p0), .val (.int p1), .val (.int p2), .val (.int p3), .val (.int z132), .val (.int z133), .val (.ref a135), .val .null, .val .null, .val (.ref a184)] []))
      refine own_byW (fun _ kS => XS.iconst X195.here hx rfl (hb hby at_173) kS) ?_
      show own_ComesW p e below s _ _ _ (T195.setTop (mkF m 174 #[.val (.int p0), .val (.int p1), .val (.int p2), .val (.int p3), .val (.int z132), .val (.int z133), .val (.ref a135), .val .null, .val .null, .val (.ref a184)] [(.int (1 : Int32))]))
      refine own_byW (fun _ kS => XS.goto X195.here hx rfl (pc0 := 174) (pc' := 178) rfl (hb hby at_174) (by decide) (by decide) kS) ?_
      show own_ComesW p e below s _ _ _ (T195.setTop (mkF m 178 #[.val (.int p0), .val (.int p1), .val (.int p2), .val (.int p3), .val (.int z132), .val (.int z133), .val (.ref a135), .val .null, .val .null, .val (.ref a184)] [(.int (1 : Int32))]))
      have hkr197 := (Nat.le_refl (Array.size T184.heap))
      refine own_retW X195 hS184 (by rw [e195]; exact hkr197) (v := some (.int (1 : Int32))) (fun h => by rw [Bd.returns] at h; cases h) Bd.notSynchronized (by decide) (by decide) ?_ (fun fs hr => retN X195 hx (t := .boolean) Bd.returns (by simp) (hb hby at_178) hr)
      rw [e195]; exact ⟨rfl, N195⟩
set_option maxRecDepth 65536 in
set_option maxHeartbeats 40000000 in
theorem comes_1 {Post : Tables → Env → Array Value → State → Outcome → State → Prop} (hpost : ∀ tb e args s v u, (limb_1_1.after args s (.returned v) u = true ∧ limb_1_2.after args s (.returned v) u = true ∧ True) → ReturnedEndW s (.returned v) u (Jvm.fieldLocs frame_1_writes args s ++ Jvm.arrayLocs frame_1_arrays args s ++ Jvm.staticLocs frame_1_statics s) 40 3264 → Post tb e args s (.returned v) u) :
    ArmFor flags0 classFile x code maxLocals ret World_1 tables_1 room_1 Calls_1 rest_1 Pre_1 Post := by
  intro l hfl _ _ p e ha hc hk s m args below hf hA hF happ hP
  obtain ⟨hcalls, hrest, hpre⟩ := hP
  obtain ⟨-, -, -, hnamed, -, -, -, hat⟩ := (Spec.applies_iff hf).mp happ
  obtain ⟨hg, hn⟩ := and_e (Cond.before_iff.mp (show (Jvm.Cond.and given_1 narrow_1).before args s = true from hpre))
  obtain ⟨hcount, hk0⟩ := and_e hg
  obtain ⟨ha0, hk1⟩ := and_e hk0
  obtain ⟨ha1, hk2⟩ := and_e hk1
  obtain ⟨ha2, hk3⟩ := and_e hk2
  have ha3 := hk3
  obtain ⟨w0, w1, w2, w3, rfl⟩ : ∃ w0 w1 w2 w3 : Value, args = #[w0, w1, w2, w3] := by
    have hs : args.size = 4 := by simpa [Cond.value, given_1] using hcount
    obtain ⟨L⟩ := args
    match L, hs with
    | [w0, w1, w2, w3], _ => exact ⟨w0, w1, w2, w3, rfl⟩
  have hw := fun d (hd : d ∈ tables_1) => atoms_spec (ws := Jvm.Cond.code x code maxLocals ret :: tables_1) hat d (List.mem_cons_of_mem _ hd)
  have hfit : Fit s := fun {y c} hc i hi => by
    obtain ⟨ha, rfl⟩ := Array.getElem?_eq_some_iff.mp hc
    have q := List.all_eq_true.mp ((Array.all_eq_true_iff_forall_mem.mp hF) _ (Array.getElem_mem ha)) i (List.mem_range.mpr hi)
    simpa [Array.getElem?_eq_getElem hi] using q
  obtain ⟨hsets, hown0⟩ := atoms_of _ (rest_1_c_eq ▸ (show rest_1_c.before _ s = true from hrest))
  obtain ⟨i0, ei0⟩ := is_v ha0
  obtain rfl : w0 = (.int i0) := Option.some.inj ei0
  obtain ⟨i1, ei1⟩ := is_v ha1
  obtain rfl : w1 = (.int i1) := Option.some.inj ei1
  obtain ⟨i2, ei2⟩ := is_v ha2
  obtain rfl : w2 = (.int i2) := Option.some.inj ei2
  obtain ⟨i3, ei3⟩ := is_v ha3
  obtain rfl : w3 = (.int i3) := Option.some.inj ei3
  obtain ⟨sc, esc⟩ := exa_v hn
  have Sc := Sta.start esc (Or.inr ⟨(hw _ (List.mem_of_getElem? (i := 41) rfl)), (hw _ (List.mem_of_getElem? (i := 42) rfl))⟩)
  obtain ⟨zc, ezc⟩ := is_v (Cond.before_iff.mp (hsets _ (List.mem_of_getElem? (i := 1) rfl)))
  have Sz := Sta.start ezc (Or.inl (hsets _ (List.mem_of_getElem? (i := 0) rfl)))
  have hzc : ¬ zc = 0 := gotF (Cond.eq_ints ezc (Term.int_eval (0))) (not_v (Cond.before_iff.mp (hsets _ (List.mem_of_getElem? (i := 2) rfl))))
  obtain ⟨n, o, h1, h2, h3, _, L, rfl, ⟨rfl, N⟩, hq⟩ := rm0 l s _ hw tables_1 i0 i1 i2 i3 sc zc s.heap s.heap.size (Nat.le_refl _) (Old.start s) Sc Sz hzc p e ha hc hk s m _ below hf ((Spec.applies_iff_loose hf).mp happ).1 ⟨rfl, State.Warmed39.refl s, rfl⟩ trivial
  refine ⟨n, _, h1, h2, h3, hpost _ _ _ _ _ _ ⟨Cond.after_iff.mpr rfl, Cond.after_iff.mpr (eq_i res_at (Term.int_eval (1)) rfl), trivial⟩ ⟨hq.1, hq.2.1, hq.2.2.1, (hq.2.2.2.sift fun y hy => Or.inr (N y hy)).mono (by decide) (by decide)⟩⟩
theorem main_1_1 : Claimed_1_1 := comes_1 fun _ _ _ _ _ _ h hF => ⟨h.1, hF⟩
theorem main_1_2 : Claimed_1_2 := comes_1 fun _ _ _ _ _ _ h hF => ⟨h.2.1, hF⟩
end Jvm.Pilot.@@N@@
namespace Jvm.Pilot.@@N@@
open Jvm Jvm.ClassFile Sem Op Lib Jvm.Free Jvm.Stand Jvm.Pilot.@@N@@.Jvm.D
/-! MADE BY PROGRAM (witnessworld.py) out of the Statement's table words and the real class files: 22 classes; the members and pool entries that the words name. The judged class is class 1, her method 3. -/
namespace start1
open Jvm.ClassFile
def u (s : String) : CpInfo := .utf8 (stringToUtf16 s)
/-- a pool by its gaps: so many unusable entries, then the entry; so many at the end -/
def gap : Nat → List CpInfo → List CpInfo
  | 0, r => r
  | n + 1, r => .unusable :: gap n r
def poolList (es : List (Nat × CpInfo)) (last : Nat) : List CpInfo := es.foldr (fun e r => gap e.1 (e.2 :: r)) (gap last [])
def pool (es : List (Nat × CpInfo)) (last : Nat) : Array CpInfo := ⟨poolList es last⟩
def fileOf (pool : Array CpInfo) (this : Nat) (attrs : Array Attribute := #[]) (ms : Array MethodInfo := #[]) (fl : Nat := 33) (sup : Nat := 0) (ifs : Array Nat := #[]) (fds : Array FieldInfo := #[]) : ClassFile where
  minorVersion := 0
  majorVersion := 65
  constantPool := pool
  accessFlags := fl
  thisClass := this
  superClass := sup
  interfaces := ifs
  fields := fds
  methods := ms
  attributes := attrs
def plain (name : String) (sup : Option ClassId) : Class where
  name := name
  kind := .ordinary
  loader := none
  accessFlags := 33
  super := sup
  interfaces := #[]
  cf := none
  fields := #[]
  methods := #[]
  instanceTypes := #[]
  staticTypes := #[]
  resolved := #[]
  callSites := []
  init := .initialized
  statics := none
  mirror := none

def pool0 : Array CpInfo := pool [(5, u "<init>"), (0, u "()V"), (1, .class_ 10), (1, u "java/lang/Object")] 113

def k0c0 : Code := { maxStack := 0, maxLocals := 1, code := object_method_1_code, exceptionTable := #[], attributes := #[] }
def k0m0 : Method := { name := "<init>", desc := "()V", sig := { parameters := [], returnType := none }, accessFlags := 1, code := some k0c0 }
/-- java/lang/Object -/
def k0 : Class := { plain "java/lang/Object" none with
  accessFlags := 33
  interfaces := #[]
  cf := some (fileOf pool0 8 #[] #[{ accessFlags := 1, nameIndex := 5, descriptorIndex := 6, attributes := #[] }] 33 0 #[] #[])
  fields := #[]
  methods := #[k0m0]
  instanceTypes := #[]
  staticTypes := #[]
  resolved := Array.replicate 124 none
  statics := none }

def pool1 : Array CpInfo := pool [(2, .class_ 4), (1, u "java/lang/Object"), (0, u "<init>"), (0, u "()V"), (0, .class_ 8), (0, u "java/lang/String"), (0, .methodref 7 10), (0, .nameAndType 5 11), (0, u "([C)V"), (0, .methodref 7 13), (0, .nameAndType 14 15), (0, u "equals"), (0, u "(Ljava/lang/Object;)Z"), (0, .methodref 17 18), (0, .class_ 19), (0, .nameAndType 20 21), (0, u "com/example/valve_per_tenant/valvepertenant/store/BucketKeyOverridePinLaw"), (0, u "drawn"), (0, u "(IZ)Ljava/lang/String;"), (0, .methodref 23 24), (0, .class_ 25), (0, .nameAndType 26 27), (0, u "com/example/valve_per_tenant/valvepertenant/store/BucketKey"), (0, u "override"), (0, u "(Ljava/lang/String;Ljava/lang/String;Ljava/lang/String;)Lcom/example/valve_per_tenant/valvepertenant/store/BucketKey;"), (0, .methodref 23 29), (0, .nameAndType 30 31), (0, u "getScope"), (0, u "()Lcom/example/valve_per_tenant/valvepertenant/model/Scope;"), (0, .fieldref 33 34), (0, .class_ 35), (0, .nameAndType 36 37), (0, u "com/example/valve_per_tenant/valvepertenant/model/Scope"), (0, u "OVERRIDE"), (0, u "Lcom/example/valve_per_tenant/valvepertenant/model/Scope;"), (0, .methodref 23 39), (0, .nameAndType 40 41), (0, u "getTenant"), (0, u "()Ljava/lang/String;"), (0, .methodref 17 43), (0, .nameAndType 44 45), (0, u "same"), (0, u "(Ljava/lang/String;Ljava/lang/String;)Z"), (0, .methodref 23 47), (0, .nameAndType 48 41), (0, u "getUser"), (0, .methodref 23 50), (0, .nameAndType 51 41), (0, u "getAddress"), (0, .methodref 23 53), (0, .nameAndType 54 41), (0, u "getEndpoint"), (3, u "law"), (0, u "(IIII)Z")] 2

def k1m0 : Method := { name := "<init>", desc := "()V", sig := { parameters := [], returnType := none }, accessFlags := 1, code := none }
def k1c1 : Code := { maxStack := 4, maxLocals := 3, code := method_2_code, exceptionTable := #[], attributes := #[] }
def k1m1 : Method := { name := "drawn", desc := "(IZ)Ljava/lang/String;", sig := { parameters := [.int, .boolean], returnType := some (.object "java/lang/String") }, accessFlags := 10, code := some k1c1 }
def k1c2 : Code := { maxStack := 2, maxLocals := 2, code := method_3_code, exceptionTable := #[], attributes := #[] }
def k1m2 : Method := { name := "same", desc := "(Ljava/lang/String;Ljava/lang/String;)Z", sig := { parameters := [(.object "java/lang/String"), (.object "java/lang/String")], returnType := some .boolean }, accessFlags := 10, code := some k1c2 }
def k1c3 : Code := { maxStack := 3, maxLocals := 10, code := code, exceptionTable := #[], attributes := #[] }
def k1m3 : Method := { name := "law", desc := "(IIII)Z", sig := { parameters := [.int, .int, .int, .int], returnType := some .boolean }, accessFlags := 9, code := some k1c3 }
/-- com/example/valve_per_tenant/valvepertenant/store/BucketKeyOverridePinLaw -/
def k1 : Class := { plain "com/example/valve_per_tenant/valvepertenant/store/BucketKeyOverridePinLaw" (some 0) with
  accessFlags := 49
  interfaces := #[]
  cf := some (fileOf pool1 17 #[] #[{ accessFlags := 1, nameIndex := 5, descriptorIndex := 6, attributes := #[] }, { accessFlags := 10, nameIndex := 20, descriptorIndex := 21, attributes := #[] }, { accessFlags := 10, nameIndex := 44, descriptorIndex := 45, attributes := #[] }, { accessFlags := 9, nameIndex := 58, descriptorIndex := 59, attributes := #[] }] 49 2 #[] #[])
  fields := #[]
  methods := #[k1m0, k1m1, k1m2, k1m3]
  instanceTypes := #[]
  staticTypes := #[]
  resolved := Array.replicate 62 none
  statics := none }

def pool2 : Array CpInfo := pool [(1, .class_ 2), (0, u "java/io/Serializable"), (0, .class_ 4), (0, u "java/lang/Object")] 2

/-- java/io/Serializable -/
def k2 : Class := { plain "java/io/Serializable" (some 0) with
  accessFlags := 1537
  interfaces := #[]
  cf := some (fileOf pool2 1 #[] #[] 1537 3 #[] #[])
  fields := #[]
  methods := #[]
  instanceTypes := #[]
  staticTypes := #[]
  resolved := Array.replicate 7 none
  statics := none }

def pool3 : Array CpInfo := pool [(1, .class_ 2), (0, u "java/lang/Comparable"), (0, .class_ 4), (0, u "java/lang/Object")] 7

/-- java/lang/Comparable -/
def k3 : Class := { plain "java/lang/Comparable" (some 0) with
  accessFlags := 1537
  interfaces := #[]
  cf := some (fileOf pool3 1 #[] #[] 1537 3 #[] #[])
  fields := #[]
  methods := #[]
  instanceTypes := #[]
  staticTypes := #[]
  resolved := Array.replicate 12 none
  statics := none }

def pool4 : Array CpInfo := pool [(2, .class_ 4), (1, u "java/lang/CharSequence"), (42, .class_ 48), (0, u "java/lang/CharSequence$1CodePointIterator"), (10, .class_ 60), (0, u "java/lang/CharSequence$1CharIterator"), (5, .class_ 67), (0, u "java/lang/Object")] 63

/-- java/lang/CharSequence -/
def k4 : Class := { plain "java/lang/CharSequence" (some 0) with
  accessFlags := 1537
  interfaces := #[]
  cf := some (fileOf pool4 2 #[.nestMembers #[47, 59]] #[] 1537 66 #[] #[])
  fields := #[]
  methods := #[]
  instanceTypes := #[]
  staticTypes := #[]
  resolved := Array.replicate 131 none
  statics := none }

def pool5 : Array CpInfo := pool [(1, .class_ 2), (0, u "java/lang/constant/Constable"), (0, .class_ 4), (0, u "java/lang/Object")] 6

/-- java/lang/constant/Constable -/
def k5 : Class := { plain "java/lang/constant/Constable" (some 0) with
  accessFlags := 1537
  interfaces := #[]
  cf := some (fileOf pool5 1 #[] #[] 1537 3 #[] #[])
  fields := #[]
  methods := #[]
  instanceTypes := #[]
  staticTypes := #[]
  resolved := Array.replicate 11 none
  statics := none }

def pool6 : Array CpInfo := pool [(1, .class_ 2), (0, u "java/lang/constant/ConstantDesc"), (0, .class_ 4), (0, u "java/lang/Object")] 32

/-- java/lang/constant/ConstantDesc -/
def k6 : Class := { plain "java/lang/constant/ConstantDesc" (some 0) with
  accessFlags := 1537
  interfaces := #[]
  cf := some (fileOf pool6 1 #[] #[] 1537 3 #[] #[])
  fields := #[]
  methods := #[]
  instanceTypes := #[]
  staticTypes := #[]
  resolved := Array.replicate 37 none
  statics := none }

def pool7 : Array CpInfo := pool [(1, .methodref 2 3), (0, .class_ 4), (0, .nameAndType 5 6), (0, u "java/lang/Object"), (0, u "<init>"), (0, u "()V"), (2, .fieldref 10 11), (0, .class_ 12), (0, .nameAndType 13 14), (0, u "java/lang/String"), (0, u "value"), (0, u "[B"), (0, .fieldref 10 16), (0, .nameAndType 17 18), (0, u "coder"), (0, u "B"), (2, u "hash"), (0, u "I"), (2, u "hashIsZero"), (0, u "Z"), (0, .methodref 10 28), (0, .nameAndType 5 29), (0, u "([CIILjava/lang/Void;)V"), (8, .fieldref 10 39), (0, .nameAndType 40 26), (0, u "COMPACT_STRINGS"), (1, .class_ 44), (1, u "java/lang/StringUTF16"), (0, u "compress"), (1, .methodref 42 48), (0, .nameAndType 49 50), (0, u "coderFromArrayLen"), (0, u "([BI)B"), (91, u "()Z"), (34, .methodref 42 178), (0, .nameAndType 45 179), (0, u "([CII)[B"), (363, u "equals"), (29, u "(Ljava/lang/Object;)Z"), (1, .class_ 576), (0, u "java/lang/CharSequence"), (22, u "CASE_INSENSITIVE_ORDER"), (0, u "Ljava/util/Comparator;"), (91, u "isEmpty"), (317, u "([C)V"), (90, u "serialPersistentFields"), (0, u "[Ljava/io/ObjectStreamField;"), (0, .class_ 1104), (0, u "java/lang/String$CaseInsensitiveComparator"), (1, .class_ 1107), (0, u "java/io/Serializable"), (0, .class_ 1109), (0, u "java/lang/Comparable"), (0, .class_ 1111), (0, u "java/lang/constant/Constable"), (0, .class_ 1113), (0, u "java/lang/constant/ConstantDesc"), (2, u "serialVersionUID"), (0, u "J"), (3, u "REPL"), (0, u "C"), (2, u "LATIN1"), (1, u "UTF16")] 323

def k7m0 : Method := { name := "<init>", desc := "()V", sig := { parameters := [], returnType := none }, accessFlags := 1, code := none }
def k7c1 : Code := { maxStack := 5, maxLocals := 2, code := jdk_42_method_3_code, exceptionTable := #[], attributes := #[] }
def k7m1 : Method := { name := "<init>", desc := "([C)V", sig := { parameters := [(.array .char)], returnType := none }, accessFlags := 1, code := some k7c1 }
def k7c2 : Code := { maxStack := 1, maxLocals := 1, code := jdk_42_method_55_code, exceptionTable := #[], attributes := #[] }
def k7m2 : Method := { name := "isEmpty", desc := "()Z", sig := { parameters := [], returnType := some .boolean }, accessFlags := 1, code := some k7c2 }
def k7c3 : Code := { maxStack := 2, maxLocals := 3, code := jdk_42_method_66_code, exceptionTable := #[], attributes := #[] }
def k7m3 : Method := { name := "equals", desc := "(Ljava/lang/Object;)Z", sig := { parameters := [(.object "java/lang/Object")], returnType := some .boolean }, accessFlags := 1, code := some k7c3 }
def k7c4 : Code := { maxStack := 4, maxLocals := 6, code := jdk_42_method_149_code, exceptionTable := #[], attributes := #[] }
def k7m4 : Method := { name := "<init>", desc := "([CIILjava/lang/Void;)V", sig := { parameters := [(.array .char), .int, .int, (.object "java/lang/Void")], returnType := none }, accessFlags := 2, code := some k7c4 }
/-- java/lang/String -/
def k7 : Class := { plain "java/lang/String" (some 0) with
  accessFlags := 49
  interfaces := #[2, 3, 4, 5, 6]
  cf := some (fileOf pool7 10 #[.nestMembers #[1103]] #[{ accessFlags := 1, nameIndex := 5, descriptorIndex := 6, attributes := #[] }, { accessFlags := 1, nameIndex := 5, descriptorIndex := 1010, attributes := #[] }, { accessFlags := 1, nameIndex := 692, descriptorIndex := 142, attributes := #[] }, { accessFlags := 1, nameIndex := 543, descriptorIndex := 573, attributes := #[] }, { accessFlags := 2, nameIndex := 5, descriptorIndex := 29, attributes := #[] }] 49 2 #[1106, 1108, 575, 1110, 1112] #[{ accessFlags := 18, nameIndex := 13, descriptorIndex := 14, attributes := #[] }, { accessFlags := 18, nameIndex := 17, descriptorIndex := 18, attributes := #[] }, { accessFlags := 2, nameIndex := 21, descriptorIndex := 22, attributes := #[] }, { accessFlags := 2, nameIndex := 25, descriptorIndex := 26, attributes := #[] }, { accessFlags := 26, nameIndex := 1116, descriptorIndex := 1117, attributes := #[] }, { accessFlags := 24, nameIndex := 40, descriptorIndex := 26, attributes := #[] }, { accessFlags := 26, nameIndex := 1101, descriptorIndex := 1102, attributes := #[] }, { accessFlags := 26, nameIndex := 1121, descriptorIndex := 1122, attributes := #[] }, { accessFlags := 25, nameIndex := 599, descriptorIndex := 600, attributes := #[] }, { accessFlags := 24, nameIndex := 1125, descriptorIndex := 18, attributes := #[] }, { accessFlags := 24, nameIndex := 1127, descriptorIndex := 18, attributes := #[] }])
  fields := #[{ name := "value", type := (.array .byte), accessFlags := 18, slot := 0, constantValue := 0 }, { name := "coder", type := .byte, accessFlags := 18, slot := 1, constantValue := 0 }, { name := "hash", type := .int, accessFlags := 2, slot := 2, constantValue := 0 }, { name := "hashIsZero", type := .boolean, accessFlags := 2, slot := 3, constantValue := 0 }, { name := "serialVersionUID", type := .long, accessFlags := 26, slot := 0, constantValue := 0 }, { name := "COMPACT_STRINGS", type := .boolean, accessFlags := 24, slot := 1, constantValue := 0 }, { name := "serialPersistentFields", type := (.array (.object "java/io/ObjectStreamField")), accessFlags := 26, slot := 2, constantValue := 0 }, { name := "REPL", type := .char, accessFlags := 26, slot := 3, constantValue := 0 }, { name := "CASE_INSENSITIVE_ORDER", type := (.object "java/util/Comparator"), accessFlags := 25, slot := 4, constantValue := 0 }, { name := "LATIN1", type := .byte, accessFlags := 24, slot := 5, constantValue := 0 }, { name := "UTF16", type := .byte, accessFlags := 24, slot := 6, constantValue := 0 }]
  methods := #[k7m0, k7m1, k7m2, k7m3, k7m4]
  instanceTypes := #[(.array .byte), .byte, .int, .boolean]
  staticTypes := #[.long, .boolean, (.array (.object "java/io/ObjectStreamField")), .char, (.object "java/util/Comparator"), .byte, .byte]
  resolved := Array.replicate 1451 none
  statics := some 0 }

def pool8 : Array CpInfo := pool [(6, .class_ 8), (1, u "java/lang/Object"), (0, u "<init>"), (0, u "()V"), (1, .class_ 14), (1, u "java/lang/StringUTF16"), (31, u "$assertionsDisabled"), (0, u "Z"), (13, u "HI_BYTE_SHIFT"), (0, u "I"), (2, u "LO_BYTE_SHIFT"), (49, .methodref 12 116), (0, .nameAndType 117 118), (0, u "compress"), (0, u "([CI[BII)I"), (3, u "([CII)[B"), (138, u "coderFromArrayLen"), (0, u "([BI)B"), (106, .class_ 371), (1, u "java/lang/StringUTF16$LinesSpliterator"), (58, u "MAX_LENGTH"), (196, .class_ 628), (0, u "java/lang/StringUTF16$CodePointsSpliterator"), (0, .class_ 630), (0, u "java/lang/StringUTF16$CharsSpliterator")] 4

def k8m0 : Method := { name := "<init>", desc := "()V", sig := { parameters := [], returnType := none }, accessFlags := 0, code := none }
def k8c1 : Code := { maxStack := 2, maxLocals := 2, code := jdk_52_method_15_code, exceptionTable := #[], attributes := #[] }
def k8m1 : Method := { name := "coderFromArrayLen", desc := "([BI)B", sig := { parameters := [(.array .byte), .int], returnType := some .byte }, accessFlags := 8, code := some k8c1 }
def k8c2 : Code := { maxStack := 5, maxLocals := 6, code := jdk_52_method_16_code, exceptionTable := #[], attributes := #[] }
def k8m2 : Method := { name := "compress", desc := "([CII)[B", sig := { parameters := [(.array .char), .int, .int], returnType := some (.array .byte) }, accessFlags := 9, code := some k8c2 }
def k8c3 : Code := { maxStack := 3, maxLocals := 7, code := jdk_52_method_21_code, exceptionTable := #[], attributes := #[] }
def k8m3 : Method := { name := "compress", desc := "([CI[BII)I", sig := { parameters := [(.array .char), .int, (.array .byte), .int, .int], returnType := some .int }, accessFlags := 9, code := some k8c3 }
/-- java/lang/StringUTF16 -/
def k8 : Class := { plain "java/lang/StringUTF16" (some 0) with
  accessFlags := 48
  interfaces := #[]
  cf := some (fileOf pool8 12 #[.nestMembers #[627, 629, 369]] #[{ accessFlags := 0, nameIndex := 9, descriptorIndex := 10, attributes := #[] }, { accessFlags := 8, nameIndex := 261, descriptorIndex := 262, attributes := #[] }, { accessFlags := 9, nameIndex := 117, descriptorIndex := 122, attributes := #[] }, { accessFlags := 9, nameIndex := 117, descriptorIndex := 118, attributes := #[] }] 48 6 #[] #[{ accessFlags := 26, nameIndex := 61, descriptorIndex := 62, attributes := #[] }, { accessFlags := 26, nameIndex := 65, descriptorIndex := 62, attributes := #[] }, { accessFlags := 24, nameIndex := 430, descriptorIndex := 62, attributes := #[] }, { accessFlags := 4120, nameIndex := 46, descriptorIndex := 47, attributes := #[] }])
  fields := #[{ name := "HI_BYTE_SHIFT", type := .int, accessFlags := 26, slot := 0, constantValue := 0 }, { name := "LO_BYTE_SHIFT", type := .int, accessFlags := 26, slot := 1, constantValue := 0 }, { name := "MAX_LENGTH", type := .int, accessFlags := 24, slot := 2, constantValue := 0 }, { name := "$assertionsDisabled", type := .boolean, accessFlags := 4120, slot := 3, constantValue := 0 }]
  methods := #[k8m0, k8m1, k8m2, k8m3]
  instanceTypes := #[]
  staticTypes := #[.int, .int, .int, .boolean]
  resolved := Array.replicate 635 none
  statics := none }

def pool9 : Array CpInfo := pool [(1, .methodref 2 3), (0, .class_ 4), (0, .nameAndType 5 6), (0, u "java/lang/Object"), (0, u "<init>"), (0, u "()V"), (0, .fieldref 8 9), (0, .class_ 10), (0, .nameAndType 11 12), (0, u "com/example/valve_per_tenant/valvepertenant/store/BucketKey"), (0, u "scope"), (0, u "Lcom/example/valve_per_tenant/valvepertenant/model/Scope;"), (0, .fieldref 8 14), (0, .nameAndType 15 16), (0, u "tenant"), (0, u "Ljava/lang/String;"), (0, .fieldref 8 18), (0, .nameAndType 19 16), (0, u "user"), (0, .fieldref 8 21), (0, .nameAndType 22 16), (0, u "address"), (0, .fieldref 8 24), (0, .nameAndType 25 16), (0, u "endpoint"), (1, .class_ 29), (1, u "com/example/valve_per_tenant/valvepertenant/model/Scope"), (1, .string 15), (0, .methodref 8 33), (0, .nameAndType 34 35), (0, u "requireName"), (0, u "(Ljava/lang/String;Ljava/lang/String;)Ljava/lang/String;"), (0, .string 19), (0, .methodref 8 38), (0, .nameAndType 5 39), (0, u "(Lcom/example/valve_per_tenant/valvepertenant/model/Scope;Ljava/lang/String;Ljava/lang/String;Ljava/lang/String;Ljava/lang/String;)V"), (10, .string 25), (2, u "GLOBAL"), (0, u "Lcom/example/valve_per_tenant/valvepertenant/store/BucketKey;"), (0, .fieldref 27 56), (0, .nameAndType 57 12), (0, u "OVERRIDE"), (17, u "()Ljava/lang/String;"), (4, .methodref 81 82), (0, .class_ 83), (0, .nameAndType 84 85), (0, u "java/lang/String"), (0, u "isEmpty"), (0, u "()Z"), (16, u "override"), (0, u "(Ljava/lang/String;Ljava/lang/String;Ljava/lang/String;)Lcom/example/valve_per_tenant/valvepertenant/store/BucketKey;"), (1, u "getScope"), (0, u "()Lcom/example/valve_per_tenant/valvepertenant/model/Scope;"), (0, u "getTenant"), (0, u "getUser"), (0, u "getAddress"), (0, u "getEndpoint")] 22

def k9c0 : Code := { maxStack := 2, maxLocals := 6, code := prog_25_method_1_code, exceptionTable := #[], attributes := #[] }
def k9m0 : Method := { name := "<init>", desc := "(Lcom/example/valve_per_tenant/valvepertenant/model/Scope;Ljava/lang/String;Ljava/lang/String;Ljava/lang/String;Ljava/lang/String;)V", sig := { parameters := [(.object "com/example/valve_per_tenant/valvepertenant/model/Scope"), (.object "java/lang/String"), (.object "java/lang/String"), (.object "java/lang/String"), (.object "java/lang/String")], returnType := none }, accessFlags := 2, code := some k9c0 }
def k9c1 : Code := { maxStack := 8, maxLocals := 3, code := prog_25_method_7_code, exceptionTable := #[], attributes := #[] }
def k9m1 : Method := { name := "override", desc := "(Ljava/lang/String;Ljava/lang/String;Ljava/lang/String;)Lcom/example/valve_per_tenant/valvepertenant/store/BucketKey;", sig := { parameters := [(.object "java/lang/String"), (.object "java/lang/String"), (.object "java/lang/String")], returnType := some (.object "com/example/valve_per_tenant/valvepertenant/store/BucketKey") }, accessFlags := 9, code := some k9c1 }
def k9c2 : Code := { maxStack := 1, maxLocals := 1, code := prog_25_method_8_code, exceptionTable := #[], attributes := #[] }
def k9m2 : Method := { name := "getScope", desc := "()Lcom/example/valve_per_tenant/valvepertenant/model/Scope;", sig := { parameters := [], returnType := some (.object "com/example/valve_per_tenant/valvepertenant/model/Scope") }, accessFlags := 1, code := some k9c2 }
def k9c3 : Code := { maxStack := 1, maxLocals := 1, code := prog_25_method_9_code, exceptionTable := #[], attributes := #[] }
def k9m3 : Method := { name := "getTenant", desc := "()Ljava/lang/String;", sig := { parameters := [], returnType := some (.object "java/lang/String") }, accessFlags := 1, code := some k9c3 }
def k9c4 : Code := { maxStack := 1, maxLocals := 1, code := prog_25_method_10_code, exceptionTable := #[], attributes := #[] }
def k9m4 : Method := { name := "getUser", desc := "()Ljava/lang/String;", sig := { parameters := [], returnType := some (.object "java/lang/String") }, accessFlags := 1, code := some k9c4 }
def k9c5 : Code := { maxStack := 1, maxLocals := 1, code := prog_25_method_11_code, exceptionTable := #[], attributes := #[] }
def k9m5 : Method := { name := "getAddress", desc := "()Ljava/lang/String;", sig := { parameters := [], returnType := some (.object "java/lang/String") }, accessFlags := 1, code := some k9c5 }
def k9c6 : Code := { maxStack := 1, maxLocals := 1, code := prog_25_method_12_code, exceptionTable := #[], attributes := #[] }
def k9m6 : Method := { name := "getEndpoint", desc := "()Ljava/lang/String;", sig := { parameters := [], returnType := some (.object "java/lang/String") }, accessFlags := 1, code := some k9c6 }
def k9c7 : Code := { maxStack := 3, maxLocals := 2, code := prog_25_method_16_code, exceptionTable := #[], attributes := #[] }
def k9m7 : Method := { name := "requireName", desc := "(Ljava/lang/String;Ljava/lang/String;)Ljava/lang/String;", sig := { parameters := [(.object "java/lang/String"), (.object "java/lang/String")], returnType := some (.object "java/lang/String") }, accessFlags := 10, code := some k9c7 }
/-- com/example/valve_per_tenant/valvepertenant/store/BucketKey -/
def k9 : Class := { plain "com/example/valve_per_tenant/valvepertenant/store/BucketKey" (some 0) with
  accessFlags := 49
  interfaces := #[]
  cf := some (fileOf pool9 8 #[] #[{ accessFlags := 2, nameIndex := 5, descriptorIndex := 39, attributes := #[] }, { accessFlags := 9, nameIndex := 102, descriptorIndex := 103, attributes := #[] }, { accessFlags := 1, nameIndex := 105, descriptorIndex := 106, attributes := #[] }, { accessFlags := 1, nameIndex := 107, descriptorIndex := 75, attributes := #[] }, { accessFlags := 1, nameIndex := 108, descriptorIndex := 75, attributes := #[] }, { accessFlags := 1, nameIndex := 109, descriptorIndex := 75, attributes := #[] }, { accessFlags := 1, nameIndex := 110, descriptorIndex := 75, attributes := #[] }, { accessFlags := 10, nameIndex := 34, descriptorIndex := 35, attributes := #[] }] 49 2 #[] #[{ accessFlags := 26, nameIndex := 53, descriptorIndex := 54, attributes := #[] }, { accessFlags := 18, nameIndex := 11, descriptorIndex := 12, attributes := #[] }, { accessFlags := 18, nameIndex := 15, descriptorIndex := 16, attributes := #[] }, { accessFlags := 18, nameIndex := 19, descriptorIndex := 16, attributes := #[] }, { accessFlags := 18, nameIndex := 22, descriptorIndex := 16, attributes := #[] }, { accessFlags := 18, nameIndex := 25, descriptorIndex := 16, attributes := #[] }])
  fields := #[{ name := "GLOBAL", type := (.object "com/example/valve_per_tenant/valvepertenant/store/BucketKey"), accessFlags := 26, slot := 0, constantValue := 0 }, { name := "scope", type := (.object "com/example/valve_per_tenant/valvepertenant/model/Scope"), accessFlags := 18, slot := 0, constantValue := 0 }, { name := "tenant", type := (.object "java/lang/String"), accessFlags := 18, slot := 1, constantValue := 0 }, { name := "user", type := (.object "java/lang/String"), accessFlags := 18, slot := 2, constantValue := 0 }, { name := "address", type := (.object "java/lang/String"), accessFlags := 18, slot := 3, constantValue := 0 }, { name := "endpoint", type := (.object "java/lang/String"), accessFlags := 18, slot := 4, constantValue := 0 }]
  methods := #[k9m0, k9m1, k9m2, k9m3, k9m4, k9m5, k9m6, k9m7]
  instanceTypes := #[(.object "com/example/valve_per_tenant/valvepertenant/model/Scope"), (.object "java/lang/String"), (.object "java/lang/String"), (.object "java/lang/String"), (.object "java/lang/String")]
  staticTypes := #[(.object "com/example/valve_per_tenant/valvepertenant/store/BucketKey")]
  resolved := Array.replicate 133 none
  statics := none }

def pool10 : Array CpInfo := pool [(2, .class_ 4), (1, u "java/lang/Enum"), (0, u "name"), (0, u "Ljava/lang/String;"), (2, u "ordinal"), (0, u "I"), (1, .class_ 14), (1, u "java/lang/Object"), (4, u "hash"), (86, .class_ 108), (1, u "java/lang/Enum$EnumDesc"), (2, .class_ 112), (0, u "java/lang/constant/Constable"), (0, .class_ 114), (0, u "java/lang/Comparable"), (0, .class_ 116), (0, u "java/io/Serializable")] 87

/-- java/lang/Enum -/
def k10 : Class := { plain "java/lang/Enum" (some 0) with
  accessFlags := 1057
  interfaces := #[5, 3, 2]
  cf := some (fileOf pool10 2 #[.nestMembers #[106]] #[] 1057 12 #[111, 113, 115] #[{ accessFlags := 18, nameIndex := 5, descriptorIndex := 6, attributes := #[] }, { accessFlags := 18, nameIndex := 9, descriptorIndex := 10, attributes := #[] }, { accessFlags := 2, nameIndex := 19, descriptorIndex := 10, attributes := #[] }])
  fields := #[{ name := "name", type := (.object "java/lang/String"), accessFlags := 18, slot := 0, constantValue := 0 }, { name := "ordinal", type := .int, accessFlags := 18, slot := 1, constantValue := 0 }, { name := "hash", type := .int, accessFlags := 2, slot := 2, constantValue := 0 }]
  methods := #[]
  instanceTypes := #[(.object "java/lang/String"), .int, .int]
  staticTypes := #[]
  resolved := Array.replicate 204 none
  statics := none }

def pool11 : Array CpInfo := pool [(1, .class_ 2), (0, u "com/example/valve_per_tenant/valvepertenant/model/Scope"), (2, u "USER"), (0, u "Lcom/example/valve_per_tenant/valvepertenant/model/Scope;"), (2, u "TENANT"), (2, u "ADDRESS"), (2, u "ENDPOINT"), (2, u "GLOBAL"), (2, u "OVERRIDE"), (2, u "$VALUES"), (0, u "[Lcom/example/valve_per_tenant/valvepertenant/model/Scope;"), (6, .class_ 34), (1, u "java/lang/Enum"), (8, u "name"), (0, u "Ljava/lang/String;"), (2, u "allowsOverrides"), (0, u "Z"), (2, u "policyScope")] 41

/-- com/example/valve_per_tenant/valvepertenant/model/Scope -/
def k11 : Class := { plain "com/example/valve_per_tenant/valvepertenant/model/Scope" (some 10) with
  accessFlags := 16433
  interfaces := #[]
  cf := some (fileOf pool11 1 #[] #[] 16433 32 #[] #[{ accessFlags := 16409, nameIndex := 5, descriptorIndex := 6, attributes := #[] }, { accessFlags := 16409, nameIndex := 9, descriptorIndex := 6, attributes := #[] }, { accessFlags := 16409, nameIndex := 12, descriptorIndex := 6, attributes := #[] }, { accessFlags := 16409, nameIndex := 15, descriptorIndex := 6, attributes := #[] }, { accessFlags := 16409, nameIndex := 18, descriptorIndex := 6, attributes := #[] }, { accessFlags := 16409, nameIndex := 21, descriptorIndex := 6, attributes := #[] }, { accessFlags := 18, nameIndex := 43, descriptorIndex := 44, attributes := #[] }, { accessFlags := 18, nameIndex := 47, descriptorIndex := 48, attributes := #[] }, { accessFlags := 18, nameIndex := 51, descriptorIndex := 48, attributes := #[] }, { accessFlags := 4122, nameIndex := 24, descriptorIndex := 25, attributes := #[] }])
  fields := #[{ name := "USER", type := (.object "com/example/valve_per_tenant/valvepertenant/model/Scope"), accessFlags := 16409, slot := 0, constantValue := 0 }, { name := "TENANT", type := (.object "com/example/valve_per_tenant/valvepertenant/model/Scope"), accessFlags := 16409, slot := 1, constantValue := 0 }, { name := "ADDRESS", type := (.object "com/example/valve_per_tenant/valvepertenant/model/Scope"), accessFlags := 16409, slot := 2, constantValue := 0 }, { name := "ENDPOINT", type := (.object "com/example/valve_per_tenant/valvepertenant/model/Scope"), accessFlags := 16409, slot := 3, constantValue := 0 }, { name := "GLOBAL", type := (.object "com/example/valve_per_tenant/valvepertenant/model/Scope"), accessFlags := 16409, slot := 4, constantValue := 0 }, { name := "OVERRIDE", type := (.object "com/example/valve_per_tenant/valvepertenant/model/Scope"), accessFlags := 16409, slot := 5, constantValue := 0 }, { name := "name", type := (.object "java/lang/String"), accessFlags := 18, slot := 3, constantValue := 0 }, { name := "allowsOverrides", type := .boolean, accessFlags := 18, slot := 4, constantValue := 0 }, { name := "policyScope", type := .boolean, accessFlags := 18, slot := 5, constantValue := 0 }, { name := "$VALUES", type := (.array (.object "com/example/valve_per_tenant/valvepertenant/model/Scope")), accessFlags := 4122, slot := 6, constantValue := 0 }]
  methods := #[]
  instanceTypes := #[(.object "java/lang/String"), .int, .int, (.object "java/lang/String"), .boolean, .boolean]
  staticTypes := #[(.object "com/example/valve_per_tenant/valvepertenant/model/Scope"), (.object "com/example/valve_per_tenant/valvepertenant/model/Scope"), (.object "com/example/valve_per_tenant/valvepertenant/model/Scope"), (.object "com/example/valve_per_tenant/valvepertenant/model/Scope"), (.object "com/example/valve_per_tenant/valvepertenant/model/Scope"), (.object "com/example/valve_per_tenant/valvepertenant/model/Scope"), (.array (.object "com/example/valve_per_tenant/valvepertenant/model/Scope"))]
  resolved := Array.replicate 93 none
  statics := some 1 }

def pool12 : Array CpInfo := pool [(4, .class_ 6), (1, u "java/lang/Object"), (0, u "<init>"), (0, u "()V"), (5, .class_ 16), (1, u "java/lang/StringLatin1"), (104, u "$assertionsDisabled"), (0, u "Z"), (98, .class_ 223), (1, u "java/lang/StringLatin1$LinesSpliterator"), (166, .class_ 391), (0, u "java/lang/StringLatin1$CharsSpliterator")] 3

def k12m0 : Method := { name := "<init>", desc := "()V", sig := { parameters := [], returnType := none }, accessFlags := 0, code := none }
/-- java/lang/StringLatin1 -/
def k12 : Class := { plain "java/lang/StringLatin1" (some 0) with
  accessFlags := 48
  interfaces := #[]
  cf := some (fileOf pool12 14 #[.nestMembers #[390, 221]] #[{ accessFlags := 0, nameIndex := 7, descriptorIndex := 8, attributes := #[] }] 48 4 #[] #[{ accessFlags := 4120, nameIndex := 121, descriptorIndex := 122, attributes := #[] }])
  fields := #[{ name := "$assertionsDisabled", type := .boolean, accessFlags := 4120, slot := 0, constantValue := 0 }]
  methods := #[k12m0]
  instanceTypes := #[]
  staticTypes := #[.boolean]
  resolved := Array.replicate 395 none
  statics := none }

def pool13 : Array CpInfo := pool [(2, .class_ 4), (1, u "java/lang/Object"), (0, u "<init>"), (0, u "()V"), (17, .class_ 26), (1, u "jdk/internal/util/Preconditions"), (28, .class_ 56), (0, u "jdk/internal/util/Preconditions$4"), (57, .class_ 115), (0, u "jdk/internal/util/Preconditions$1"), (7, u "SIOOBE_FORMATTER"), (0, u "Ljava/util/function/BiFunction;"), (0, .class_ 126), (0, u "jdk/internal/util/Preconditions$2"), (3, u "AIOOBE_FORMATTER"), (0, .class_ 132), (0, u "jdk/internal/util/Preconditions$3"), (3, u "IOOBE_FORMATTER")] 57

def k13m0 : Method := { name := "<init>", desc := "()V", sig := { parameters := [], returnType := none }, accessFlags := 1, code := none }
/-- jdk/internal/util/Preconditions -/
def k13 : Class := { plain "jdk/internal/util/Preconditions" (some 0) with
  accessFlags := 33
  interfaces := #[]
  cf := some (fileOf pool13 24 #[.nestMembers #[55, 131, 125, 114]] #[{ accessFlags := 1, nameIndex := 5, descriptorIndex := 6, attributes := #[] }] 33 2 #[] #[{ accessFlags := 25, nameIndex := 123, descriptorIndex := 124, attributes := #[] }, { accessFlags := 25, nameIndex := 130, descriptorIndex := 124, attributes := #[] }, { accessFlags := 25, nameIndex := 136, descriptorIndex := 124, attributes := #[] }])
  fields := #[{ name := "SIOOBE_FORMATTER", type := (.object "java/util/function/BiFunction"), accessFlags := 25, slot := 0, constantValue := 0 }, { name := "AIOOBE_FORMATTER", type := (.object "java/util/function/BiFunction"), accessFlags := 25, slot := 1, constantValue := 0 }, { name := "IOOBE_FORMATTER", type := (.object "java/util/function/BiFunction"), accessFlags := 25, slot := 2, constantValue := 0 }]
  methods := #[k13m0]
  instanceTypes := #[]
  staticTypes := #[(.object "java/util/function/BiFunction"), (.object "java/util/function/BiFunction"), (.object "java/util/function/BiFunction")]
  resolved := Array.replicate 194 none
  statics := some 2 }

def pool14 : Array CpInfo := pool [(9, u "<init>"), (6, .class_ 18), (1, u "java/lang/Object"), (0, u "()V"), (1, .class_ 23), (1, u "jdk/internal/util/ArraysSupport"), (0, u "LOG2_ARRAY_LONG_INDEX_SCALE"), (0, u "I"), (2, u "U"), (0, u "Ljdk/internal/misc/Unsafe;"), (8, u "BIG_ENDIAN"), (0, u "Z"), (8, u "LOG2_BYTE_BIT_SIZE"), (4, u "LOG2_ARRAY_INT_INDEX_SCALE"), (54, u "JLA"), (0, u "Ljdk/internal/access/JavaLangAccess;"), (11, u "LOG2_ARRAY_BOOLEAN_INDEX_SCALE"), (9, u "LOG2_ARRAY_BYTE_INDEX_SCALE"), (5, u "LOG2_ARRAY_CHAR_INDEX_SCALE"), (5, u "LOG2_ARRAY_SHORT_INDEX_SCALE"), (18, u "LOG2_ARRAY_FLOAT_INDEX_SCALE"), (24, u "LOG2_ARRAY_DOUBLE_INDEX_SCALE"), (89, u "T_BOOLEAN"), (2, u "T_CHAR"), (1, u "T_FLOAT"), (1, u "T_DOUBLE"), (1, u "T_BYTE"), (1, u "T_SHORT"), (1, u "T_INT"), (1, u "T_LONG"), (1, u "SOFT_MAX_ARRAY_LENGTH")] 83

def k14m0 : Method := { name := "<init>", desc := "()V", sig := { parameters := [], returnType := none }, accessFlags := 2, code := none }
/-- jdk/internal/util/ArraysSupport -/
def k14 : Class := { plain "jdk/internal/util/ArraysSupport" (some 0) with
  accessFlags := 33
  interfaces := #[]
  cf := some (fileOf pool14 21 #[] #[{ accessFlags := 2, nameIndex := 9, descriptorIndex := 19, attributes := #[] }] 33 16 #[] #[{ accessFlags := 24, nameIndex := 28, descriptorIndex := 29, attributes := #[] }, { accessFlags := 26, nameIndex := 38, descriptorIndex := 39, attributes := #[] }, { accessFlags := 25, nameIndex := 121, descriptorIndex := 25, attributes := #[] }, { accessFlags := 25, nameIndex := 131, descriptorIndex := 25, attributes := #[] }, { accessFlags := 25, nameIndex := 137, descriptorIndex := 25, attributes := #[] }, { accessFlags := 25, nameIndex := 143, descriptorIndex := 25, attributes := #[] }, { accessFlags := 25, nameIndex := 53, descriptorIndex := 25, attributes := #[] }, { accessFlags := 25, nameIndex := 24, descriptorIndex := 25, attributes := #[] }, { accessFlags := 25, nameIndex := 162, descriptorIndex := 25, attributes := #[] }, { accessFlags := 25, nameIndex := 187, descriptorIndex := 25, attributes := #[] }, { accessFlags := 26, nameIndex := 48, descriptorIndex := 25, attributes := #[] }, { accessFlags := 25, nameIndex := 277, descriptorIndex := 25, attributes := #[] }, { accessFlags := 25, nameIndex := 280, descriptorIndex := 25, attributes := #[] }, { accessFlags := 25, nameIndex := 282, descriptorIndex := 25, attributes := #[] }, { accessFlags := 25, nameIndex := 284, descriptorIndex := 25, attributes := #[] }, { accessFlags := 25, nameIndex := 286, descriptorIndex := 25, attributes := #[] }, { accessFlags := 25, nameIndex := 288, descriptorIndex := 25, attributes := #[] }, { accessFlags := 25, nameIndex := 290, descriptorIndex := 25, attributes := #[] }, { accessFlags := 25, nameIndex := 292, descriptorIndex := 25, attributes := #[] }, { accessFlags := 26, nameIndex := 108, descriptorIndex := 109, attributes := #[] }, { accessFlags := 25, nameIndex := 294, descriptorIndex := 25, attributes := #[] }])
  fields := #[{ name := "U", type := (.object "jdk/internal/misc/Unsafe"), accessFlags := 24, slot := 0, constantValue := 0 }, { name := "BIG_ENDIAN", type := .boolean, accessFlags := 26, slot := 1, constantValue := 0 }, { name := "LOG2_ARRAY_BOOLEAN_INDEX_SCALE", type := .int, accessFlags := 25, slot := 2, constantValue := 0 }, { name := "LOG2_ARRAY_BYTE_INDEX_SCALE", type := .int, accessFlags := 25, slot := 3, constantValue := 0 }, { name := "LOG2_ARRAY_CHAR_INDEX_SCALE", type := .int, accessFlags := 25, slot := 4, constantValue := 0 }, { name := "LOG2_ARRAY_SHORT_INDEX_SCALE", type := .int, accessFlags := 25, slot := 5, constantValue := 0 }, { name := "LOG2_ARRAY_INT_INDEX_SCALE", type := .int, accessFlags := 25, slot := 6, constantValue := 0 }, { name := "LOG2_ARRAY_LONG_INDEX_SCALE", type := .int, accessFlags := 25, slot := 7, constantValue := 0 }, { name := "LOG2_ARRAY_FLOAT_INDEX_SCALE", type := .int, accessFlags := 25, slot := 8, constantValue := 0 }, { name := "LOG2_ARRAY_DOUBLE_INDEX_SCALE", type := .int, accessFlags := 25, slot := 9, constantValue := 0 }, { name := "LOG2_BYTE_BIT_SIZE", type := .int, accessFlags := 26, slot := 10, constantValue := 0 }, { name := "T_BOOLEAN", type := .int, accessFlags := 25, slot := 11, constantValue := 0 }, { name := "T_CHAR", type := .int, accessFlags := 25, slot := 12, constantValue := 0 }, { name := "T_FLOAT", type := .int, accessFlags := 25, slot := 13, constantValue := 0 }, { name := "T_DOUBLE", type := .int, accessFlags := 25, slot := 14, constantValue := 0 }, { name := "T_BYTE", type := .int, accessFlags := 25, slot := 15, constantValue := 0 }, { name := "T_SHORT", type := .int, accessFlags := 25, slot := 16, constantValue := 0 }, { name := "T_INT", type := .int, accessFlags := 25, slot := 17, constantValue := 0 }, { name := "T_LONG", type := .int, accessFlags := 25, slot := 18, constantValue := 0 }, { name := "JLA", type := (.object "jdk/internal/access/JavaLangAccess"), accessFlags := 26, slot := 19, constantValue := 0 }, { name := "SOFT_MAX_ARRAY_LENGTH", type := .int, accessFlags := 25, slot := 20, constantValue := 0 }]
  methods := #[k14m0]
  instanceTypes := #[]
  staticTypes := #[(.object "jdk/internal/misc/Unsafe"), .boolean, .int, .int, .int, .int, .int, .int, .int, .int, .int, .int, .int, .int, .int, .int, .int, .int, .int, (.object "jdk/internal/access/JavaLangAccess"), .int]
  resolved := Array.replicate 378 none
  statics := none }

def pool15 : Array CpInfo := pool [(1, u "java/lang/Cloneable"), (0, .class_ 1), (0, u "java/lang/Object"), (0, .class_ 3)] 3

/-- java/lang/Cloneable -/
def k15 : Class := { plain "java/lang/Cloneable" (some 0) with
  accessFlags := 1537
  interfaces := #[]
  cf := some (fileOf pool15 2 #[] #[] 1537 4 #[] #[])
  fields := #[]
  methods := #[]
  instanceTypes := #[]
  staticTypes := #[]
  resolved := Array.replicate 8 none
  statics := none }

/-- the primitive byte -/
def k16 : Class := { plain "byte" none with kind := .primitive 'B', accessFlags := 0x411 }
/-- [B -/
def k17 : Class := { plain "[B" (some 0) with kind := .array 16 .byte, interfaces := #[15, 2], accessFlags := 1041 }

/-- the primitive char -/
def k18 : Class := { plain "char" none with kind := .primitive 'C', accessFlags := 0x411 }
/-- [C -/
def k19 : Class := { plain "[C" (some 0) with kind := .array 18 .char, interfaces := #[15, 2], accessFlags := 1041 }

/-- the primitive int -/
def k20 : Class := { plain "int" none with kind := .primitive 'I', accessFlags := 0x411 }
/-- [I -/
def k21 : Class := { plain "[I" (some 0) with kind := .array 20 .int, interfaces := #[15, 2], accessFlags := 1041 }

def heap : Heap := #[{ cls := 7, slots := #[.long 0, .int 1, .null, .int 0, .null, .int 0, .int 0], vm := .statics 7 },
  { cls := 11, slots := #[.null, .null, .null, .null, .null, .ref 3, .null], vm := .statics 11 },
  { cls := 13, slots := #[.null, .null, .null], vm := .statics 13 },
  { cls := 11, slots := #[.null, .int 0, .int 0, .null, .int 0, .int 0], vm := .none }]
def classes : Array Class := #[k0, k1, k2, k3, k4, k5, k6, k7, k8, k9, k10, k11, k12, k13, k14, k15, k16, k17, k18, k19, k20, k21]
def interned : List (Array UInt16 × Addr) := []
def slotsUsed : Nat := 23
def theMethod : MethodId := ⟨1, 3⟩
def args0 : Array Value := #[.int 5, .int 3, .int 3, .int 0]
def aboutOver (below : List Frame) : State where
  vm := { classes := classes, interned := interned.toArray }
  heap := heap
  slotsUsed := slotsUsed
  threads := #[{ frames := .invoking theMethod args0 :: below }]
def below0 : List Frame := [.native { method := ⟨0, 0⟩, args := #[] }]
def about1 : State := aboutOver below0
def p0 : Program := .bare "" "" ""
def e0 : Env := launch0.env 0 0 0
theorem w_frames : about1.frames = Frame.invoking theMethod args0 :: below0 := rfl
set_option maxRecDepth 65536 in
theorem w_args : argsFit about1.vm theMethod args0 = true := by decide +kernel
set_option maxRecDepth 65536 in
theorem w_heap : heapFits about1 = true := by decide +kernel
set_option maxRecDepth 65536 in
theorem w_runnable : about1.curStatus? = some .runnable := by decide +kernel
set_option maxRecDepth 65536 in
theorem w_alone : about1.alone = true := by decide +kernel
set_option maxRecDepth 65536 in
theorem w_named : about1.methodNamed? x = some theMethod := by decide +kernel
set_option maxRecDepth 65536 in
theorem w_hears : about1.hears theMethod below0 = true := by decide +kernel
set_option maxRecDepth 65536 in
theorem w_ripe : about1.ripe theMethod args0 below0 = true := by decide +kernel
theorem w_running : about1.status = .running := rfl
set_option maxRecDepth 65536 in
theorem w_room : about1.hasRoom e0.platform room_1 = true :=
  launch0.hasRoom_least _ room_1 (by decide +kernel) (by decide +kernel) (by decide +kernel) (by decide +kernel) (by decide +kernel) (by decide +kernel)
theorem allAtoms_all (ts : List Jvm.Cond) (a : Array Jvm.Value) (st : Jvm.State) : (allAtoms ts).before a st = ts.all (fun c => c.before a st) := by
  induction ts with
  | nil => rfl
  | cons c t ih =>
    show (Jvm.Cond.and c (allAtoms t)).before a st = _
    rw [Jvm.Cond.before_and, ih, List.all_cons]
def words1 : List Jvm.Cond := Jvm.Cond.code x code maxLocals ret :: tables_1
/-- a 'code' word, met by the world's own term for the bytes: nothing is compared byte by byte -/
theorem code_word {y : MethodName} {bytes : ByteArray} {mx : Nat} {rt : Option FieldType} {a : Array Value} {s : State} {m : MethodId} {meth : Method} {c : Code} (h1 : s.methodNamed? y = some m) (h2 : s.vm.method? m = some meth) (h3 : meth.code = some c) (h4 : c.code = bytes)
    (h5 : (c.maxLocals == mx && c.exceptionTable.isEmpty && decide (c.maxStack ≤ mostOperands) && decide (meth.sig.returnType = rt) && !meth.locks && decide (parseMethodDescriptor y.desc = some meth.sig)) = true) : (Jvm.Cond.code y bytes mx rt).before a s = true := by
  simp only [Bool.and_eq_true, beq_iff_eq, Bool.not_eq_true', decide_eq_true_eq] at h5
  obtain ⟨⟨⟨⟨⟨g1, g2⟩, g3⟩, g4⟩, g5⟩, g6⟩ := h5
  simp [Cond.before, Cond.holds, Cond.value, h1, h2, h3, h4, g1, g2, g3, g4, g5, g6]
def isCode : Jvm.Cond → Bool
  | .code _ _ _ _ => true
  | _ => false
theorem all_split {L : List Jvm.Cond} {P : Jvm.Cond → Bool} (h1 : L.all (fun c => isCode c || P c) = true) (h2 : ∀ c ∈ L.filter isCode, P c = true) : L.all P = true := by
  refine List.all_eq_true.mpr fun c hc => ?_
  have h := List.all_eq_true.mp h1 c hc
  rcases Bool.eq_false_or_eq_true (isCode c) with hi | hi
  · exact h2 c (List.mem_filter.mpr ⟨hc, hi⟩)
  · simpa [hi] using h
set_option maxRecDepth 65536 in
theorem w_c0 : (Jvm.Cond.code x code maxLocals ret).before args0 about1 = true := code_word (m := ⟨1, 3⟩) (meth := k1m3) (c := k1c3) (by decide +kernel) rfl rfl rfl (by decide +kernel)
set_option maxRecDepth 65536 in
theorem w_c1 : (Jvm.Cond.code ({ cls := "com/example/valve_per_tenant/valvepertenant/store/BucketKeyOverridePinLaw", name := "drawn", desc := "(IZ)Ljava/lang/String;" } : Jvm.MethodName) method_2_code (3 : Nat) (Option.some (Jvm.ClassFile.FieldType.object "java/lang/String"))).before args0 about1 = true := code_word (m := ⟨1, 1⟩) (meth := k1m1) (c := k1c1) (by decide +kernel) rfl rfl rfl (by decide +kernel)
set_option maxRecDepth 65536 in
theorem w_c2 : (Jvm.Cond.code ({ cls := "java/lang/String", name := "<init>", desc := "([C)V" } : Jvm.MethodName) jdk_42_method_3_code (2 : Nat) (Option.none : Option Jvm.ClassFile.FieldType)).before args0 about1 = true := code_word (m := ⟨7, 1⟩) (meth := k7m1) (c := k7c1) (by decide +kernel) rfl rfl rfl (by decide +kernel)
set_option maxRecDepth 65536 in
theorem w_c3 : (Jvm.Cond.code ({ cls := "java/lang/String", name := "<init>", desc := "([CIILjava/lang/Void;)V" } : Jvm.MethodName) jdk_42_method_149_code (6 : Nat) (Option.none : Option Jvm.ClassFile.FieldType)).before args0 about1 = true := code_word (m := ⟨7, 4⟩) (meth := k7m4) (c := k7c4) (by decide +kernel) rfl rfl rfl (by decide +kernel)
set_option maxRecDepth 65536 in
theorem w_c4 : (Jvm.Cond.code ({ cls := "java/lang/Object", name := "<init>", desc := "()V" } : Jvm.MethodName) object_method_1_code (1 : Nat) (Option.none : Option Jvm.ClassFile.FieldType)).before args0 about1 = true := code_word (m := ⟨0, 0⟩) (meth := k0m0) (c := k0c0) (by decide +kernel) rfl rfl rfl (by decide +kernel)
set_option maxRecDepth 65536 in
theorem w_c5 : (Jvm.Cond.code ({ cls := "java/lang/StringUTF16", name := "compress", desc := "([CII)[B" } : Jvm.MethodName) jdk_52_method_16_code (6 : Nat) (Option.some (Jvm.ClassFile.FieldType.array Jvm.ClassFile.FieldType.byte))).before args0 about1 = true := code_word (m := ⟨8, 2⟩) (meth := k8m2) (c := k8c2) (by decide +kernel) rfl rfl rfl (by decide +kernel)
set_option maxRecDepth 65536 in
theorem w_c6 : (Jvm.Cond.code ({ cls := "java/lang/StringUTF16", name := "compress", desc := "([CI[BII)I" } : Jvm.MethodName) jdk_52_method_21_code (7 : Nat) (Option.some Jvm.ClassFile.FieldType.int)).before args0 about1 = true := code_word (m := ⟨8, 3⟩) (meth := k8m3) (c := k8c3) (by decide +kernel) rfl rfl rfl (by decide +kernel)
set_option maxRecDepth 65536 in
theorem w_c7 : (Jvm.Cond.code ({ cls := "java/lang/StringUTF16", name := "coderFromArrayLen", desc := "([BI)B" } : Jvm.MethodName) jdk_52_method_15_code (2 : Nat) (Option.some Jvm.ClassFile.FieldType.byte)).before args0 about1 = true := code_word (m := ⟨8, 1⟩) (meth := k8m1) (c := k8c1) (by decide +kernel) rfl rfl rfl (by decide +kernel)
set_option maxRecDepth 65536 in
theorem w_c8 : (Jvm.Cond.code ({ cls := "com/example/valve_per_tenant/valvepertenant/store/BucketKey", name := "override", desc := "(Ljava/lang/String;Ljava/lang/String;Ljava/lang/String;)Lcom/example/valve_per_tenant/valvepertenant/store/BucketKey;" } : Jvm.MethodName) prog_25_method_7_code (3 : Nat) (Option.some (Jvm.ClassFile.FieldType.object "com/example/valve_per_tenant/valvepertenant/store/BucketKey"))).before args0 about1 = true := code_word (m := ⟨9, 1⟩) (meth := k9m1) (c := k9c1) (by decide +kernel) rfl rfl rfl (by decide +kernel)
set_option maxRecDepth 65536 in
theorem w_c9 : (Jvm.Cond.code ({ cls := "com/example/valve_per_tenant/valvepertenant/store/BucketKey", name := "requireName", desc := "(Ljava/lang/String;Ljava/lang/String;)Ljava/lang/String;" } : Jvm.MethodName) prog_25_method_16_code (2 : Nat) (Option.some (Jvm.ClassFile.FieldType.object "java/lang/String"))).before args0 about1 = true := code_word (m := ⟨9, 7⟩) (meth := k9m7) (c := k9c7) (by decide +kernel) rfl rfl rfl (by decide +kernel)
set_option maxRecDepth 65536 in
theorem w_c10 : (Jvm.Cond.code ({ cls := "java/lang/String", name := "isEmpty", desc := "()Z" } : Jvm.MethodName) jdk_42_method_55_code (1 : Nat) (Option.some Jvm.ClassFile.FieldType.boolean)).before args0 about1 = true := code_word (m := ⟨7, 2⟩) (meth := k7m2) (c := k7c2) (by decide +kernel) rfl rfl rfl (by decide +kernel)
set_option maxRecDepth 65536 in
theorem w_c11 : (Jvm.Cond.code ({ cls := "com/example/valve_per_tenant/valvepertenant/store/BucketKey", name := "<init>", desc := "(Lcom/example/valve_per_tenant/valvepertenant/model/Scope;Ljava/lang/String;Ljava/lang/String;Ljava/lang/String;Ljava/lang/String;)V" } : Jvm.MethodName) prog_25_method_1_code (6 : Nat) (Option.none : Option Jvm.ClassFile.FieldType)).before args0 about1 = true := code_word (m := ⟨9, 0⟩) (meth := k9m0) (c := k9c0) (by decide +kernel) rfl rfl rfl (by decide +kernel)
set_option maxRecDepth 65536 in
theorem w_c12 : (Jvm.Cond.code ({ cls := "com/example/valve_per_tenant/valvepertenant/store/BucketKey", name := "getScope", desc := "()Lcom/example/valve_per_tenant/valvepertenant/model/Scope;" } : Jvm.MethodName) prog_25_method_8_code (1 : Nat) (Option.some (Jvm.ClassFile.FieldType.object "com/example/valve_per_tenant/valvepertenant/model/Scope"))).before args0 about1 = true := code_word (m := ⟨9, 2⟩) (meth := k9m2) (c := k9c2) (by decide +kernel) rfl rfl rfl (by decide +kernel)
set_option maxRecDepth 65536 in
theorem w_c13 : (Jvm.Cond.code ({ cls := "com/example/valve_per_tenant/valvepertenant/store/BucketKey", name := "getTenant", desc := "()Ljava/lang/String;" } : Jvm.MethodName) prog_25_method_9_code (1 : Nat) (Option.some (Jvm.ClassFile.FieldType.object "java/lang/String"))).before args0 about1 = true := code_word (m := ⟨9, 3⟩) (meth := k9m3) (c := k9c3) (by decide +kernel) rfl rfl rfl (by decide +kernel)
set_option maxRecDepth 65536 in
theorem w_c14 : (Jvm.Cond.code ({ cls := "com/example/valve_per_tenant/valvepertenant/store/BucketKeyOverridePinLaw", name := "same", desc := "(Ljava/lang/String;Ljava/lang/String;)Z" } : Jvm.MethodName) method_3_code (2 : Nat) (Option.some Jvm.ClassFile.FieldType.boolean)).before args0 about1 = true := code_word (m := ⟨1, 2⟩) (meth := k1m2) (c := k1c2) (by decide +kernel) rfl rfl rfl (by decide +kernel)
set_option maxRecDepth 65536 in
theorem w_c15 : (Jvm.Cond.code ({ cls := "java/lang/String", name := "equals", desc := "(Ljava/lang/Object;)Z" } : Jvm.MethodName) jdk_42_method_66_code (3 : Nat) (Option.some Jvm.ClassFile.FieldType.boolean)).before args0 about1 = true := code_word (m := ⟨7, 3⟩) (meth := k7m3) (c := k7c3) (by decide +kernel) rfl rfl rfl (by decide +kernel)
set_option maxRecDepth 65536 in
theorem w_c16 : (Jvm.Cond.code ({ cls := "com/example/valve_per_tenant/valvepertenant/store/BucketKey", name := "getUser", desc := "()Ljava/lang/String;" } : Jvm.MethodName) prog_25_method_10_code (1 : Nat) (Option.some (Jvm.ClassFile.FieldType.object "java/lang/String"))).before args0 about1 = true := code_word (m := ⟨9, 4⟩) (meth := k9m4) (c := k9c4) (by decide +kernel) rfl rfl rfl (by decide +kernel)
set_option maxRecDepth 65536 in
theorem w_c17 : (Jvm.Cond.code ({ cls := "com/example/valve_per_tenant/valvepertenant/store/BucketKey", name := "getAddress", desc := "()Ljava/lang/String;" } : Jvm.MethodName) prog_25_method_11_code (1 : Nat) (Option.some (Jvm.ClassFile.FieldType.object "java/lang/String"))).before args0 about1 = true := code_word (m := ⟨9, 5⟩) (meth := k9m5) (c := k9c5) (by decide +kernel) rfl rfl rfl (by decide +kernel)
set_option maxRecDepth 65536 in
theorem w_c18 : (Jvm.Cond.code ({ cls := "com/example/valve_per_tenant/valvepertenant/store/BucketKey", name := "getEndpoint", desc := "()Ljava/lang/String;" } : Jvm.MethodName) prog_25_method_12_code (1 : Nat) (Option.some (Jvm.ClassFile.FieldType.object "java/lang/String"))).before args0 about1 = true := code_word (m := ⟨9, 6⟩) (meth := k9m6) (c := k9c6) (by decide +kernel) rfl rfl rfl (by decide +kernel)
def codes1 : List Jvm.Cond := [Jvm.Cond.code x code maxLocals ret, Jvm.Cond.code ({ cls := "com/example/valve_per_tenant/valvepertenant/store/BucketKeyOverridePinLaw", name := "drawn", desc := "(IZ)Ljava/lang/String;" } : Jvm.MethodName) method_2_code (3 : Nat) (Option.some (Jvm.ClassFile.FieldType.object "java/lang/String")), Jvm.Cond.code ({ cls := "java/lang/String", name := "<init>", desc := "([C)V" } : Jvm.MethodName) jdk_42_method_3_code (2 : Nat) (Option.none : Option Jvm.ClassFile.FieldType), Jvm.Cond.code ({ cls := "java/lang/String", name := "<init>", desc := "([CIILjava/lang/Void;)V" } : Jvm.MethodName) jdk_42_method_149_code (6 : Nat) (Option.none : Option Jvm.ClassFile.FieldType), Jvm.Cond.code ({ cls := "java/lang/Object", name := "<init>", desc := "()V" } : Jvm.MethodName) object_method_1_code (1 : Nat) (Option.none : Option Jvm.ClassFile.FieldType), Jvm.Cond.code ({ cls := "java/lang/StringUTF16", name := "compress", desc := "([CII)[B" } : Jvm.MethodName) jdk_52_method_16_code (6 : Nat) (Option.some (Jvm.ClassFile.FieldType.array Jvm.ClassFile.FieldType.byte)), Jvm.Cond.code ({ cls := "java/lang/StringUTF16", name := "compress", desc := "([CI[BII)I" } : Jvm.MethodName) jdk_52_method_21_code (7 : Nat) (Option.some Jvm.ClassFile.FieldType.int), Jvm.Cond.code ({ cls := "java/lang/StringUTF16", name := "coderFromArrayLen", desc := "([BI)B" } : Jvm.MethodName) jdk_52_method_15_code (2 : Nat) (Option.some Jvm.ClassFile.FieldType.byte), Jvm.Cond.code ({ cls := "com/example/valve_per_tenant/valvepertenant/store/BucketKey", name := "override", desc := "(Ljava/lang/String;Ljava/lang/String;Ljava/lang/String;)Lcom/example/valve_per_tenant/valvepertenant/store/BucketKey;" } : Jvm.MethodName) prog_25_method_7_code (3 : Nat) (Option.some (Jvm.ClassFile.FieldType.object "com/example/valve_per_tenant/valvepertenant/store/BucketKey")), Jvm.Cond.code ({ cls := "com/example/valve_per_tenant/valvepertenant/store/BucketKey", name := "requireName", desc := "(Ljava/lang/String;Ljava/lang/String;)Ljava/lang/String;" } : Jvm.MethodName) prog_25_method_16_code (2 : Nat) (Option.some (Jvm.ClassFile.FieldType.object "java/lang/String")), Jvm.Cond.code ({ cls := "java/lang/String", name := "isEmpty", desc := "()Z" } : Jvm.MethodName) jdk_42_method_55_code (1 : Nat) (Option.some Jvm.ClassFile.FieldType.boolean), Jvm.Cond.code ({ cls := "com/example/valve_per_tenant/valvepertenant/store/BucketKey", name := "<init>", desc := "(Lcom/example/valve_per_tenant/valvepertenant/model/Scope;Ljava/lang/String;Ljava/lang/String;Ljava/lang/String;Ljava/lang/String;)V" } : Jvm.MethodName) prog_25_method_1_code (6 : Nat) (Option.none : Option Jvm.ClassFile.FieldType), Jvm.Cond.code ({ cls := "com/example/valve_per_tenant/valvepertenant/store/BucketKey", name := "getScope", desc := "()Lcom/example/valve_per_tenant/valvepertenant/model/Scope;" } : Jvm.MethodName) prog_25_method_8_code (1 : Nat) (Option.some (Jvm.ClassFile.FieldType.object "com/example/valve_per_tenant/valvepertenant/model/Scope")), Jvm.Cond.code ({ cls := "com/example/valve_per_tenant/valvepertenant/store/BucketKey", name := "getTenant", desc := "()Ljava/lang/String;" } : Jvm.MethodName) prog_25_method_9_code (1 : Nat) (Option.some (Jvm.ClassFile.FieldType.object "java/lang/String")), Jvm.Cond.code ({ cls := "com/example/valve_per_tenant/valvepertenant/store/BucketKeyOverridePinLaw", name := "same", desc := "(Ljava/lang/String;Ljava/lang/String;)Z" } : Jvm.MethodName) method_3_code (2 : Nat) (Option.some Jvm.ClassFile.FieldType.boolean), Jvm.Cond.code ({ cls := "java/lang/String", name := "equals", desc := "(Ljava/lang/Object;)Z" } : Jvm.MethodName) jdk_42_method_66_code (3 : Nat) (Option.some Jvm.ClassFile.FieldType.boolean), Jvm.Cond.code ({ cls := "com/example/valve_per_tenant/valvepertenant/store/BucketKey", name := "getUser", desc := "()Ljava/lang/String;" } : Jvm.MethodName) prog_25_method_10_code (1 : Nat) (Option.some (Jvm.ClassFile.FieldType.object "java/lang/String")), Jvm.Cond.code ({ cls := "com/example/valve_per_tenant/valvepertenant/store/BucketKey", name := "getAddress", desc := "()Ljava/lang/String;" } : Jvm.MethodName) prog_25_method_11_code (1 : Nat) (Option.some (Jvm.ClassFile.FieldType.object "java/lang/String")), Jvm.Cond.code ({ cls := "com/example/valve_per_tenant/valvepertenant/store/BucketKey", name := "getEndpoint", desc := "()Ljava/lang/String;" } : Jvm.MethodName) prog_25_method_12_code (1 : Nat) (Option.some (Jvm.ClassFile.FieldType.object "java/lang/String"))]
set_option maxRecDepth 65536 in
theorem codes_eq : words1.filter isCode = codes1 := rfl
theorem w_codes : ∀ c ∈ words1.filter isCode, c.before args0 about1 = true := by
  rw [codes_eq]
  intro c hc
  simp only [codes1, List.mem_cons, List.not_mem_nil, or_false] at hc
  rcases hc with rfl | rfl | rfl | rfl | rfl | rfl | rfl | rfl | rfl | rfl | rfl | rfl | rfl | rfl | rfl | rfl | rfl | rfl | rfl
  · exact w_c0
  · exact w_c1
  · exact w_c2
  · exact w_c3
  · exact w_c4
  · exact w_c5
  · exact w_c6
  · exact w_c7
  · exact w_c8
  · exact w_c9
  · exact w_c10
  · exact w_c11
  · exact w_c12
  · exact w_c13
  · exact w_c14
  · exact w_c15
  · exact w_c16
  · exact w_c17
  · exact w_c18
set_option maxRecDepth 65536 in
theorem w_t1 : (words1.take 24).all (fun c => isCode c || c.before args0 about1) = true := by decide +kernel
set_option maxRecDepth 65536 in
theorem w_t2 : ((words1.drop 24).take 24).all (fun c => isCode c || c.before args0 about1) = true := by decide +kernel
set_option maxRecDepth 65536 in
theorem w_t3 : (((words1.drop 24).drop 24).take 24).all (fun c => isCode c || c.before args0 about1) = true := by decide +kernel
set_option maxRecDepth 65536 in
theorem w_t4 : ((((words1.drop 24).drop 24).drop 24).take 24).all (fun c => isCode c || c.before args0 about1) = true := by decide +kernel
set_option maxRecDepth 65536 in
theorem w_t5 : ((((words1.drop 24).drop 24).drop 24).drop 24).all (fun c => isCode c || c.before args0 about1) = true := by decide +kernel
theorem w_tables : (allAtoms (Jvm.Cond.code x code maxLocals ret :: tables_1)).before args0 about1 = true := by
  rw [allAtoms_all]
  show words1.all (fun c => c.before args0 about1) = true
  refine all_split ?_ w_codes
  rw [← List.take_append_drop 24 words1, List.all_append, w_t1, ← List.take_append_drop 24 (words1.drop 24), List.all_append, w_t2, ← List.take_append_drop 24 ((words1.drop 24).drop 24), List.all_append, w_t3, ← List.take_append_drop 24 (((words1.drop 24).drop 24).drop 24), List.all_append, w_t4, w_t5]
  rfl
set_option maxRecDepth 65536 in
theorem w_rest : rest_1_c.before args0 about1 = true := by decide +kernel
set_option maxRecDepth 65536 in
theorem w_case : (Jvm.Cond.and given_1 narrow_1).before args0 about1 = true := by decide +kernel
theorem w_applies : (headSpec (Jvm.Cond.code x code maxLocals ret :: tables_1) room_1).applies x e0.platform about1 = true :=
  (Spec.applies_iff w_frames).mpr ⟨w_running, w_runnable, w_alone, w_named, w_hears, w_ripe, w_room, w_tables⟩
theorem atStart : AtStart classFile x code maxLocals ret World_1 tables_1 room_1 Calls_1 rest_1 Pre_1 launch0 p0 e0 about1 theMethod args0 below0 :=
  ⟨lists_1, trivial, launch0.admits_env _ _ _, launch0.least_env, fairChoices_fair.cas, fairChoices_fair.clock, w_frames, w_args, w_heap, w_applies, trivial, w_rest, w_case⟩
end start1
theorem witness_1 : WitnessClaimed_1 := ⟨start1.p0, start1.e0, start1.about1, start1.theMethod, start1.args0, start1.below0, start1.atStart⟩
end Jvm.Pilot.@@N@@
