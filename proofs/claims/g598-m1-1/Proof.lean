import JvmDerived
import JvmDerived.Pilot.@@N@@Statement
import JvmDerived.Pilot.@@N@@Code
set_option linter.unusedVariables false
set_option linter.unusedSimpArgs false
/- laws to paste: Road.backV, Road.eqW, Road.codOf (cut by pick.py; bodies as the Statement names them) -/
namespace Jvm.Pilot.@@N@@
namespace StrChars
open Jvm Sem ClassFile Op Lib Jvm.Stand Jvm.Free.XT Jvm.Free.ALB Jvm.Free.JM Jvm.Free
open Jvm.Lib.Cold (StaticIs)
/-- a char array whose places are chars -/
def Ch (a : Addr) (A : Cell) (U : State) : Prop := Arr .char a A U ∧ Typed .char A
theorem Ch.mv {a : Addr} {A : Cell} {U U' : State} (h : Ch a A U) (hal : U.vm.Alike U'.vm) (hh : U'.heap = U.heap) : Ch a A U' := ⟨h.1.mv hal hh, h.2⟩
theorem Ch.keep {a : Addr} {A : Cell} {U U' : State} (h : Ch a A U) (hal : U.vm.Alike U'.vm) (hk : U'.heap[a]? = some A) : Ch a A U' := ⟨h.1.keep hal hk, h.2⟩
/-- what place i of a char[]'s cell holds -/
def cv (A : Cell) (i : Nat) : Int32 := match A.slots[i]? with | some (.int x) => x | _ => 0
theorem Ch.get {a : Addr} {A : Cell} {U : State} (h : Ch a A U) {i : Nat} (hi : i < A.slots.size) : A.slots[i]? = some (.int (cv A i)) := by
  have e := Array.getElem?_eq_getElem hi
  have f := h.2 i _ e
  unfold cv; rw [e]
  generalize A.slots[i] = v at f
  cases v <;> simp [fits] at f ⊢
/-- the byte that i2b leaves of a char -/
def lo8 (x : Int32) : Int32 := x.toInt8.toInt32
theorem fits_lo8 (y : Int32) : fits .byte (.int (lo8 y)) = true := by
  have h1 := y.toInt8.le_toInt
  have h2 := y.toInt8.toInt_lt
  simp only [lo8, fits, Bool.and_eq_true, decide_eq_true_eq, Int32.le_iff_toInt_le, Int8.toInt_toInt32, show (-128 : Int32).toInt = -128 from by decide, show (127 : Int32).toInt = 127 from by decide]
  omega
/-- A' is A but that each place j of lo .. hi - 1 holds f j -/
def Laid (A A' : Cell) (lo hi : Nat) (f : Nat → Value) : Prop := A'.cls = A.cls ∧ A'.vm = A.vm ∧ A'.slots.size = A.slots.size ∧ ∀ i, A'.slots[i]? = if lo ≤ i ∧ i < hi then some (f i) else A.slots[i]?
theorem Laid.zero (A : Cell) (lo : Nat) (f : Nat → Value) : Laid A A lo (lo + 0) f := ⟨rfl, rfl, rfl, fun i => by rw [if_neg (by omega)]⟩
theorem Laid.step {A Ak : Cell} {lo k : Nat} {f : Nat → Value} {v : Value} (h : Laid A Ak lo k f) (hlo : lo ≤ k) (hk : k < Ak.slots.size) (hv : v = f k) : Laid A (Ak.setSlot k v) lo (k + 1) f := by
  refine ⟨h.1, h.2.1, by simpa [Cell.setSlot] using h.2.2.1, fun i => ?_⟩
  by_cases e : k = i
  · subst e; rw [Cell.slots_setSlot_self v hk, if_pos (by omega), hv]
  · rw [Cell.slots_setSlot_ne v e, h.2.2.2 i]
    by_cases q : lo ≤ i ∧ i < k
    · rw [if_pos q, if_pos (by omega)]
    · rw [if_neg q, if_neg (by omega)]
def U16 : String := "java/lang/StringUTF16"
namespace Cmp5
def yN : MethodName := ⟨"java/lang/StringUTF16", "compress", "([CI[BII)I"⟩
abbrev yB : ByteArray := jdk_52_method_21_code
theorem d0 : decode yB 0 = .ok (.iconst 0, 1) := by decide +kernel
theorem d1 : decode yB 1 = .ok (.istore 5, 2) := by decide +kernel
theorem d3 : decode yB 3 = .ok (.iload 5, 2) := by decide +kernel
theorem d5 : decode yB 5 = .ok (.iload 4, 2) := by decide +kernel
theorem d7 : decode yB 7 = .ok (.if_icmp (.ge) 37, 3) := by decide +kernel
theorem d10 : decode yB 10 = .ok (.aload_n 0, 1) := by decide +kernel
theorem d11 : decode yB 11 = .ok (.iload_n 1, 1) := by decide +kernel
theorem d12 : decode yB 12 = .ok (.caload, 1) := by decide +kernel
theorem d13 : decode yB 13 = .ok (.istore 6, 2) := by decide +kernel
theorem d15 : decode yB 15 = .ok (.iload 6, 2) := by decide +kernel
theorem d17 : decode yB 17 = .ok (.sipush 255, 3) := by decide +kernel
theorem d20 : decode yB 20 = .ok (.if_icmp (.le) 6, 3) := by decide +kernel
theorem d26 : decode yB 26 = .ok (.aload_n 2, 1) := by decide +kernel
theorem d27 : decode yB 27 = .ok (.iload_n 3, 1) := by decide +kernel
theorem d28 : decode yB 28 = .ok (.iload 6, 2) := by decide +kernel
theorem d30 : decode yB 30 = .ok (.i2b, 1) := by decide +kernel
theorem d31 : decode yB 31 = .ok (.bastore, 1) := by decide +kernel
theorem d32 : decode yB 32 = .ok (.iinc 1 1, 3) := by decide +kernel
theorem d35 : decode yB 35 = .ok (.iinc 3 1, 3) := by decide +kernel
theorem d38 : decode yB 38 = .ok (.iinc 5 1, 3) := by decide +kernel
theorem d41 : decode yB 41 = .ok (.goto (-38), 3) := by decide +kernel
theorem d44 : decode yB 44 = .ok (.iload 4, 2) := by decide +kernel
theorem d46 : decode yB 46 = .ok (.ireturn, 1) := by decide +kernel
def site : List Cond := []
def tab : Cond := tabOf yN yB 7 (some .int) site
def P (b : Addr) (A : Cell) (d : Addr) (B : Cell) (o q len : Nat) (args : Array Value) (s : State) : Prop := args = #[.ref b, .int (Int32.ofNat o), .ref d, .int (Int32.ofNat q), .int (Int32.ofNat len)] ∧ Ch b A s ∧ Arr .byte d B s ∧ b ≠ d ∧ o + len ≤ A.slots.size ∧ q + len ≤ B.slots.size ∧ ∀ i, i < len → ¬ 255 < cv A (o + i)
def E (b : Addr) (A : Cell) (d : Addr) (B : Cell) (o q len : Nat) (r : Option Value) (s u : State) : Prop := r = some (.int (Int32.ofNat len)) ∧ ∃ B', Put d B' s u ∧ Laid B B' q (q + len) (fun j => Value.int (lo8 (cv A (o + (j - q)))))
/-- no char of the range above 255: len; the places written hold each char's low byte -/
theorem law (l : Launch) (b : Addr) (A : Cell) (d : Addr) (B : Cell) (o q len : Nat) : Law l yN 5 5 0 0 yB 7 (some .int) site (P b A d B o q len) (E b A d B o q len) (copyLocs d q len) 0 0 := by
  refine Law.of_walk (plainFor_of_name (by decide +kernel)) (by decide +kernel) (by decide +kernel) (by decide) (fun _ _ h => by rw [h.1]; rfl) (fun _ U U' hal hh h => ⟨h.1, h.2.1.mv hal hh, h.2.2.1.mv hal hh, h.2.2.2⟩) (fun r U U' V V' h1 hal h2 h => ⟨h.1, h.2.elim fun B' q => ⟨B', q.1.mv h1 h2, q.2⟩⟩) ?_
  intro p e s m args below meth c s₁ X0 hexec hbytes hml hret hlk hnm hown hh0 W hP
  obtain ⟨rfl, hA, hB, hne, l1, l2, hp⟩ := hP
  have c1 : Steps p.tables e below (s₁.setTop (entryFrame m #[.ref b, .int (Int32.ofNat o), .ref d, .int (Int32.ofNat q), .int (Int32.ofNat len)] 7)) (s₁.setTop (mkF m 0 #[.val (.ref b), .val (.int (Int32.ofNat o)), .val (.ref d), .val (.int (Int32.ofNat q)), .val (.int (Int32.ofNat len)), .unset, .unset] [])) := entry rfl
  have hA0 := hA.1.mv X0.warmed.alike hh0
  have hB0 := hB.mv X0.warmed.alike hh0
  have a31 := hA.1.2.2.2
  have c2 : Steps p.tables e below (s₁.setTop (entryFrame m #[.ref b, .int (Int32.ofNat o), .ref d, .int (Int32.ofNat q), .int (Int32.ofNat len)] 7)) (s₁.setTop (mkF m 3 #[.val (.ref b), .val (.int (Int32.ofNat o)), .val (.ref d), .val (.int (Int32.ofNat q)), .val (.int (Int32.ofNat len)), .val (.int 0), .unset] [])) := c1.trans (by
    refine iconstV X0.here hexec rfl 0 (hb hbytes d0) (by decide) ?_
    refine XS.istore X0.here hexec rfl (hb hbytes d1) rfl rfl ?_
    exact Steps.refl _)
  have loop : ∀ (r i : Nat), i + r = len → ∀ (z : Slot), (z = .unset ∨ ∃ w, z = .val w ∧ w.category = 1) → ∀ (Tl : State) (Bk : Cell), Stand p l e { frames := 0, locals := 0, cells := 0, slots := 0 } s m #[.ref b, .int (Int32.ofNat o), .ref d, .int (Int32.ofNat q), .int (Int32.ofNat len)] below meth c Tl ([] ++ copyLocs d q i) 0 0 → Put d Bk s₁ Tl → Laid B Bk q (q + i) (fun j => Value.int (lo8 (cv A (o + (j - q))))) →
      Steps p.tables e below (s₁.setTop (entryFrame m #[.ref b, .int (Int32.ofNat o), .ref d, .int (Int32.ofNat q), .int (Int32.ofNat len)] 7)) (Tl.setTop (mkF m 3 #[.val (.ref b), .val (.int (Int32.ofNat (o + i))), .val (.ref d), .val (.int (Int32.ofNat (q + i))), .val (.int (Int32.ofNat len)), .val (.int (Int32.ofNat i)), z] [])) → ∃ (T' : State) (B' : Cell) (z' : Slot), Stand p l e { frames := 0, locals := 0, cells := 0, slots := 0 } s m #[.ref b, .int (Int32.ofNat o), .ref d, .int (Int32.ofNat q), .int (Int32.ofNat len)] below meth c T' ([] ++ copyLocs d q len) 0 0 ∧ Put d B' s₁ T' ∧ Laid B B' q (q + len) (fun j => Value.int (lo8 (cv A (o + (j - q))))) ∧
      Steps p.tables e below (s₁.setTop (entryFrame m #[.ref b, .int (Int32.ofNat o), .ref d, .int (Int32.ofNat q), .int (Int32.ofNat len)] 7)) (T'.setTop (mkF m 3 #[.val (.ref b), .val (.int (Int32.ofNat (o + len))), .val (.ref d), .val (.int (Int32.ofNat (q + len))), .val (.int (Int32.ofNat len)), .val (.int (Int32.ofNat len)), z'] [])) := by
    intro r
    induction r with
    | zero =>
      intro i hi z hz Tl Bk Xl pl fl cl
      have hil : i = len := by omega
      rw [hil] at Xl fl cl
      exact ⟨Tl, Bk, z, Xl, pl, fl, cl⟩
    | succ r ih =>
      intro i hi z hz Tl Bk Xl pl fl cl
      have all := X0.warmed.alike.symm.trans Xl.warmed.alike
      have hAl := hA0.keep all (pl.other hne hA0.1)
      have hBk := hB0.like all pl.1 fl.1 fl.2.1 fl.2.2.1
      have hlt : q + i < Bk.slots.size := by rw [fl.2.2.1]; omega
      have c3 : Steps p.tables e below (s₁.setTop (entryFrame m #[.ref b, .int (Int32.ofNat o), .ref d, .int (Int32.ofNat q), .int (Int32.ofNat len)] 7)) (Tl.setTop (mkF m 12 #[.val (.ref b), .val (.int (Int32.ofNat (o + i))), .val (.ref d), .val (.int (Int32.ofNat (q + i))), .val (.int (Int32.ofNat len)), .val (.int (Int32.ofNat i)), z] [.int (Int32.ofNat (o + i)), .ref b])) := cl.trans (by
        refine XS.iload Xl.here hexec rfl (hb hbytes d3) rfl ?_
        refine XS.iload Xl.here hexec rfl (hb hbytes d5) rfl ?_
        refine XS.icmpNo Xl.here hexec rfl (hb hbytes d7) rfl (ii_ge_f (lt32 (by omega) (by omega))) ?_
        refine XS.aloadN Xl.here hexec rfl (hb hbytes d10) rfl rfl ?_
        refine XS.iloadN Xl.here hexec rfl (hb hbytes d11) rfl ?_
        exact Steps.refl _)
      have c4 : Steps p.tables e below (s₁.setTop (entryFrame m #[.ref b, .int (Int32.ofNat o), .ref d, .int (Int32.ofNat q), .int (Int32.ofNat len)] 7)) (Tl.setTop (mkF m 13 #[.val (.ref b), .val (.int (Int32.ofNat (o + i))), .val (.ref d), .val (.int (Int32.ofNat (q + i))), .val (.int (Int32.ofNat len)), .val (.int (Int32.ofNat i)), z] [.int (cv A (o + i))])) := c3.trans (by
        refine Xl.aget hexec hAl rfl (hA.get (i := o + i) (by omega)) rfl rfl (hb hbytes d12) ?_
        exact Steps.refl _)
      have c5 : Steps p.tables e below (s₁.setTop (entryFrame m #[.ref b, .int (Int32.ofNat o), .ref d, .int (Int32.ofNat q), .int (Int32.ofNat len)] 7)) (Tl.setTop (mkF m 15 #[.val (.ref b), .val (.int (Int32.ofNat (o + i))), .val (.ref d), .val (.int (Int32.ofNat (q + i))), .val (.int (Int32.ofNat len)), .val (.int (Int32.ofNat i)), .val (.int (cv A (o + i)))] [])) := c4.trans (by
        refine XS.istoreS Xl.here hexec rfl (hb hbytes d13) rfl rfl hz ?_
        exact Steps.refl _)
      have c6 : Steps p.tables e below (s₁.setTop (entryFrame m #[.ref b, .int (Int32.ofNat o), .ref d, .int (Int32.ofNat q), .int (Int32.ofNat len)] 7)) (Tl.setTop (mkF m 31 #[.val (.ref b), .val (.int (Int32.ofNat (o + i))), .val (.ref d), .val (.int (Int32.ofNat (q + i))), .val (.int (Int32.ofNat len)), .val (.int (Int32.ofNat i)), .val (.int (cv A (o + i)))] [.int (lo8 (cv A (o + i))), .int (Int32.ofNat (q + i)), .ref d])) := c5.trans (by
        refine XS.iload Xl.here hexec rfl (hb hbytes d15) rfl ?_
        refine sipushV Xl.here hexec rfl 255 (hb hbytes d17) (by decide) ?_
        refine XS.icmpYes Xl.here hexec rfl (pc0 := 20) rfl (hb hbytes d20) rfl (ii_le_t (hp i (by omega))) (by decide) rfl ?_
        refine XS.aloadN Xl.here hexec rfl (hb hbytes d26) rfl rfl ?_
        refine XS.iloadN Xl.here hexec rfl (hb hbytes d27) rfl ?_
        refine XS.iload Xl.here hexec rfl (hb hbytes d28) rfl ?_
        refine i2b Xl.here hexec rfl (hb hbytes d30) rfl ?_
        exact Steps.refl _)
      obtain ⟨T7, X7, p7, st7⟩ := Xl.aput hexec hBk rfl hlt rfl (fits_lo8 (cv A (o + i))) (g := (mkF m 31 #[.val (.ref b), .val (.int (Int32.ofNat (o + i))), .val (.ref d), .val (.int (Int32.ofNat (q + i))), .val (.int (Int32.ofNat len)), .val (.int (Int32.ofNat i)), .val (.int (cv A (o + i)))] [.int (lo8 (cv A (o + i))), .int (Int32.ofNat (q + i)), .ref d])) rfl (rest := []) rfl (hb hbytes d31)
      have c8 : Steps p.tables e below (s₁.setTop (entryFrame m #[.ref b, .int (Int32.ofNat o), .ref d, .int (Int32.ofNat q), .int (Int32.ofNat len)] 7)) (T7.setTop (mkF m 32 #[.val (.ref b), .val (.int (Int32.ofNat (o + i))), .val (.ref d), .val (.int (Int32.ofNat (q + i))), .val (.int (Int32.ofNat len)), .val (.int (Int32.ofNat i)), .val (.int (cv A (o + i)))] [])) := c6.trans (st7 _ (Steps.refl _))
      have c9 : Steps p.tables e below (s₁.setTop (entryFrame m #[.ref b, .int (Int32.ofNat o), .ref d, .int (Int32.ofNat q), .int (Int32.ofNat len)] 7)) (T7.setTop (mkF m 3 #[.val (.ref b), .val (.int (Int32.ofNat (o + i) + 1)), .val (.ref d), .val (.int (Int32.ofNat (q + i) + 1)), .val (.int (Int32.ofNat len)), .val (.int (Int32.ofNat i + 1)), .val (.int (cv A (o + i)))] [])) := c8.trans (by
        refine iincV X7.here hexec rfl 1 (hb hbytes d32) (by decide) rfl rfl ?_
        refine iincV X7.here hexec rfl 1 (hb hbytes d35) (by decide) rfl rfl ?_
        refine iincV X7.here hexec rfl 1 (hb hbytes d38) (by decide) rfl rfl ?_
        refine XS.goto X7.here hexec rfl (pc0 := 41) rfl (hb hbytes d41) (by decide) rfl ?_
        exact Steps.refl _)
      have c10 : Steps p.tables e below (s₁.setTop (entryFrame m #[.ref b, .int (Int32.ofNat o), .ref d, .int (Int32.ofNat q), .int (Int32.ofNat len)] 7)) (T7.setTop (mkF m 3 #[.val (.ref b), .val (.int (Int32.ofNat (o + (i + 1)))), .val (.ref d), .val (.int (Int32.ofNat (q + (i + 1)))), .val (.int (Int32.ofNat len)), .val (.int (Int32.ofNat (i + 1))), .val (.int (cv A (o + i)))] [])) := by
        have := c9
        rw [succ32, succ32, succ32] at this
        exact this
      exact ih (i + 1) (by omega) _ (Or.inr ⟨_, rfl, rfl⟩) T7 _ (by rw [copyLocs_step, ← List.append_assoc]; exact X7) (pl.trans p7) (fl.step (by omega) hlt (by simp)) c10
  obtain ⟨T9, B9, z9, X9, p9, f9, g9⟩ := loop len 0 (by omega) .unset (Or.inl rfl) s₁ B (by simpa [copyLocs] using X0) ⟨hB0.1, fun _ _ => rfl, rfl⟩ (Laid.zero _ _ _) c2
  have c11 : Steps p.tables e below (s₁.setTop (entryFrame m #[.ref b, .int (Int32.ofNat o), .ref d, .int (Int32.ofNat q), .int (Int32.ofNat len)] 7)) (T9.setTop (mkF m 46 #[.val (.ref b), .val (.int (Int32.ofNat (o + len))), .val (.ref d), .val (.int (Int32.ofNat (q + len))), .val (.int (Int32.ofNat len)), .val (.int (Int32.ofNat len)), z9] [.int (Int32.ofNat len)])) := g9.trans (by
    refine XS.iload X9.here hexec rfl (hb hbytes d3) rfl ?_
    refine XS.iload X9.here hexec rfl (hb hbytes d5) rfl ?_
    refine XS.icmpYes X9.here hexec rfl (pc0 := 7) rfl (hb hbytes d7) rfl (ii_ge_t (nlt32 (by omega) (Nat.le_refl _))) (by decide) rfl ?_
    refine XS.iload X9.here hexec rfl (hb hbytes d44) rfl ?_
    exact Steps.refl _)
  exact ⟨T9, some (.int (Int32.ofNat len)), _, _, _, X9, by simp, rfl, rfl, (fun h => by cases h), ⟨rfl, B9, p9.from hh0, f9⟩, fun fs hl => c11.trans (X9.ireturnOut hexec hret rfl (Or.inl rfl) (hb hbytes d46) hl)⟩
end Cmp5
namespace Cmp3
def yN : MethodName := ⟨"java/lang/StringUTF16", "compress", "([CII)[B"⟩
abbrev yB : ByteArray := jdk_52_method_16_code
theorem d0 : decode yB 0 = .ok (.iload_n 2, 1) := by decide +kernel
theorem d1 : decode yB 1 = .ok (.newarray .byte, 2) := by decide +kernel
theorem d3 : decode yB 3 = .ok (.astore_n 3, 1) := by decide +kernel
theorem d4 : decode yB 4 = .ok (.aload_n 0, 1) := by decide +kernel
theorem d5 : decode yB 5 = .ok (.iload_n 1, 1) := by decide +kernel
theorem d6 : decode yB 6 = .ok (.aload_n 3, 1) := by decide +kernel
theorem d7 : decode yB 7 = .ok (.iconst 0, 1) := by decide +kernel
theorem d8 : decode yB 8 = .ok (.iload_n 2, 1) := by decide +kernel
theorem d9 : decode yB 9 = .ok (.invokestatic 115, 3) := by decide +kernel
theorem d12 : decode yB 12 = .ok (.istore 4, 2) := by decide +kernel
theorem d14 : decode yB 14 = .ok (.iload 4, 2) := by decide +kernel
theorem d16 : decode yB 16 = .ok (.iload_n 2, 1) := by decide +kernel
theorem d17 : decode yB 17 = .ok (.if_icmp (.eq) 40, 3) := by decide +kernel
theorem d57 : decode yB 57 = .ok (.aload_n 3, 1) := by decide +kernel
theorem d58 : decode yB 58 = .ok (.areturn, 1) := by decide +kernel
def site : List Cond := [.arrayClass .byte, Cmp5.tab] ++ staticW U16 115 Cmp5.yN
def tab : Cond := tabOf yN yB 6 (some (.array .byte)) site
def P (b : Addr) (A : Cell) (o len : Nat) (args : Array Value) (s : State) : Prop := args = #[.ref b, .int (Int32.ofNat o), .int (Int32.ofNat len)] ∧ Ch b A s ∧ o + len ≤ A.slots.size ∧ len ≤ 536870912 ∧ ∀ i, i < len → ¬ 255 < cv A (o + i)
def E (b : Addr) (A : Cell) (o len : Nat) (r : Option Value) (s u : State) : Prop := NewArr .byte "[B" len (fun j => .int (lo8 (cv A (o + j)))) r s u ∧ u.heap.size = s.heap.size + 1
/-- no char of the range above 255: a new byte[] of their low bytes -/
theorem law (l : Launch) (b : Addr) (A : Cell) (o len : Nat) : Law l yN 3 3 1 18 yB 6 (some (.array .byte)) site (P b A o len) (E b A o len) [] 1 len := by
  refine Law.of_walk (plainFor_of_name (by decide +kernel)) (by decide +kernel) (by decide +kernel) (by decide) (fun _ _ h => by rw [h.1]; rfl) (fun _ U U' hal hh h => ⟨h.1, h.2.1.mv hal hh, h.2.2⟩) (fun r U U' V V' h1 hal h2 h => ⟨NewArr.mv r U U' V V' h1 hal h2 h.1, by rw [h1, h2]; exact h.2⟩) ?_
  intro p e s m args below meth c s₁ X0 hexec hbytes hml hret hlk hnm hown hh0 W hP
  obtain ⟨rfl, hA, l1, l2, hp⟩ := hP
  have a31 := hA.1.2.2.2
  have c1 : Steps p.tables e below (s₁.setTop (entryFrame m #[.ref b, .int (Int32.ofNat o), .int (Int32.ofNat len)] 6)) (s₁.setTop (mkF m 0 #[.val (.ref b), .val (.int (Int32.ofNat o)), .val (.int (Int32.ofNat len)), .unset, .unset, .unset] [])) := entry rfl
  have c2 : Steps p.tables e below (s₁.setTop (entryFrame m #[.ref b, .int (Int32.ofNat o), .int (Int32.ofNat len)] 6)) (s₁.setTop (mkF m 1 #[.val (.ref b), .val (.int (Int32.ofNat o)), .val (.int (Int32.ofNat len)), .unset, .unset, .unset] [.int (Int32.ofNat len)])) := c1.trans (by
    refine XS.iloadN X0.here hexec rfl (hb hbytes d0) rfl ?_
    exact Steps.refl _)
  obtain ⟨T3, B3, X3, ba3, bs3, bv3, bh3, bf3, st3⟩ := X0.anew hexec (atype := .byte) (wk W (.arrayClass .byte)) rfl (by show len * 1 ≤ _; omega) (by omega) (g := (mkF m 1 #[.val (.ref b), .val (.int (Int32.ofNat o)), .val (.int (Int32.ofNat len)), .unset, .unset, .unset] [.int (Int32.ofNat len)])) rfl (hb hbytes d1) (rest := []) rfl (Nat.le_refl _) (by show 0 + len ≤ len; omega)
  rw [hh0] at ba3 st3
  have kp3 : XT.Kept s T3 := (XT.Kept.of_eq hh0).push bh3
  have hA3 := hA.keep X3.warmed.alike (kp3 _ _ hA.1.1)
  have hne : b ≠ s.heap.size := hA.1.ne
  have c4 : Steps p.tables e below (s₁.setTop (entryFrame m #[.ref b, .int (Int32.ofNat o), .int (Int32.ofNat len)] 6)) (T3.setTop (mkF m 3 #[.val (.ref b), .val (.int (Int32.ofNat o)), .val (.int (Int32.ofNat len)), .unset, .unset, .unset] [.ref s.heap.size])) := c2.trans (st3 _ (Steps.refl _))
  have c5 : Steps p.tables e below (s₁.setTop (entryFrame m #[.ref b, .int (Int32.ofNat o), .int (Int32.ofNat len)] 6)) (T3.setTop (mkF m 9 #[.val (.ref b), .val (.int (Int32.ofNat o)), .val (.int (Int32.ofNat len)), .val (.ref s.heap.size), .unset, .unset] [.int (Int32.ofNat len), .int 0, .ref s.heap.size, .int (Int32.ofNat o), .ref b])) := c4.trans (by
    refine XS.astoreN X3.here hexec rfl (hb hbytes d3) rfl rfl rfl ?_
    refine XS.aloadN X3.here hexec rfl (hb hbytes d4) rfl rfl ?_
    refine XS.iloadN X3.here hexec rfl (hb hbytes d5) rfl ?_
    refine XS.aloadN X3.here hexec rfl (hb hbytes d6) rfl rfl ?_
    refine iconstV X3.here hexec rfl 0 (hb hbytes d7) (by decide) ?_
    refine XS.iloadN X3.here hexec rfl (hb hbytes d8) rfl ?_
    exact Steps.refl _)
  obtain ⟨v6, T6, X6, E6, g6⟩ := X3.callS hexec (Cmp5.law l b A s.heap.size B3 o 0 len) hown (wks W (staticW U16 115 Cmp5.yN)) (wk W Cmp5.tab) (W := 0) (Nat.le_of_ble_eq_true rfl) (Nat.le_of_ble_eq_true rfl) (Nat.le_refl _) (by show 0 + len + 0 ≤ len; omega) (g := (mkF m 9 #[.val (.ref b), .val (.int (Int32.ofNat o)), .val (.int (Int32.ofNat len)), .val (.ref s.heap.size), .unset, .unset] [.int (Int32.ofNat len), .int (Int32.ofNat 0), .ref s.heap.size, .int (Int32.ofNat o), .ref b])) rfl (by rw [hml]; rfl) c5 (argsL := [.ref b, .int (Int32.ofNat o), .ref s.heap.size, .int (Int32.ofNat 0), .int (Int32.ofNat len)]) (rest := []) rfl rfl (by show 2 * 0 + 0 ≤ _; decide) (hb hbytes d9) (⟨rfl, hA3, ba3, hne, l1, by rw [bs3]; simp, hp⟩)
  obtain ⟨rfl, B6, p6, f6⟩ := E6
  have c7 : Steps p.tables e below (s₁.setTop (entryFrame m #[.ref b, .int (Int32.ofNat o), .int (Int32.ofNat len)] 6)) (T6.setTop (mkF m 12 #[.val (.ref b), .val (.int (Int32.ofNat o)), .val (.int (Int32.ofNat len)), .val (.ref s.heap.size), .unset, .unset] [.int (Int32.ofNat len)])) := g6
  have c8 : Steps p.tables e below (s₁.setTop (entryFrame m #[.ref b, .int (Int32.ofNat o), .int (Int32.ofNat len)] 6)) (T6.setTop (mkF m 58 #[.val (.ref b), .val (.int (Int32.ofNat o)), .val (.int (Int32.ofNat len)), .val (.ref s.heap.size), .val (.int (Int32.ofNat len)), .unset] [.ref s.heap.size])) := c7.trans (by
    refine XS.istore X6.here hexec rfl (hb hbytes d12) rfl rfl ?_
    refine XS.iload X6.here hexec rfl (hb hbytes d14) rfl ?_
    refine XS.iloadN X6.here hexec rfl (hb hbytes d16) rfl ?_
    refine XS.icmpYes X6.here hexec rfl (pc0 := 17) rfl (hb hbytes d17) rfl (ii_eq_t rfl) (by decide) rfl ?_
    refine XS.aloadN X6.here hexec rfl (hb hbytes d57) rfl rfl ?_
    exact Steps.refl _)
  have X8 := X6.wide (L' := []) (cells' := 1) (slots' := len) (fun x hx hlt => by
    simp only [List.nil_append, copyLocs, List.mem_map, List.mem_range] at hx
    obtain ⟨i, -, rfl⟩ := hx
    exact absurd hlt (Nat.lt_irrefl _)) (Nat.le_refl _) (by omega)
  exact ⟨T6, some (.ref s.heap.size), _, _, _, X8, rfl, rfl, rfl, (fun h => by cases h), ⟨⟨rfl, B6, ba3.like (X3.warmed.alike.symm.trans X6.warmed.alike) p6.1 f6.1 f6.2.1 f6.2.2.1, f6.2.1.trans bv3, by rw [X6.warmed.alike.findClass, f6.1]; exact bf3, by rw [f6.2.2.1, bs3]; simp, fun j hj => by rw [f6.2.2.2 j, if_pos (by omega)]; rfl, kp3.put p6 (Nat.le_refl _)⟩, by rw [p6.2.2, bh3, hh0]; simp⟩, fun fs hl => c8.trans (X8.areturnOut hexec rfl hret rfl (hb hbytes d58) hl)⟩
end Cmp3
namespace CodL
def yN : MethodName := ⟨"java/lang/StringUTF16", "coderFromArrayLen", "([BI)B"⟩
abbrev yB : ByteArray := jdk_52_method_15_code
theorem d0 : decode yB 0 = .ok (.iload_n 1, 1) := by decide +kernel
theorem d1 : decode yB 1 = .ok (.aload_n 0, 1) := by decide +kernel
theorem d2 : decode yB 2 = .ok (.arraylength, 1) := by decide +kernel
theorem d3 : decode yB 3 = .ok (.isub, 1) := by decide +kernel
theorem d4 : decode yB 4 = .ok (.bipush 31, 2) := by decide +kernel
theorem d6 : decode yB 6 = .ok (.iushr, 1) := by decide +kernel
theorem d7 : decode yB 7 = .ok (.i2b, 1) := by decide +kernel
theorem d8 : decode yB 8 = .ok (.ireturn, 1) := by decide +kernel
def site : List Cond := []
def tab : Cond := tabOf yN yB 2 (some .byte) site
def P (d : Addr) (B : Cell) (args : Array Value) (s : State) : Prop := args = #[.ref d, .int (Int32.ofNat B.slots.size)] ∧ Arr .byte d B s
def E (r : Option Value) (s u : State) : Prop := XT.PureE (some (.int 0)) r s u
/-- an array as long as the number of chars: LATIN1 -/
theorem law (l : Launch) (d : Addr) (B : Cell) : Law l yN 2 2 0 0 yB 2 (some .byte) site (P d B) E [] 0 0 := by
  refine Law.of_walk (plainFor_of_name (by decide +kernel)) (by decide +kernel) (by decide +kernel) (by decide) (fun _ _ h => by rw [h.1]; rfl) (fun _ U U' hal hh h => ⟨h.1, h.2.mv hal hh⟩) (fun r U U' V V' h1 hal h2 h => XT.PureE.mv r U U' V V' h1 hal h2 h) ?_
  intro p e s m args below meth c s₁ X0 hexec hbytes hml hret hlk hnm hown hh0 W hP
  obtain ⟨rfl, hB⟩ := hP
  have hB0 := hB.mv X0.warmed.alike hh0
  have c1 : Steps p.tables e below (s₁.setTop (entryFrame m #[.ref d, .int (Int32.ofNat B.slots.size)] 2)) (s₁.setTop (mkF m 0 #[.val (.ref d), .val (.int (Int32.ofNat B.slots.size))] [])) := entry rfl
  have c2 : Steps p.tables e below (s₁.setTop (entryFrame m #[.ref d, .int (Int32.ofNat B.slots.size)] 2)) (s₁.setTop (mkF m 2 #[.val (.ref d), .val (.int (Int32.ofNat B.slots.size))] [.ref d, .int (Int32.ofNat B.slots.size)])) := c1.trans (by
    refine XS.iloadN X0.here hexec rfl (hb hbytes d0) rfl ?_
    refine XS.aloadN X0.here hexec rfl (hb hbytes d1) rfl rfl ?_
    exact Steps.refl _)
  have c3 : Steps p.tables e below (s₁.setTop (entryFrame m #[.ref d, .int (Int32.ofNat B.slots.size)] 2)) (s₁.setTop (mkF m 8 #[.val (.ref d), .val (.int (Int32.ofNat B.slots.size))] [.int (lo8 (ushr (Int32.ofNat B.slots.size - Int32.ofNat B.slots.size) 31))])) := c2.trans (by
    refine X0.alen hexec hB0 rfl rfl (hb hbytes d2) ?_
    refine XS.isub X0.here hexec rfl (hb hbytes d3) rfl ?_
    refine bipushV X0.here hexec rfl 31 (hb hbytes d4) (by decide) ?_
    refine iushr X0.here hexec rfl (hb hbytes d6) rfl ?_
    refine i2b X0.here hexec rfl (hb hbytes d7) rfl ?_
    exact Steps.refl _)
  have e0 : lo8 (ushr (Int32.ofNat B.slots.size - Int32.ofNat B.slots.size) 31) = 0 := by rw [Int32.sub_self]; decide
  rw [e0] at c3
  exact ⟨s₁, some (.int 0), _, _, _, X0, rfl, rfl, rfl, (fun h => by cases h), ⟨rfl, hh0⟩, fun fs hl => c3.trans (X0.ireturnOut hexec hret rfl (Or.inr (Or.inr (Or.inl rfl))) (hb hbytes d8) hl)⟩
end CodL
/-- the String at a is Latin-1 over a new byte[] (the heap's one new cell): the low bytes of the len chars of A from o on; every cell but a is kept -/
def Got (a : Addr) (D : Cell) (fV fC : Field) (A : Cell) (o len : Nat) (r : Option Value) (s u : State) : Prop := r = none ∧ ∃ D' V : Cell, Blank "java/lang/String" a D' u ∧ Same D D' [fV.slot, fC.slot] ∧ D'.slots[fV.slot]? = some (.ref s.heap.size) ∧ D'.slots[fC.slot]? = some (.int 0) ∧ Arr .byte s.heap.size V u ∧ V.vm = .none ∧ u.vm.findClass "[B" = some V.cls ∧ V.slots.size = len ∧ (∀ j, j < len → V.slots[j]? = some (.int (lo8 (cv A (o + j))))) ∧ (∀ (y : Addr) (c : Cell), y ≠ a → s.heap[y]? = some c → u.heap[y]? = some c) ∧ u.heap.size = s.heap.size + 1
theorem Got.mv {a : Addr} {D A : Cell} {fV fC : Field} {o len : Nat} : ∀ r (U U' V V' : State), U'.heap = U.heap → V.vm.Alike V'.vm → V'.heap = V.heap → Got a D fV fC A o len r U V → Got a D fV fC A o len r U' V' :=
  fun r U U' V V' h1 hal h2 ⟨e0, D', X, a1, a2, a3, a4, a5, a6, a7, a8, a9, a10, a11⟩ => ⟨e0, D', X, a1.mv hal h2, a2, by rw [h1]; exact a3, a4, by rw [h1]; exact a5.mv hal h2, a6, by rw [hal.findClass]; exact a7, a8, a9, by rw [h1, h2]; exact a10, by rw [h1, h2]; exact a11⟩
namespace New4
def yN : MethodName := ⟨"java/lang/String", "<init>", "([CIILjava/lang/Void;)V"⟩
abbrev yB : ByteArray := jdk_42_method_149_code
theorem d0 : decode yB 0 = .ok (.aload_n 0, 1) := by decide +kernel
theorem d1 : decode yB 1 = .ok (.invokespecial 1, 3) := by decide +kernel
theorem d4 : decode yB 4 = .ok (.iload_n 3, 1) := by decide +kernel
theorem d5 : decode yB 5 = .ok (.ifCond (.ne) 22, 3) := by decide +kernel
theorem d27 : decode yB 27 = .ok (.getstatic 38, 3) := by decide +kernel
theorem d30 : decode yB 30 = .ok (.ifCond (.eq) 28, 3) := by decide +kernel
theorem d33 : decode yB 33 = .ok (.aload_n 1, 1) := by decide +kernel
theorem d34 : decode yB 34 = .ok (.iload_n 2, 1) := by decide +kernel
theorem d35 : decode yB 35 = .ok (.iload_n 3, 1) := by decide +kernel
theorem d36 : decode yB 36 = .ok (.invokestatic 177, 3) := by decide +kernel
theorem d39 : decode yB 39 = .ok (.astore 5, 2) := by decide +kernel
theorem d41 : decode yB 41 = .ok (.aload_n 0, 1) := by decide +kernel
theorem d42 : decode yB 42 = .ok (.aload 5, 2) := by decide +kernel
theorem d44 : decode yB 44 = .ok (.iload_n 3, 1) := by decide +kernel
theorem d45 : decode yB 45 = .ok (.invokestatic 47, 3) := by decide +kernel
theorem d48 : decode yB 48 = .ok (.putfield 15, 3) := by decide +kernel
theorem d51 : decode yB 51 = .ok (.aload_n 0, 1) := by decide +kernel
theorem d52 : decode yB 52 = .ok (.aload 5, 2) := by decide +kernel
theorem d54 : decode yB 54 = .ok (.putfield 9, 3) := by decide +kernel
theorem d57 : decode yB 57 = .ok (.return_, 1) := by decide +kernel
def site : List Cond := [.fieldLink "java/lang/String" 38 "java/lang/String" "COMPACT_STRINGS" "Z", Cmp3.tab, CodL.tab, .laysFinal "java/lang/String" "java/lang/String" "value" "[B", .fieldLink "java/lang/String" 9 "java/lang/String" "value" "[B", .laysFinal "java/lang/String" "java/lang/String" "coder" "B", .fieldLink "java/lang/String" 15 "java/lang/String" "coder" "B"] ++ objW "java/lang/String" 1 ++ staticW "java/lang/String" 177 Cmp3.yN ++ staticW "java/lang/String" 47 CodL.yN
def tab : Cond := tabOf yN yB 6 none site
def P (a : Addr) (D : Cell) (fV fC : Field) (b : Addr) (A : Cell) (z : Int32) (o len : Nat) (args : Array Value) (s : State) : Prop := args = #[.ref a, .ref b, .int (Int32.ofNat o), .int (Int32.ofNat len), .null] ∧ Blank "java/lang/String" a D s ∧ Found "java/lang/String" "value" "[B" fV s ∧ Found "java/lang/String" "coder" "B" fC s ∧ Ch b A s ∧ StaticIs s "java/lang/String" "COMPACT_STRINGS" "Z" (.int z) ∧ ¬ z = 0 ∧ 0 < len ∧ o + len ≤ A.slots.size ∧ len ≤ 536870912 ∧ ∀ i, i < len → ¬ 255 < cv A (o + i)
def E (a : Addr) (D : Cell) (fV fC : Field) (A : Cell) (o len : Nat) (r : Option Value) (s u : State) : Prop := Got a D fV fC A o len r s u
/-- len > 0, no char of the range above 255: a Latin-1 String of their low bytes -/
theorem law (l : Launch) (a : Addr) (D : Cell) (fV fC : Field) (b : Addr) (A : Cell) (z : Int32) (o len : Nat) : Law l yN 5 4 2 35 yB 6 none site (P a D fV fC b A z o len) (E a D fV fC A o len) [⟨a, fC.slot⟩, ⟨a, fV.slot⟩] 1 len := by
  refine Law.of_walk (plainFor_of_name (by decide +kernel)) (by decide +kernel) (by decide +kernel) (by decide) (fun _ _ h => by rw [h.1]; rfl) (fun _ U U' hal hh h => ⟨h.1, h.2.1.mv hal hh, h.2.2.1.al hal, h.2.2.2.1.al hal, h.2.2.2.2.1.mv hal hh, h.2.2.2.2.2.1.there hal hh, h.2.2.2.2.2.2⟩) (fun r U U' V V' h1 hal h2 h => Got.mv r U U' V V' h1 hal h2 h) ?_
  intro p e s m args below meth c s₁ X0 hexec hbytes hml hret hlk hnm hown hh0 W hP
  obtain ⟨rfl, hB, f1, f2, hA, s1, hz, l0, l1, l2, hp⟩ := hP
  have a31 := hA.1.2.2.2
  have c1 : Steps p.tables e below (s₁.setTop (entryFrame m #[.ref a, .ref b, .int (Int32.ofNat o), .int (Int32.ofNat len), .null] 6)) (s₁.setTop (mkF m 0 #[.val (.ref a), .val (.ref b), .val (.int (Int32.ofNat o)), .val (.int (Int32.ofNat len)), .val .null, .unset] [])) := entry rfl
  have c2 : Steps p.tables e below (s₁.setTop (entryFrame m #[.ref a, .ref b, .int (Int32.ofNat o), .int (Int32.ofNat len), .null] 6)) (s₁.setTop (mkF m 1 #[.val (.ref a), .val (.ref b), .val (.int (Int32.ofNat o)), .val (.int (Int32.ofNat len)), .val .null, .unset] [.ref a])) := c1.trans (by
    refine XS.aloadN X0.here hexec rfl (hb hbytes d0) rfl rfl ?_
    exact Steps.refl _)
  obtain ⟨T3, X3, q3, st3⟩ := X0.oinit hexec hown (wks W (objW "java/lang/String" 1)) (g := (mkF m 1 #[.val (.ref a), .val (.ref b), .val (.int (Int32.ofNat o)), .val (.int (Int32.ofNat len)), .val .null, .unset] [.ref a])) rfl (by rw [hml]; rfl) (rest := []) rfl (hb hbytes d1) (W := 0) (by show 2 * 0 + 0 ≤ _; decide) (Nat.le_of_ble_eq_true rfl) (Nat.le_of_ble_eq_true rfl)
  have hh3 := q3.trans hh0
  have c4 : Steps p.tables e below (s₁.setTop (entryFrame m #[.ref a, .ref b, .int (Int32.ofNat o), .int (Int32.ofNat len), .null] 6)) (T3.setTop (mkF m 27 #[.val (.ref a), .val (.ref b), .val (.int (Int32.ofNat o)), .val (.int (Int32.ofNat len)), .val .null, .unset] [])) := (c2.trans (st3 _ (Steps.refl _))).trans (by
    refine XS.iloadN X3.here hexec rfl (hb hbytes d4) rfl ?_
    refine XS.ifYes X3.here hexec rfl (pc0 := 5) rfl (hb hbytes d5) rfl (i0_ne_t (nz32 (by omega) l0)) (by decide) rfl ?_
    exact Steps.refl _)
  obtain ⟨T5, X5, q5, st5⟩ := X3.sget hexec hown (wk W (.fieldLink "java/lang/String" 38 "java/lang/String" "COMPACT_STRINGS" "Z")) s1 (fun _ _ h => by rw [hh3]; exact h) (g := (mkF m 27 #[.val (.ref a), .val (.ref b), .val (.int (Int32.ofNat o)), .val (.int (Int32.ofNat len)), .val .null, .unset] [])) rfl (hb hbytes d27)
  have hh5 := q5.trans hh3
  have c6 : Steps p.tables e below (s₁.setTop (entryFrame m #[.ref a, .ref b, .int (Int32.ofNat o), .int (Int32.ofNat len), .null] 6)) (T5.setTop (mkF m 30 #[.val (.ref a), .val (.ref b), .val (.int (Int32.ofNat o)), .val (.int (Int32.ofNat len)), .val .null, .unset] [.int z])) := c4.trans (st5 _ (Steps.refl _))
  have c7 : Steps p.tables e below (s₁.setTop (entryFrame m #[.ref a, .ref b, .int (Int32.ofNat o), .int (Int32.ofNat len), .null] 6)) (T5.setTop (mkF m 36 #[.val (.ref a), .val (.ref b), .val (.int (Int32.ofNat o)), .val (.int (Int32.ofNat len)), .val .null, .unset] [.int (Int32.ofNat len), .int (Int32.ofNat o), .ref b])) := c6.trans (by
    refine XS.ifNo X5.here hexec rfl (hb hbytes d30) rfl (i0_eq_f hz) ?_
    refine XS.aloadN X5.here hexec rfl (hb hbytes d33) rfl rfl ?_
    refine XS.iloadN X5.here hexec rfl (hb hbytes d34) rfl ?_
    refine XS.iloadN X5.here hexec rfl (hb hbytes d35) rfl ?_
    exact Steps.refl _)
  obtain ⟨v8, T8, X8, E8, g8⟩ := X5.callS hexec (Cmp3.law l b A o len) hown (wks W (staticW "java/lang/String" 177 Cmp3.yN)) (wk W Cmp3.tab) (W := 0) (Nat.le_of_ble_eq_true rfl) (Nat.le_of_ble_eq_true rfl) (Nat.le_refl _) (by show 0 + len ≤ len; omega) (g := (mkF m 36 #[.val (.ref a), .val (.ref b), .val (.int (Int32.ofNat o)), .val (.int (Int32.ofNat len)), .val .null, .unset] [.int (Int32.ofNat len), .int (Int32.ofNat o), .ref b])) rfl (by rw [hml]; rfl) c7 (argsL := [.ref b, .int (Int32.ofNat o), .int (Int32.ofNat len)]) (rest := []) rfl rfl (by show 2 * 0 + 0 ≤ _; decide) (hb hbytes d36) (⟨rfl, hA.mv X5.warmed.alike hh5, l1, l2, hp⟩)
  obtain ⟨e8, z8⟩ := E8
  obtain ⟨rfl, N, n1, n2, n3, n4, n5, n6⟩ := NewArr.mv _ T5 s _ _ hh5.symm (Vm.Alike.refl _) rfl e8
  rw [hh5] at z8
  have hB1 := hB.keep X8.warmed.alike (n6 _ _ hB.1)
  have hne : s.heap.size ≠ a := (Nat.ne_of_lt (Array.getElem?_eq_some_iff.mp hB.1).1).symm
  have c9 : Steps p.tables e below (s₁.setTop (entryFrame m #[.ref a, .ref b, .int (Int32.ofNat o), .int (Int32.ofNat len), .null] 6)) (T8.setTop (mkF m 39 #[.val (.ref a), .val (.ref b), .val (.int (Int32.ofNat o)), .val (.int (Int32.ofNat len)), .val .null, .unset] [.ref s.heap.size])) := g8
  have c10 : Steps p.tables e below (s₁.setTop (entryFrame m #[.ref a, .ref b, .int (Int32.ofNat o), .int (Int32.ofNat len), .null] 6)) (T8.setTop (mkF m 45 #[.val (.ref a), .val (.ref b), .val (.int (Int32.ofNat o)), .val (.int (Int32.ofNat len)), .val .null, .val (.ref s.heap.size)] [.int (Int32.ofNat N.slots.size), .ref s.heap.size, .ref a])) := by
    have hc : Steps p.tables e below (s₁.setTop (entryFrame m #[.ref a, .ref b, .int (Int32.ofNat o), .int (Int32.ofNat len), .null] 6)) (T8.setTop (mkF m 45 #[.val (.ref a), .val (.ref b), .val (.int (Int32.ofNat o)), .val (.int (Int32.ofNat len)), .val .null, .val (.ref s.heap.size)] [.int (Int32.ofNat len), .ref s.heap.size, .ref a])) := c9.trans (by
      refine XS.astore X8.here hexec rfl (hb hbytes d39) rfl rfl rfl ?_
      refine XS.aloadN X8.here hexec rfl (hb hbytes d41) rfl rfl ?_
      refine XS.aload X8.here hexec rfl (hb hbytes d42) rfl rfl ?_
      refine XS.iloadN X8.here hexec rfl (hb hbytes d44) rfl ?_
      exact Steps.refl _)
    rw [n4]; exact hc
  obtain ⟨v11, T11, X11, E11, g11⟩ := X8.callS hexec (CodL.law l s.heap.size N) hown (wks W (staticW "java/lang/String" 47 CodL.yN)) (wk W CodL.tab) (W := 1) (Nat.le_of_ble_eq_true rfl) (Nat.le_of_ble_eq_true rfl) (Nat.le_refl _) (by show 0 + len + 0 ≤ len; omega) (g := (mkF m 45 #[.val (.ref a), .val (.ref b), .val (.int (Int32.ofNat o)), .val (.int (Int32.ofNat len)), .val .null, .val (.ref s.heap.size)] [.int (Int32.ofNat N.slots.size), .ref s.heap.size, .ref a])) rfl (by rw [hml]; rfl) c10 (argsL := [.ref s.heap.size, .int (Int32.ofNat N.slots.size)]) (rest := [.ref a]) rfl rfl (by show 2 * 0 + (1 + 0) ≤ _; decide) (hb hbytes d45) (⟨rfl, n1⟩)
  obtain ⟨rfl, q11⟩ := E11
  have hB11 := hB1.mv (X8.warmed.alike.symm.trans X11.warmed.alike) q11
  have c12 : Steps p.tables e below (s₁.setTop (entryFrame m #[.ref a, .ref b, .int (Int32.ofNat o), .int (Int32.ofNat len), .null] 6)) (T11.setTop (mkF m 48 #[.val (.ref a), .val (.ref b), .val (.int (Int32.ofNat o)), .val (.int (Int32.ofNat len)), .val .null, .val (.ref s.heap.size)] [.int 0, .ref a])) := g11
  obtain ⟨T13, X13, p13, bl13, sl13, st13⟩ := X11.finit hexec hown (wk W (.fieldLink "java/lang/String" 15 "java/lang/String" "coder" "B")) (Or.inr ⟨_, (wk W (.laysFinal "java/lang/String" "java/lang/String" "coder" "B"))⟩) (Or.inl ⟨rfl, hnm⟩) f2 (Or.inl rfl) hB11 (t := .byte) (by decide +kernel) rfl (g := (mkF m 48 #[.val (.ref a), .val (.ref b), .val (.int (Int32.ofNat o)), .val (.int (Int32.ofNat len)), .val .null, .val (.ref s.heap.size)] [.int 0, .ref a])) rfl (rest := []) rfl (hb hbytes d48)
  have c14 : Steps p.tables e below (s₁.setTop (entryFrame m #[.ref a, .ref b, .int (Int32.ofNat o), .int (Int32.ofNat len), .null] 6)) (T13.setTop (mkF m 54 #[.val (.ref a), .val (.ref b), .val (.int (Int32.ofNat o)), .val (.int (Int32.ofNat len)), .val .null, .val (.ref s.heap.size)] [.ref s.heap.size, .ref a])) := (c12.trans (st13 _ (Steps.refl _))).trans (by
    refine XS.aloadN X13.here hexec rfl (hb hbytes d51) rfl rfl ?_
    refine XS.aload X13.here hexec rfl (hb hbytes d52) rfl rfl ?_
    exact Steps.refl _)
  obtain ⟨T15, X15, p15, bl15, sl15, st15⟩ := X13.finit hexec hown (wk W (.fieldLink "java/lang/String" 9 "java/lang/String" "value" "[B")) (Or.inr ⟨_, (wk W (.laysFinal "java/lang/String" "java/lang/String" "value" "[B"))⟩) (Or.inl ⟨rfl, hnm⟩) f1 (Or.inl rfl) bl13 (t := (.array .byte)) (by decide +kernel) rfl (g := (mkF m 54 #[.val (.ref a), .val (.ref b), .val (.int (Int32.ofNat o)), .val (.int (Int32.ofNat len)), .val .null, .val (.ref s.heap.size)] [.ref s.heap.size, .ref a])) rfl (rest := []) rfl (hb hbytes d54)
  have c16 : Steps p.tables e below (s₁.setTop (entryFrame m #[.ref a, .ref b, .int (Int32.ofNat o), .int (Int32.ofNat len), .null] 6)) (T15.setTop (mkF m 57 #[.val (.ref a), .val (.ref b), .val (.int (Int32.ofNat o)), .val (.int (Int32.ofNat len)), .val .null, .val (.ref s.heap.size)] [])) := c14.trans (st15 _ (Steps.refl _))
  have ap := apart (Or.inr ⟨_, (wk W (.laysFinal "java/lang/String" "java/lang/String" "value" "[B"))⟩) (Or.inr ⟨_, (wk W (.laysFinal "java/lang/String" "java/lang/String" "coder" "B"))⟩) f1 f2 (t₁ := .array .byte) (t₂ := .byte) (by decide +kernel) (by decide +kernel) (by decide)
  have al := X8.warmed.alike.symm.trans X15.warmed.alike
  have n7 : T11.heap[s.heap.size]? = some N := by rw [q11]; exact n1.1
  exact ⟨T15, none, _, _, _, X15, by simp, rfl, by omega, (fun _ => rfl), ⟨rfl, _, N, bl15, ((Same.refl D _).set _ (by simp)).set _ (by simp), sl15, (Cell.slots_setSlot_ne _ ap).trans sl13, n1.keep al (p15.other hne (p13.other hne n7)), n2, by rw [al.findClass]; exact n3, n4, n5, fun y c h1 h2 => p15.other h1 (p13.other h1 (by rw [q11]; exact n6 y c h2)), by rw [p15.2.2, p13.2.2, q11]; exact z8⟩, fun fs hl => c16.trans (X15.returnOut hexec hret (hb hbytes d57) hl)⟩
end New4
namespace New1
def yN : MethodName := ⟨"java/lang/String", "<init>", "([C)V"⟩
abbrev yB : ByteArray := jdk_42_method_3_code
theorem d0 : decode yB 0 = .ok (.aload_n 0, 1) := by decide +kernel
theorem d1 : decode yB 1 = .ok (.aload_n 1, 1) := by decide +kernel
theorem d2 : decode yB 2 = .ok (.iconst 0, 1) := by decide +kernel
theorem d3 : decode yB 3 = .ok (.aload_n 1, 1) := by decide +kernel
theorem d4 : decode yB 4 = .ok (.arraylength, 1) := by decide +kernel
theorem d5 : decode yB 5 = .ok (.aconst_null, 1) := by decide +kernel
theorem d6 : decode yB 6 = .ok (.invokespecial 27, 3) := by decide +kernel
theorem d9 : decode yB 9 = .ok (.return_, 1) := by decide +kernel
def site : List Cond := [New4.tab] ++ initW "java/lang/String" 27 New4.yN
def tab : Cond := tabOf yN yB 2 none site
def P (a : Addr) (D : Cell) (fV fC : Field) (b : Addr) (A : Cell) (z : Int32) (args : Array Value) (s : State) : Prop := args = #[.ref a, .ref b] ∧ Blank "java/lang/String" a D s ∧ Found "java/lang/String" "value" "[B" fV s ∧ Found "java/lang/String" "coder" "B" fC s ∧ Ch b A s ∧ StaticIs s "java/lang/String" "COMPACT_STRINGS" "Z" (.int z) ∧ ¬ z = 0 ∧ 0 < A.slots.size ∧ A.slots.size ≤ 536870912 ∧ ∀ i, i < A.slots.size → ¬ 255 < cv A i
def E (a : Addr) (D : Cell) (fV fC : Field) (A : Cell) (r : Option Value) (s u : State) : Prop := Got a D fV fC A 0 A.slots.size r s u
/-- new String(chars), not empty, no char above 255: a Latin-1 String of their low bytes -/
theorem law (l : Launch) (a : Addr) (D : Cell) (fV fC : Field) (b : Addr) (A : Cell) (z : Int32) : Law l yN 2 1 3 52 yB 2 none site (P a D fV fC b A z) (E a D fV fC A) [⟨a, fC.slot⟩, ⟨a, fV.slot⟩] 1 A.slots.size := by
  refine Law.of_walk (plainFor_of_name (by decide +kernel)) (by decide +kernel) (by decide +kernel) (by decide) (fun _ _ h => by rw [h.1]; rfl) (fun _ U U' hal hh h => ⟨h.1, h.2.1.mv hal hh, h.2.2.1.al hal, h.2.2.2.1.al hal, h.2.2.2.2.1.mv hal hh, h.2.2.2.2.2.1.there hal hh, h.2.2.2.2.2.2⟩) (fun r U U' V V' h1 hal h2 h => Got.mv r U U' V V' h1 hal h2 h) ?_
  intro p e s m args below meth c s₁ X0 hexec hbytes hml hret hlk hnm hown hh0 W hP
  obtain ⟨rfl, hB, f1, f2, hA, s1, hz, l0, l2, hp⟩ := hP
  have c1 : Steps p.tables e below (s₁.setTop (entryFrame m #[.ref a, .ref b] 2)) (s₁.setTop (mkF m 0 #[.val (.ref a), .val (.ref b)] [])) := entry rfl
  have c2 : Steps p.tables e below (s₁.setTop (entryFrame m #[.ref a, .ref b] 2)) (s₁.setTop (mkF m 6 #[.val (.ref a), .val (.ref b)] [.null, .int (Int32.ofNat A.slots.size), .int 0, .ref b, .ref a])) := c1.trans (by
    refine XS.aloadN X0.here hexec rfl (hb hbytes d0) rfl rfl ?_
    refine XS.aloadN X0.here hexec rfl (hb hbytes d1) rfl rfl ?_
    refine iconstV X0.here hexec rfl 0 (hb hbytes d2) (by decide) ?_
    refine XS.aloadN X0.here hexec rfl (hb hbytes d3) rfl rfl ?_
    refine X0.alen hexec (hA.1.mv X0.warmed.alike hh0) rfl rfl (hb hbytes d4) ?_
    refine XS.aconstNull X0.here hexec rfl (hb hbytes d5) ?_
    exact Steps.refl _)
  obtain ⟨v3, T3, X3, E3, g3⟩ := X0.callN hexec (New4.law l a D fV fC b A z 0 A.slots.size) rfl hown (wks W (initW "java/lang/String" 27 New4.yN)) (W New4.tab (by simp only [site, List.mem_cons, List.mem_append, true_or, or_true])) (W := 0) (Nat.le_of_ble_eq_true rfl) (Nat.le_of_ble_eq_true rfl) (Nat.le_refl _) (by show 0 + A.slots.size ≤ A.slots.size; omega) (g := (mkF m 6 #[.val (.ref a), .val (.ref b)] [.null, .int (Int32.ofNat A.slots.size), .int (Int32.ofNat 0), .ref b, .ref a])) rfl (by rw [hml]; rfl) c2 (argsL := [.ref b, .int (Int32.ofNat 0), .int (Int32.ofNat A.slots.size), .null]) (rest := []) rfl rfl (by show 2 * 0 + 0 ≤ _; decide) (hb hbytes d6) (⟨rfl, hB.mv X0.warmed.alike hh0, f1.al X0.warmed.alike, f2.al X0.warmed.alike, hA.mv X0.warmed.alike hh0, s1.there X0.warmed.alike hh0, hz, l0, by omega, l2, fun i hi => by rw [Nat.zero_add]; exact hp i hi⟩)
  have e0 := Got.mv _ s₁ s _ _ hh0.symm (Vm.Alike.refl _) rfl E3
  obtain rfl := e0.1
  have c4 : Steps p.tables e below (s₁.setTop (entryFrame m #[.ref a, .ref b] 2)) (T3.setTop (mkF m 9 #[.val (.ref a), .val (.ref b)] [])) := g3
  exact ⟨T3, none, _, _, _, X3, by simp, rfl, by omega, (fun _ => rfl), e0, fun fs hl => c4.trans (X3.returnOut hexec hret (hb hbytes d9) hl)⟩
theorem pays {l : Launch} {R : Room} {p : Program} {e : Env} {below : List Frame} {s : State} {sargs : Array Value} {len W : Nat} (a : Addr) (D : Cell) (fV fC : Field) (b : Addr) (A : Cell) (z : Int32) (htab : tab.before sargs s = true) (hfr : 4 ≤ R.frames) (hlo : W + 65 ≤ R.locals) :
    Back l R p e below s sargs yN len W (fun A₁ a₁ => A₁.cells + 1 ≤ R.cells ∧ A₁.slots + A.slots.size ≤ R.slots ∧ P a D fV fC b A z a₁ A₁.U) (fun A₁ _ v₁ B₁ => E a D fV fC A v₁ A₁.U B₁.U ∧ B₁.locs = A₁.locs ++ [⟨a, fC.slot⟩, ⟨a, fV.slot⟩] ∧ B₁.cells = A₁.cells + 1 ∧ B₁.slots = A₁.slots + A.slots.size) :=
  (law l a D fV fC b A z).pays htab hfr (by omega)
end New1
/-- the byte, read back as charAt reads it, is the char -/
theorem lo8_mask {x : Int32} (h0 : ¬ x < 0) (h1 : ¬ 255 < x) : lo8 x &&& 255 = x := by
  have t : ∀ k : Fin 256, lo8 (Int32.ofNat k.val) &&& 255 = Int32.ofNat k.val := by decide +kernel
  rw [Int32.lt_iff_toInt_lt] at h0 h1
  have e0 : (0 : Int32).toInt = 0 := rfl
  have e1 : (255 : Int32).toInt = 255 := rfl
  obtain ⟨k, hk⟩ : ∃ k : Nat, x.toInt = k := ⟨x.toInt.toNat, by omega⟩
  have hx : x = Int32.ofNat k := Int32.toInt_inj.mp (by rw [hk, Int32.toInt_ofNat_small (by omega)])
  rw [hx]
  exact t ⟨k, by omega⟩
end StrChars
namespace StrChars.Road
open Jvm Sem ClassFile Op Lib Jvm.Stand Jvm.Free Jvm.Free.XT
open Jvm.Lib.Cold (StaticIs)
abbrev ST : String := "java/lang/String"
/-- every table word that New1's law asks, flat -/
abbrev words : List Jvm.Cond := [.code New1.yN New1.yB 2 none, .initialized ST, .methodLink ST 27 New4.yN, .instanceMethod New4.yN,
  .code New4.yN New4.yB 6 none, .fieldLink ST 38 ST "COMPACT_STRINGS" "Z", .laysFinal ST ST "value" "[B", .fieldLink ST 9 ST "value" "[B", .laysFinal ST ST "coder" "B", .fieldLink ST 15 ST "coder" "B",
  .methodLink ST 1 Lib.objectInit, .instanceMethod Lib.objectInit, .code Lib.objectInit ⟨#[0xb1]⟩ 1 none, .methodLink ST 177 Cmp3.yN, .static Cmp3.yN, .methodLink ST 47 CodL.yN, .static CodL.yN,
  .code Cmp3.yN Cmp3.yB 6 (some (.array .byte)), .initialized U16, .arrayClass .byte, .methodLink U16 115 Cmp5.yN, .static Cmp5.yN, .code Cmp5.yN Cmp5.yB 7 (some .int), .code CodL.yN CodL.yB 2 (some .byte)]
theorem tab_of {a : Array Value} {s : State} (h : ∀ w ∈ words, w.before a s = true) : New1.tab.before a s = true := by
  have h5 : Cmp5.tab.before a s = true := unparts (wk h (.code Cmp5.yN Cmp5.yB 7 (some .int))) (wks h (.initialized Cmp5.yN.cls :: Cmp5.site))
  have hc : CodL.tab.before a s = true := unparts (wk h (.code CodL.yN CodL.yB 2 (some .byte))) (wks h (.initialized CodL.yN.cls :: CodL.site))
  have q5 : ∀ w ∈ Cmp5.tab :: words, w.before a s = true := fun w hw => (List.mem_cons.mp hw).elim (fun e => e ▸ h5) (h w)
  have h3 : Cmp3.tab.before a s = true := unparts (wk q5 (.code Cmp3.yN Cmp3.yB 6 (some (.array .byte)))) (wks q5 (.initialized Cmp3.yN.cls :: Cmp3.site))
  have q3 : ∀ w ∈ Cmp3.tab :: CodL.tab :: words, w.before a s = true := fun w hw => (List.mem_cons.mp hw).elim (fun e => e ▸ h3) fun hw => (List.mem_cons.mp hw).elim (fun e => e ▸ hc) (h w)
  have h4 : New4.tab.before a s = true := unparts (wk q3 (.code New4.yN New4.yB 6 none)) (wks q3 (.initialized New4.yN.cls :: New4.site))
  have q4 : ∀ w ∈ New4.tab :: words, w.before a s = true := fun w hw => (List.mem_cons.mp hw).elim (fun e => e ▸ h4) (h w)
  exact unparts (wk q4 (.code New1.yN New1.yB 2 none)) (wks q4 (.initialized New1.yN.cls :: New1.site))
/-- the words ride from the start Z to the walk's own state -/
theorem moved {Z s : State} {a0 args : Array Value} (hZ : Z.Warmed39 s.vm) (hw : ∀ d ∈ words, d.before a0 Z = true) : ∀ d ∈ words, d.before args s = true := fun d hd => by
  have q := hw d hd
  have t : ∀ d ∈ words, d = .arrayClass .byte ∨ (d.onTables && d.keepsFace) = true := by decide +kernel
  rcases t d hd with rfl | t
  · exact RoadKit.mvA hZ q
  · exact RoadKit.mv hZ q t
/-- WHAT COMES BACK, over the tables of the start Z: h the heap at the call, h' behind it -/
def Q (Z : State) (x : Addr) (A : Cell) (h : Heap) (v : Option Value) (h' : Heap) (L : List Loc) : Prop := v = none ∧ (∀ y ∈ L, y.base = x) ∧ RoadKit.Keep h h' [x] ∧ h'.size = h.size + 1 ∧ RoadKit.Exa Z h' x ST ∧ RoadKit.Fld Z h' x ST "value" "[B" (.ref h.size) ∧ RoadKit.Fld Z h' x ST "coder" "B" (.int 0) ∧
  (∃ V : Cell, RoadKit.Arr Z h' h.size V .byte ∧ V.vm = .none ∧ Z.vm.findClass "[B" = some V.cls ∧ V.slots.size = A.slots.size ∧ ∀ j, j < A.slots.size → V.slots[j]? = some (.int (lo8 (cv A j)))) ∧
  ∀ (O n d : String) (w : Value), RoadKit.Fld Z h x O n d w → RoadKit.slotOf Z O n d ≠ RoadKit.slotOf Z ST "value" "[B" → RoadKit.slotOf Z O n d ≠ RoadKit.slotOf Z ST "coder" "B" → RoadKit.Fld Z h' x O n d w
/-- **new String(chars) AT A CALL, IN THE ROAD'S FORM**: for specialBack behind newO: x the fresh String, b the char[] with the cell A -/
theorem back {p : Program} {l : Launch} {e : Env} {R : Room} {s : State} {args : Array Value} {below : List Frame} {len W : Nat} {Z : State} {a0 : Array Value} {h : Heap} (hZ : Z.Warmed39 s.vm) (hw : ∀ d ∈ words, d.before a0 Z = true) {kI : Nat} (wi : (Jvm.Cond.instantiable ST kI).before a0 Z = true)
    {x b : Addr} {A : Cell} {z : Int32} {v0 c0 : Value} (E : RoadKit.Exa Z h x ST) (V : RoadKit.Fld Z h x ST "value" "[B" v0) (C : RoadKit.Fld Z h x ST "coder" "B" c0) (K : RoadKit.Arr Z h b A .char) (hty : Typed .char A) (S : RoadKit.Sta Z h ST "COMPACT_STRINGS" "Z" (.int z)) (hz : ¬ z = 0)
    (l0 : 0 < A.slots.size) (l2 : A.slots.size ≤ 536870912) (hp : ∀ i, i < A.slots.size → ¬ 255 < cv A i) (hfr : 4 ≤ R.frames) (hlo : W + 65 ≤ R.locals) :
    Back l R p e below s args New1.yN len W (fun P a => a = #[.ref x, .ref b] ∧ P.U.heap = h ∧ P.cells + 1 ≤ R.cells ∧ P.slots + A.slots.size ≤ R.slots)
      (fun P _ v B => ∃ L, Q Z x A h v B.U.heap L ∧ B.locs = P.locs ++ L ∧ B.cells = P.cells + 1 ∧ B.slots = P.slots + A.slots.size) := by
  intro m meth c P g ig mk a X hg hsize hdg hW hn hp'
  obtain ⟨rfl, rfl, r1, r2⟩ := hp'
  have al : Z.vm.Alike P.U.vm := hZ.alike.trans X.warmed.alike
  obtain ⟨D, cfV, kV, iV, fV, hD, gV, stV, knV, obV, asV, slV⟩ := id V
  obtain ⟨D', cfC, kC, iC, fC, hD', gC, stC, -, -, asC, slC⟩ := id C
  cases hD.symm.trans hD'
  obtain ⟨D2, kD, e1, e2, e3, e4, e5⟩ := id E
  cases hD.symm.trans e1
  obtain ⟨c2, k2, i1, i2, i3, -⟩ := Cond.instantiable_spec wi
  cases e2.symm.trans i1
  cases e3.symm.trans i2
  obtain ⟨kU, u1, u2⟩ := al.2.2 _ _ e3
  have hB : Blank ST x D P.U := ⟨hD, ⟨knV, fun q hq => by rw [hq] at obV; cases obV⟩, by rw [al.findClass]; exact e2, kU, u1, by rw [u2]; exact i3, by rw [u2]; exact e5 i3⟩
  have F1 : Found ST "value" "[B" fV P.U := ⟨SBG.found_only al ⟨cfV, kV, iV, gV⟩, stV⟩
  have F2 : Found ST "coder" "B" fC P.U := ⟨SBG.found_only al ⟨cfC, kC, iC, gC⟩, stC⟩
  have hA : Ch b A P.U := ⟨⟨K.1, State.isArrayOf_alike al K.2.1, K.2.2, by omega⟩, hty⟩
  have hS : StaticIs P.U ST "COMPACT_STRINGS" "Z" (.int z) := by
    obtain ⟨cfS, iS, kS, fS, st, cS, t1, t2, t3, t4, t5, t6, t7⟩ := S
    exact StaticIs.there (s := { Z with heap := P.U.heap }) ⟨cfS, iS, kS, fS, st, cS, t1, t2, t3, t4, t5, (fun q => by rw [q] at t6; cases t6), t7⟩ al rfl
  obtain ⟨v, B, X', ⟨⟨hv, E', V', q1, q2, q3, q4, q5, q6, q7, q8, q9, q10, q11⟩, hl, hc, hs⟩, st⟩ := New1.pays x D fV fC b A z (tab_of (moved hZ hw)) hfr hlo m meth c P g ig mk _ X hg hsize hdg hW hn ⟨r1, r2, rfl, hB, F1, F2, hA, hS, hz, l0, l2, hp⟩
  have al' : Z.vm.Alike B.U.vm := hZ.alike.trans X'.warmed.alike
  have hsz : E'.slots.size = D.slots.size := by
    obtain ⟨-, -, -, kB, w1, w2, w3⟩ := q1
    obtain ⟨kB', y1, y2⟩ := al'.2.2 _ _ e3
    rw [q2.2.1] at w1
    cases w1.symm.trans y1
    rw [w3, e5 i3, y2]
  refine ⟨v, B, X', ⟨_, ⟨hv, ?_, ⟨by omega, fun y cy hy hn' => q10 y cy (by simpa using hn') hy, fun y cy hy => ?_⟩, q11, ⟨E', _, q1.1, by rw [q2.2.1]; exact e2, by rw [q2.2.1]; exact e3, by rw [q2.1]; exact obV, fun _ => by rw [hsz]; exact e5 i3⟩,
    ⟨E', cfV, kV, iV, fV, q1.1, gV, stV, by rw [q2.1]; exact knV, by rw [q2.1]; exact obV, by rw [q2.2.1]; exact asV, q3⟩, ⟨E', cfC, kC, iC, fC, q1.1, gC, stC, by rw [q2.1]; exact knV, by rw [q2.1]; exact obV, by rw [q2.2.1]; exact asC, q4⟩,
    ⟨V', ⟨q5.1, State.isArrayOf_alike al'.symm q5.2.1, q5.2.2.1⟩, q6, by rw [← al'.findClass]; exact q7, q8, fun j hj => by have := q9 j hj; rwa [Nat.zero_add] at this⟩, fun O n d w F n1 n2 => ?_⟩, hl, hc, hs⟩, st⟩
  · intro y hy
    simp only [List.mem_cons, List.not_mem_nil, or_false] at hy
    rcases hy with rfl | rfl <;> rfl
  · by_cases q : y = x
    · subst q
      cases hD.symm.trans hy
      exact ⟨E', q1.1, q2.2.1, q2.1, hsz⟩
    · exact ⟨cy, q10 y cy q hy, rfl, rfl, rfl⟩
  · obtain ⟨D3, cf, k, i, f, g1, g2, g3, g4, g5, g6, g7⟩ := F
    cases hD.symm.trans g1
    simp only [RoadKit.slotOf, g2, gV, gC, Option.map_some, Option.getD_some] at n1 n2
    exact ⟨E', cf, k, i, f, q1.1, g2, g3, by rw [q2.1]; exact g4, by rw [q2.1]; exact g5, by rw [q2.2.1]; exact g6, by rw [q2.2.2 f.slot (by simp [n1, n2])]; exact g7⟩
end StrChars.Road
namespace StrChars.Road
open Jvm Sem ClassFile Op Lib Jvm.Stand Jvm.Free Jvm.Free.XT
/-- WHAT COMES BACK, the byte[] as a list of values -/
def QA (Z : State) (x : Addr) (zn : Int32) (cs : List Int32) (h : Heap) (v : Option Value) (h' : Heap) (L : List Loc) : Prop := v = none ∧ (∀ y ∈ L, y.base = x) ∧ RoadKit.Keep h h' [x] ∧ h'.size = h.size + 1 ∧ RoadKit.Exa Z h' x ST ∧ RoadKit.Fld Z h' x ST "value" "[B" (.ref h.size) ∧ RoadKit.Fld Z h' x ST "coder" "B" (.int 0) ∧
  (∃ kb, Z.vm.findClass "[B" = some kb ∧ RoadKit.Arv Z h' h.size kb .byte zn (cs.map fun c => .int (lo8 c)) (.int 0)) ∧
  ∀ (O n d : String) (w : Value), RoadKit.Fld Z h x O n d w → RoadKit.slotOf Z O n d ≠ RoadKit.slotOf Z ST "value" "[B" → RoadKit.slotOf Z O n d ≠ RoadKit.slotOf Z ST "coder" "B" → RoadKit.Fld Z h' x O n d w
/-- **new String(chars) AT A CALL, THE ARRAYS AS LISTS**: the char[] at b holds cs, not empty, no char above 255 -/
theorem backArv {p : Program} {l : Launch} {e : Env} {R : Room} {s : State} {args : Array Value} {below : List Frame} {len W : Nat} {Z : State} {a0 : Array Value} {h : Heap} (hZ : Z.Warmed39 s.vm) (hw : ∀ d ∈ words, d.before a0 Z = true) {kI : Nat} (wi : (Jvm.Cond.instantiable ST kI).before a0 Z = true)
    {x b : Addr} {k : ClassId} {zn z : Int32} {cs : List Int32} {dv v0 c0 : Value} (E : RoadKit.Exa Z h x ST) (V : RoadKit.Fld Z h x ST "value" "[B" v0) (C : RoadKit.Fld Z h x ST "coder" "B" c0) (K : RoadKit.Arv Z h b k .char zn (cs.map Value.int) dv) (S : RoadKit.Sta Z h ST "COMPACT_STRINGS" "Z" (.int z)) (hz : ¬ z = 0)
    (hlen : zn.toNatClampNeg = cs.length) (h0 : 0 < cs.length) (hbig : cs.length ≤ 536870912) (hall : ∀ c ∈ cs, ¬ 255 < c) (hfr : 4 ≤ R.frames) (hlo : W + 65 ≤ R.locals) :
    Back l R p e below s args New1.yN len W (fun P a => a = #[.ref x, .ref b] ∧ P.U.heap = h ∧ P.cells + 1 ≤ R.cells ∧ P.slots + cs.length ≤ R.slots)
      (fun P _ v B => ∃ L, QA Z x zn cs h v B.U.heap L ∧ B.locs = P.locs ++ L ∧ B.cells = P.cells + 1 ∧ B.slots = P.slots + cs.length) := by
  obtain ⟨A, K1, K2, K3, K4, K5, K6⟩ := K
  have e : A.slots.size = cs.length := K3.trans hlen
  have hat : ∀ (i : Nat) (hi : i < cs.length), A.slots[i]? = some (.int cs[i]) := fun i hi => by rw [K5 i (by omega)]; simp [List.getD_eq_getElem?_getD, hi]
  have hcv : ∀ (i : Nat) (hi : i < cs.length), cv A i = cs[i] := fun i hi => by unfold cv; rw [hat i hi]
  have hty : Typed .char A := fun i v hv => by
    have hi : i < A.slots.size := (Array.getElem?_eq_some_iff.mp hv).1
    have q := K5 i hi
    rw [hv] at q
    rw [Option.some.inj q]
    exact K6 i hi
  refine Back.mono (back hZ hw wi E V C K1 hty S hz (by omega) (by omega) (fun i hi => by rw [hcv i (by omega)]; exact hall _ (List.getElem_mem _)) hfr hlo) (fun P a hp => ⟨hp.1, hp.2.1, hp.2.2.1, by rw [e]; exact hp.2.2.2⟩) (fun P a v B hp hq => ?_)
  obtain ⟨L, ⟨q1, q2, q3, q4, q5, q6, q7, ⟨V', v1, v2, v3, v4, v5⟩, q9⟩, hl, hc, hs⟩ := hq
  refine ⟨L, ⟨q1, q2, q3, q4, q5, q6, q7, ⟨V'.cls, v3, V', v1, rfl, by rw [v4, e, hlen], K4, fun i hi => ?_, fun i hi => ?_⟩, q9⟩, hl, hc, by rw [hs, e]⟩
  · have hi' : i < cs.length := by omega
    rw [v5 i (by omega), hcv i hi']; simp [List.getD_eq_getElem?_getD, hi']
  · have hi' : i < cs.length := by omega
    simp only [List.getD_eq_getElem?_getD, List.getElem?_map, List.getElem?_eq_getElem hi', Option.map_some, Option.getD_some]
    exact fits_lo8 _
end StrChars.Road
namespace StrChars.Road
open Jvm Sem ClassFile Op Lib Jvm.Stand Jvm.Free Jvm.Free.XT
/-- WHAT COMES BACK, in the writer's own shape -/
def QV (Z : State) (x : Addr) (N : Int32) (bs : List Int32) (h : Heap) (n0 : Nat) (v : Option Value) (h' : Heap) (L : List Loc) : Prop := v = none ∧ RoadKit.Fr n0 L ∧ RoadKit.Keep h h' [x] ∧ RoadKit.Exa Z h' x ST ∧ RoadKit.Fld Z h' x ST "coder" "B" (.int 0) ∧
  ∃ (t : Addr) (kb : ClassId), n0 ≤ t ∧ h.size ≤ t ∧ ¬ t = x ∧ RoadKit.Fld Z h' x ST "value" "[B" (.ref t) ∧ RoadKit.Arv Z h' t kb .byte N (bs.map Value.int) (.int 0)
/-- **new String(chars) AT A CALL, FOR THE WRITER**: a char[] of n known ints, each 0 to 255 -/
theorem backV {p : Program} {l : Launch} {e : Env} {R : Room} {s : State} {args : Array Value} {below : List Frame} {len W : Nat} {Z : State} {a0 : Array Value} {h : Heap} (hZ : Z.Warmed39 s.vm) (hw : ∀ d ∈ words, d.before a0 Z = true) {kI : Nat} (wi : (Jvm.Cond.instantiable ST kI).before a0 Z = true)
    {x b : Addr} {kC : ClassId} {cs bs : List Int32} {d v0 c0 : Value} {z N : Int32} {n n0 : Nat} (hx0 : n0 ≤ x) (hh0 : n0 ≤ h.size) (E : RoadKit.Exa Z h x ST) (V : RoadKit.Fld Z h x ST "value" "[B" v0) (C : RoadKit.Fld Z h x ST "coder" "B" c0) (K : RoadKit.Arv Z h b kC .char N (cs.map Value.int) d) (S : RoadKit.Sta Z h ST "COMPACT_STRINGS" "Z" (.int z)) (hz : ¬ z = 0)
    (hn : cs.length = n) (hN : N = Int32.ofNat n) (l0 : 0 < n) (l2 : n ≤ 4000) (hp : ∀ c ∈ cs, ¬ c < 0 ∧ ¬ (255 : Int32) < c) (hb : bs = cs.map (fun c => c.toInt8.toInt32)) (hfr : 4 ≤ R.frames) (hlo : W + 65 ≤ R.locals) :
    Back l R p e below s args (⟨"java/lang/String", "<init>", "([C)V"⟩ : MethodName) len W (fun P a => a = #[.ref x, .ref b] ∧ P.U.heap = h ∧ P.cells + 1 ≤ R.cells ∧ P.slots + n ≤ R.slots)
      (fun P _ v B => ∃ L, QV Z x N bs h n0 v B.U.heap L ∧ B.locs = P.locs ++ L ∧ B.cells = P.cells + 1 ∧ B.slots = P.slots + n) := by
  subst hn hN hb
  refine Back.mono (backArv hZ hw wi E V C K S hz (n32 (by omega)) l0 (by omega) (fun c hc => (hp c hc).2) hfr hlo) (fun P a hp => hp) (fun P a v B hp hq => ?_)
  obtain ⟨L, ⟨q1, q2, q3, q4, q5, q6, q7, ⟨kb, v1, v2⟩, q9⟩, hl, hc, hs⟩ := hq
  exact ⟨L, ⟨q1, fun y hy => by rw [q2 y hy]; exact hx0, q3, q5, q7, h.size, kb, hh0, Nat.le_refl _, Nat.ne_of_gt E.lt, q6, by rw [List.map_map]; exact v2⟩, hl, hc, hs⟩
end StrChars.Road
namespace StrChars
open Jvm Sem ClassFile Op Lib Jvm.Stand Jvm.Free.XT Jvm.Free.ALB Jvm.Free.JM Jvm.Free
open Jvm.Lib.Cold (StaticIs)
def hi8 (x : Int32) : Int32 := lo8 (x >>> ((8 : Int32) &&& 31))
/-- what StringUTF16.getChar makes of two bytes -/
def pairCh (u v : Int32) : Int32 := (((u &&& 255) <<< ((0 : Int32) &&& 31)) ||| ((v &&& 255) <<< ((8 : Int32) &&& 31))).toUInt32.toUInt16.toUInt32.toInt32
theorem lo8_and (x : Int32) : (lo8 x &&& 255).toBitVec.toNat = x.toBitVec.toNat % 256 := by
  have h : (lo8 x).toBitVec = (x.toBitVec.signExtend 8).signExtend 32 := by rw [lo8, Int8.toBitVec_toInt32, Int32.toBitVec_toInt8]
  rw [Int32.toBitVec_and, BitVec.toNat_and, h]
  have e : ((x.toBitVec.signExtend 8).signExtend 32).toNat % 256 = x.toBitVec.toNat % 256 := by
    rw [BitVec.toNat_signExtend]
    have hlt := x.toBitVec.isLt
    simp only [BitVec.toNat_setWidth, BitVec.toNat_signExtend]
    split <;> split <;> omega
  rw [← e]
  exact Nat.and_two_pow_sub_one_eq_mod _ 8
theorem pair_says {c : Int32} (h0 : ¬ c < 0) (h1 : ¬ 65535 < c) : pairCh (lo8 c) (hi8 c) = c := by
  rw [Int32.lt_iff_toInt_lt] at h0 h1
  have e0 : (0 : Int32).toInt = 0 := rfl
  have e1 : (65535 : Int32).toInt = 65535 := rfl
  have hc : c.toInt = c.toBitVec.toNat := by
    have := c.toBitVec.isLt
    have e : c.toInt = c.toBitVec.toInt := rfl
    rw [e] at h0 h1
    rw [e]
    rw [BitVec.toInt_eq_toNat_cond] at h0 h1 ⊢
    split at h0 <;> split <;> omega
  have hn : c.toBitVec.toNat < 65536 := by omega
  have a1 := lo8_and c
  have a2 : (hi8 c &&& 255).toBitVec.toNat = c.toBitVec.toNat / 256 := by
    rw [hi8, lo8_and]
    have e : ((8 : Int32) &&& 31) = 8 := by decide
    rw [e, Int32.toBitVec_shiftRight]
    have e2 : ((8 : Int32).toBitVec.smod 32) = 8#32 := by decide
    rw [e2, BitVec.sshiftRight_eq', BitVec.toNat_sshiftRight_of_msb_false (by rw [BitVec.msb_eq_false_iff_two_mul_lt]; omega)]
    show c.toBitVec.toNat >>> 8 % 256 = _
    rw [Nat.shiftRight_eq_div_pow]
    omega
  unfold pairCh
  apply Int32.toBitVec_inj.mp
  apply BitVec.eq_of_toNat_eq
  have f0 : ((0 : Int32) &&& 31) = 0 := by decide
  have f8 : ((8 : Int32) &&& 31) = 8 := by decide
  rw [f0, f8]
  have g : (((lo8 c &&& 255) <<< (0 : Int32)) ||| ((hi8 c &&& 255) <<< (8 : Int32))).toBitVec.toNat = c.toBitVec.toNat := by
    rw [Int32.toBitVec_or, Int32.toBitVec_shiftLeft, Int32.toBitVec_shiftLeft]
    have s0 : ((0 : Int32).toBitVec.smod 32) = 0#32 := by decide
    have s8 : ((8 : Int32).toBitVec.smod 32) = 8#32 := by decide
    rw [s0, s8, BitVec.toNat_or]
    simp only [BitVec.shiftLeft_eq', BitVec.toNat_shiftLeft, a1, a2]
    show (c.toBitVec.toNat % 256) <<< 0 % 2 ^ 32 ||| (c.toBitVec.toNat / 256) <<< 8 % 2 ^ 32 = _
    rw [Nat.shiftLeft_zero, Nat.mod_eq_of_lt (show c.toBitVec.toNat % 256 < 2 ^ 32 by omega), Nat.mod_eq_of_lt (show (c.toBitVec.toNat / 256) <<< 8 < 2 ^ 32 by rw [Nat.shiftLeft_eq]; omega), Nat.or_comm, ← Nat.shiftLeft_add_eq_or_of_lt (by omega), Nat.shiftLeft_eq]
    omega
  show BitVec.toNat (((((lo8 c &&& 255) <<< (0 : Int32)) ||| ((hi8 c &&& 255) <<< (8 : Int32))).toBitVec.setWidth 16).setWidth 32) = _
  rw [BitVec.toNat_setWidth, BitVec.toNat_setWidth, g]
  omega
end StrChars
namespace StrChars
open Jvm Sem ClassFile Op Lib Jvm.Stand Jvm.Free.XT Jvm.Free.ALB Jvm.Free.JM Jvm.Free
open Jvm.Lib.Cold (StaticIs)
/-- the array's cell V codes the n chars f 0 .. f (n - 1) by the coder cd, as the JDK does: coder 1 just where some char is above 255 -/
def Cod (cd : Int32) (n : Nat) (f : Nat → Int32) (V : Cell) : Prop := (cd = 0 ∧ V.slots.size = n ∧ ∀ j, j < n → V.slots[j]? = some (.int (lo8 (f j))) ∧ ¬ 255 < f j) ∨ (cd = 1 ∧ V.slots.size = 2 * n ∧ (∀ j, j < n → V.slots[2 * j]? = some (.int (lo8 (f j))) ∧ V.slots[2 * j + 1]? = some (.int (hi8 (f j)))) ∧ ∃ j, j < n ∧ 255 < f j)
/-- **x is a String of the n chars f 0 .. f (n - 1)**, Latin-1 or UTF-16; its array at t has the cell V -/
def Txt (x t : Addr) (V : Cell) (cd : Int32) (n : Nat) (f : Nat → Int32) (U : State) : Prop := Exact "java/lang/String" x U ∧ Has x "java/lang/String" "value" "[B" (.ref t) U ∧ Has x "java/lang/String" "coder" "B" (.int cd) U ∧ XT.Arr .byte t V U ∧ Cod cd n f V ∧ ∀ j, j < n → ¬ f j < 0 ∧ ¬ 65535 < f j
theorem Txt.mv {x t : Addr} {V : Cell} {cd : Int32} {n : Nat} {f : Nat → Int32} {U U' : State} (h : Txt x t V cd n f U) (hal : U.vm.Alike U'.vm) (hh : U'.heap = U.heap) : Txt x t V cd n f U' := ⟨h.1.mv hal hh, h.2.1.mv hal hh, h.2.2.1.mv hal hh, h.2.2.2.1.mv hal hh, h.2.2.2.2⟩
end StrChars
namespace StrChars.Road
open Jvm Sem ClassFile Op Lib Jvm.Stand Jvm.Free Jvm.Free.XT
open Jvm.Lib.Cold (StaticIs)
theorem consq {a : Array Value} {s : State} {c : Jvm.Cond} {L : List Jvm.Cond} (h0 : c.before a s = true) (h : ∀ w ∈ L, w.before a s = true) : ∀ w ∈ c :: L, w.before a s = true := fun w hw => (List.mem_cons.mp hw).elim (fun e => e ▸ h0) (h w)
/-- the bytes of the chars cs, low before high -/
def wideBytes : List Int32 → List Value
  | [] => []
  | c :: cs => .int (lo8 c) :: .int (hi8 c) :: wideBytes cs
theorem wide_lo (d : Value) : ∀ (cs : List Int32) (j : Nat), j < cs.length → (wideBytes cs).getD (2 * j) d = .int (lo8 (cs.getD j 0))
  | [], j, h => absurd h (Nat.not_lt_zero j)
  | c :: cs, 0, _ => rfl
  | c :: cs, j + 1, h => by
    have q := wide_lo d cs j (by simpa using h)
    rw [show 2 * (j + 1) = 2 * j + 1 + 1 from by omega]
    simpa [wideBytes] using q
theorem wide_hi (d : Value) : ∀ (cs : List Int32) (j : Nat), j < cs.length → (wideBytes cs).getD (2 * j + 1) d = .int (hi8 (cs.getD j 0))
  | [], j, h => absurd h (Nat.not_lt_zero j)
  | c :: cs, 0, _ => rfl
  | c :: cs, j + 1, h => by
    have q := wide_hi d cs j (by simpa using h)
    rw [show 2 * (j + 1) + 1 = 2 * j + 1 + 1 + 1 from by omega]
    simpa [wideBytes] using q
theorem low_at (d : Value) (cs : List Int32) (j : Nat) (h : j < cs.length) : (cs.map fun c => Value.int (lo8 c)).getD j d = .int (lo8 (cs.getD j 0)) := by
  simp [List.getD_eq_getElem?_getD, h]
/-- an array of N2 bytes vs codes the chars cs by the coder cd -/
def CodA (cs : List Int32) (cd N2 : Int32) (vs : List Value) : Prop := (cd = 0 ∧ N2 = Int32.ofNat cs.length ∧ vs = (cs.map fun c => Value.int (lo8 c)) ∧ ∀ c ∈ cs, ¬ 255 < c) ∨ (cd = 1 ∧ N2 = Int32.ofNat (2 * cs.length) ∧ vs = wideBytes cs ∧ ∃ c ∈ cs, 255 < c)
theorem CodA.cod {cs : List Int32} {cd N2 : Int32} {vs : List Value} {V : Cell} (h : CodA cs cd N2 vs) (hn : 2 * cs.length < 2 ^ 31) (hs : V.slots.size = N2.toNatClampNeg) (hv : RoadKit.Has V vs (.int 0)) : Cod cd cs.length (fun j => cs.getD j 0) V := by
  rcases h with ⟨rfl, rfl, rfl, h⟩ | ⟨rfl, rfl, rfl, c, hc, hw⟩
  · rw [n32 (by omega)] at hs
    exact Or.inl ⟨rfl, hs, fun j hj => ⟨by rw [hv j (by omega), low_at _ _ _ hj], by
      have e : cs.getD j 0 = cs[j] := by simp [List.getD_eq_getElem?_getD, hj]
      show ¬ 255 < cs.getD j 0
      rw [e]; exact h _ (List.getElem_mem _)⟩⟩
  · rw [n32 (by omega)] at hs
    obtain ⟨j, hj, rfl⟩ := List.getElem_of_mem hc
    exact Or.inr ⟨rfl, hs, fun j hj => ⟨by rw [hv _ (by omega), wide_lo _ _ _ hj], by rw [hv _ (by omega), wide_hi _ _ _ hj]⟩, j, hj, by
      have e : cs.getD j 0 = cs[j] := by simp [List.getD_eq_getElem?_getD, hj]
      show 255 < cs.getD j 0
      rw [e]; exact hw⟩
/-- an object of exactly java/lang/String, its two fields found: as the laws ask it -/
theorem strObj {Z U : State} {a0 : Array Value} {kI : Nat} (wi : (Jvm.Cond.instantiable ST kI).before a0 Z = true) (al : Z.vm.Alike U.vm) {x : Addr} {v0 c0 : Value} (E : RoadKit.Exa Z U.heap x ST) (V : RoadKit.Fld Z U.heap x ST "value" "[B" v0) (C : RoadKit.Fld Z U.heap x ST "coder" "B" c0) :
    ∃ (D : Cell) (fV fC : Field), Blank ST x D U ∧ Found ST "value" "[B" fV U ∧ Found ST "coder" "B" fC U ∧ D.slots[fV.slot]? = some v0 ∧ D.slots[fC.slot]? = some c0 ∧ RoadKit.slotOf Z ST "value" "[B" = fV.slot ∧ RoadKit.slotOf Z ST "coder" "B" = fC.slot := by
  obtain ⟨D, cfV, kV, iV, fV, hD, gV, stV, knV, obV, asV, slV⟩ := V
  obtain ⟨D', cfC, kC, iC, fC, hD', gC, stC, -, -, asC, slC⟩ := C
  cases hD.symm.trans hD'
  obtain ⟨D2, kD, e1, e2, e3, e4, e5⟩ := E
  cases hD.symm.trans e1
  obtain ⟨c2, k2, i1, i2, i3, -⟩ := Cond.instantiable_spec wi
  cases e2.symm.trans i1
  cases e3.symm.trans i2
  obtain ⟨kU, u1, u2⟩ := al.2.2 _ _ e3
  exact ⟨D, fV, fC, ⟨hD, ⟨knV, fun q hq => by rw [hq] at obV; cases obV⟩, by rw [al.findClass]; exact e2, kU, u1, by rw [u2]; exact i3, by rw [u2]; exact e5 i3⟩, ⟨SBG.found_only al ⟨cfV, kV, iV, gV⟩, stV⟩, ⟨SBG.found_only al ⟨cfC, kC, iC, gC⟩, stC⟩, slV, slC, by simp [RoadKit.slotOf, gV], by simp [RoadKit.slotOf, gC]⟩
theorem sta_is {Z U : State} (al : Z.vm.Alike U.vm) {C n d : String} {v : Value} (S : RoadKit.Sta Z U.heap C n d v) : StaticIs U C n d v := by
  obtain ⟨cfS, iS, kS, fS, st, cS, t1, t2, t3, t4, t5, t6, t7⟩ := S
  exact StaticIs.there (s := { Z with heap := U.heap }) ⟨cfS, iS, kS, fS, st, cS, t1, t2, t3, t4, t5, (fun q => by rw [q] at t6; cases t6), t7⟩ al rfl
end StrChars.Road
namespace StrChars
open Jvm Sem ClassFile Op Lib Jvm.Stand Jvm.Free.XT Jvm.Free.ALB Jvm.Free.JM Jvm.Free
open Jvm.Lib.Cold (StaticIs)
/-- what place i of a byte[]'s cell holds -/
def yv (A : Cell) (i : Nat) : Int32 := match A.slots[i]? with | some (.int x) => x | _ => 0
theorem yv_get {a : Addr} {A : Cell} {U : State} (h : XT.Arr .byte a A U) (ht : Typed .byte A) {i : Nat} (hi : i < A.slots.size) : A.slots[i]? = some (.int (yv A i)) := by
  have e := Array.getElem?_eq_getElem hi
  have f := ht i _ e
  unfold yv; rw [e]
  generalize A.slots[i] = v at f
  cases v <;> simp [fits] at f ⊢
/-- the two arrays are equal, place for place -/
def EqC (A B : Cell) : Prop := A.slots.size = B.slots.size ∧ ∀ i, i < A.slots.size → yv A i = yv B i
/-- a boolean that says whether p -/
def Says01 (q : Prop) (r : Option Value) (s u : State) : Prop := ∃ v : Int32, r = some (.int v) ∧ u.heap = s.heap ∧ ((v = 1 ∧ q) ∨ (v = 0 ∧ ¬ q))
theorem Says01.mv {q : Prop} : ∀ r (U U' V V' : State), U'.heap = U.heap → V.vm.Alike V'.vm → V'.heap = V.heap → Says01 q r U V → Says01 q r U' V' :=
  fun r U U' V V' h1 _ h2 ⟨v, a, b, c⟩ => ⟨v, a, by rw [h1, h2]; exact b, c⟩
namespace LEq
def yN : MethodName := ⟨"java/lang/StringLatin1", "equals", "([B[B)Z"⟩
abbrev yB : ByteArray := jdk_43_method_13_code
theorem d0 : decode yB 0 = .ok (.aload_n 0, 1) := by decide +kernel
theorem d1 : decode yB 1 = .ok (.arraylength, 1) := by decide +kernel
theorem d2 : decode yB 2 = .ok (.aload_n 1, 1) := by decide +kernel
theorem d3 : decode yB 3 = .ok (.arraylength, 1) := by decide +kernel
theorem d4 : decode yB 4 = .ok (.if_icmp (.ne) 30, 3) := by decide +kernel
theorem d7 : decode yB 7 = .ok (.iconst 0, 1) := by decide +kernel
theorem d8 : decode yB 8 = .ok (.istore_n 2, 1) := by decide +kernel
theorem d9 : decode yB 9 = .ok (.iload_n 2, 1) := by decide +kernel
theorem d10 : decode yB 10 = .ok (.aload_n 0, 1) := by decide +kernel
theorem d11 : decode yB 11 = .ok (.arraylength, 1) := by decide +kernel
theorem d12 : decode yB 12 = .ok (.if_icmp (.ge) 20, 3) := by decide +kernel
theorem d15 : decode yB 15 = .ok (.aload_n 0, 1) := by decide +kernel
theorem d16 : decode yB 16 = .ok (.iload_n 2, 1) := by decide +kernel
theorem d17 : decode yB 17 = .ok (.baload, 1) := by decide +kernel
theorem d18 : decode yB 18 = .ok (.aload_n 1, 1) := by decide +kernel
theorem d19 : decode yB 19 = .ok (.iload_n 2, 1) := by decide +kernel
theorem d20 : decode yB 20 = .ok (.baload, 1) := by decide +kernel
theorem d21 : decode yB 21 = .ok (.if_icmp (.eq) 5, 3) := by decide +kernel
theorem d24 : decode yB 24 = .ok (.iconst 0, 1) := by decide +kernel
theorem d25 : decode yB 25 = .ok (.ireturn, 1) := by decide +kernel
theorem d26 : decode yB 26 = .ok (.iinc 2 1, 3) := by decide +kernel
theorem d29 : decode yB 29 = .ok (.goto (-20), 3) := by decide +kernel
theorem d32 : decode yB 32 = .ok (.iconst 1, 1) := by decide +kernel
theorem d33 : decode yB 33 = .ok (.ireturn, 1) := by decide +kernel
theorem d34 : decode yB 34 = .ok (.iconst 0, 1) := by decide +kernel
theorem d35 : decode yB 35 = .ok (.ireturn, 1) := by decide +kernel
def site : List Cond := []
def tab : Cond := tabOf yN yB 3 (some .boolean) site
def P (a : Addr) (A : Cell) (b : Addr) (B : Cell) (args : Array Value) (s : State) : Prop := args = #[.ref a, .ref b] ∧ XT.Arr .byte a A s ∧ Typed .byte A ∧ XT.Arr .byte b B s ∧ Typed .byte B
/-- whether two byte[] are equal, place for place -/
theorem law (l : Launch) (a : Addr) (A : Cell) (b : Addr) (B : Cell) : Law l yN 2 2 0 0 yB 3 (some .boolean) site (P a A b B) (Says01 (EqC A B)) [] 0 0 := by
  refine Law.of_walk (plainFor_of_name (by decide +kernel)) (by decide +kernel) (by decide +kernel) (by decide) (fun _ _ h => by rw [h.1]; rfl) (fun _ U U' hal hh h => ⟨h.1, h.2.1.mv hal hh, h.2.2.1, h.2.2.2.1.mv hal hh, h.2.2.2.2⟩) (fun r U U' V V' h1 hal h2 h => Says01.mv r U U' V V' h1 hal h2 h) ?_
  intro p e s m args below meth c s₁ X0 hexec hbytes hml hret hlk hnm hown hh0 W hP
  obtain ⟨rfl, hA, tA, hB, tB⟩ := hP
  have a31 := hA.2.2.2
  have b31 := hB.2.2.2
  have hA0 := hA.mv X0.warmed.alike hh0
  have hB0 := hB.mv X0.warmed.alike hh0
  have c1 : Steps p.tables e below (s₁.setTop (entryFrame m #[.ref a, .ref b] 3)) (s₁.setTop (mkF m 0 #[.val (.ref a), .val (.ref b), .unset] [])) := entry rfl
  have c2 : Steps p.tables e below (s₁.setTop (entryFrame m #[.ref a, .ref b] 3)) (s₁.setTop (mkF m 4 #[.val (.ref a), .val (.ref b), .unset] [.int (Int32.ofNat B.slots.size), .int (Int32.ofNat A.slots.size)])) := c1.trans (by
    refine XS.aloadN X0.here hexec rfl (hb hbytes d0) rfl rfl ?_
    refine X0.alen hexec hA0 rfl rfl (hb hbytes d1) ?_
    refine XS.aloadN X0.here hexec rfl (hb hbytes d2) rfl rfl ?_
    refine X0.alen hexec hB0 rfl rfl (hb hbytes d3) ?_
    exact Steps.refl _)
  by_cases hs : A.slots.size = B.slots.size
  · have c3 : Steps p.tables e below (s₁.setTop (entryFrame m #[.ref a, .ref b] 3)) (s₁.setTop (mkF m 9 #[.val (.ref a), .val (.ref b), .val (.int 0)] [])) := c2.trans (by
      refine XS.icmpNo X0.here hexec rfl (hb hbytes d4) rfl (ii_ne_f (by rw [hs])) ?_
      refine iconstV X0.here hexec rfl 0 (hb hbytes d7) (by decide) ?_
      refine XS.istoreN X0.here hexec rfl (hb hbytes d8) rfl rfl ?_
      exact Steps.refl _)
    have loop : ∀ (r i : Nat), i + r = A.slots.size → (∀ j, j < i → yv A j = yv B j) → Steps p.tables e below (s₁.setTop (entryFrame m #[.ref a, .ref b] 3)) (s₁.setTop (mkF m 9 #[.val (.ref a), .val (.ref b), .val (.int (Int32.ofNat i))] [])) → ∃ (pc : Nat) (Ls : Array Slot) (v : Int32), (pc = 25 ∨ pc = 33) ∧ ((v = 1 ∧ EqC A B) ∨ (v = 0 ∧ ¬ EqC A B)) ∧ Steps p.tables e below (s₁.setTop (entryFrame m #[.ref a, .ref b] 3)) (s₁.setTop (mkF m pc Ls [.int v])) := by
      intro r
      induction r with
      | zero =>
        intro i hi he cl
        exact ⟨33, _, 1, Or.inr rfl, Or.inl ⟨rfl, hs, fun j hj => he j (by omega)⟩, cl.trans (by
          refine XS.iloadN X0.here hexec rfl (hb hbytes d9) rfl ?_
          refine XS.aloadN X0.here hexec rfl (hb hbytes d10) rfl rfl ?_
          refine X0.alen hexec hA0 rfl rfl (hb hbytes d11) ?_
          refine XS.icmpYes X0.here hexec rfl (pc0 := 12) rfl (hb hbytes d12) rfl (ii_ge_t (nlt32 (by omega) (by omega))) (by decide) rfl ?_
          refine iconstV X0.here hexec rfl 1 (hb hbytes d32) (by decide) ?_
          exact Steps.refl _)⟩
      | succ r ih =>
        intro i hi he cl
        have c4 : Steps p.tables e below (s₁.setTop (entryFrame m #[.ref a, .ref b] 3)) (s₁.setTop (mkF m 21 #[.val (.ref a), .val (.ref b), .val (.int (Int32.ofNat i))] [.int (yv B i), .int (yv A i)])) := cl.trans (by
          refine XS.iloadN X0.here hexec rfl (hb hbytes d9) rfl ?_
          refine XS.aloadN X0.here hexec rfl (hb hbytes d10) rfl rfl ?_
          refine X0.alen hexec hA0 rfl rfl (hb hbytes d11) ?_
          refine XS.icmpNo X0.here hexec rfl (hb hbytes d12) rfl (ii_ge_f (lt32 (by omega) (by omega))) ?_
          refine XS.aloadN X0.here hexec rfl (hb hbytes d15) rfl rfl ?_
          refine XS.iloadN X0.here hexec rfl (hb hbytes d16) rfl ?_
          refine X0.aget hexec hA0 rfl (yv_get hA tA (i := i) (by omega)) rfl rfl (hb hbytes d17) ?_
          refine XS.aloadN X0.here hexec rfl (hb hbytes d18) rfl rfl ?_
          refine XS.iloadN X0.here hexec rfl (hb hbytes d19) rfl ?_
          refine X0.aget hexec hB0 rfl (yv_get hB tB (i := i) (by omega)) rfl rfl (hb hbytes d20) ?_
          exact Steps.refl _)
        by_cases hv : yv A i = yv B i
        · have c5 : Steps p.tables e below (s₁.setTop (entryFrame m #[.ref a, .ref b] 3)) (s₁.setTop (mkF m 9 #[.val (.ref a), .val (.ref b), .val (.int (Int32.ofNat i + 1))] [])) := c4.trans (by
            refine XS.icmpYes X0.here hexec rfl (pc0 := 21) rfl (hb hbytes d21) rfl (ii_eq_t hv) (by decide) rfl ?_
            refine iincV X0.here hexec rfl 1 (hb hbytes d26) (by decide) rfl rfl ?_
            refine XS.goto X0.here hexec rfl (pc0 := 29) rfl (hb hbytes d29) (by decide) rfl ?_
            exact Steps.refl _)
          rw [succ32] at c5
          exact ih (i + 1) (by omega) (fun j hj => by
            by_cases e : j = i
            · rw [e]; exact hv
            · exact he j (by omega)) c5
        · exact ⟨25, _, 0, Or.inl rfl, Or.inr ⟨rfl, fun q => hv (q.2 i (by omega))⟩, c4.trans (by
            refine XS.icmpNo X0.here hexec rfl (hb hbytes d21) rfl (ii_eq_f hv) ?_
            refine iconstV X0.here hexec rfl 0 (hb hbytes d24) (by decide) ?_
            exact Steps.refl _)⟩
    obtain ⟨pc, Ls, v, hpc, hv, cz⟩ := loop A.slots.size 0 (by omega) (fun j hj => absurd hj (Nat.not_lt_zero j)) c3
    have nv : narrow .boolean (.int v) = .int v := by rcases hv with ⟨rfl, -⟩ | ⟨rfl, -⟩ <;> rfl
    rcases hpc with rfl | rfl
    · exact ⟨s₁, some (.int v), _, _, _, X0, rfl, rfl, rfl, (fun h => by cases h), ⟨v, rfl, hh0, hv⟩, fun fs hl => cz.trans (X0.ireturnOut hexec hret nv (Or.inr (Or.inl rfl)) (hb hbytes d25) hl)⟩
    · exact ⟨s₁, some (.int v), _, _, _, X0, rfl, rfl, rfl, (fun h => by cases h), ⟨v, rfl, hh0, hv⟩, fun fs hl => cz.trans (X0.ireturnOut hexec hret nv (Or.inr (Or.inl rfl)) (hb hbytes d33) hl)⟩
  · have c3 : Steps p.tables e below (s₁.setTop (entryFrame m #[.ref a, .ref b] 3)) (s₁.setTop (mkF m 35 #[.val (.ref a), .val (.ref b), .unset] [.int 0])) := c2.trans (by
      refine XS.icmpYes X0.here hexec rfl (pc0 := 4) rfl (hb hbytes d4) rfl (ii_ne_t (ne32 a31 b31 hs)) (by decide) rfl ?_
      refine iconstV X0.here hexec rfl 0 (hb hbytes d34) (by decide) ?_
      exact Steps.refl _)
    exact ⟨s₁, some (.int 0), _, _, _, X0, rfl, rfl, rfl, (fun h => by cases h), ⟨0, rfl, hh0, Or.inr ⟨rfl, fun q => hs q.1⟩⟩, fun fs hl => c3.trans (X0.ireturnOut hexec hret rfl (Or.inr (Or.inl rfl)) (hb hbytes d35) hl)⟩
end LEq
theorem Cod.ty {cd : Int32} {n : Nat} {f : Nat → Int32} {V : Cell} (h : Cod cd n f V) : Typed .byte V := fun i v hv => by
  have hi : i < V.slots.size := (Array.getElem?_eq_some_iff.mp hv).1
  rcases h with ⟨-, k1, k2⟩ | ⟨-, k1, k2, -⟩
  · rw [(k2 i (by omega)).1] at hv; cases hv; exact fits_lo8 _
  · rcases Nat.mod_two_eq_zero_or_one i with e | e
    · obtain ⟨j, rfl⟩ : ∃ j, i = 2 * j := ⟨i / 2, by omega⟩
      rw [(k2 j (by omega)).1] at hv; cases hv; exact fits_lo8 _
    · obtain ⟨j, rfl⟩ : ∃ j, i = 2 * j + 1 := ⟨i / 2, by omega⟩
      rw [(k2 j (by omega)).2] at hv; cases hv; exact fits_lo8 _
/-- the same text -/
def SameT (n : Nat) (f : Nat → Int32) (k : Nat) (g : Nat → Int32) : Prop := n = k ∧ ∀ j, j < n → f j = g j
theorem lo8_inj {x y : Int32} (h0 : ¬ x < 0) (h1 : ¬ 255 < x) (k0 : ¬ y < 0) (k1 : ¬ 255 < y) (h : lo8 x = lo8 y) : x = y := by
  rw [← lo8_mask h0 h1, ← lo8_mask k0 k1, h]
/-- arrays coded by one coder are equal just where the texts are -/
theorem Cod.eqv {cd : Int32} {n k : Nat} {f g : Nat → Int32} {V V' : Cell} (h : Cod cd n f V) (h' : Cod cd k g V') (hf : ∀ j, j < n → ¬ f j < 0 ∧ ¬ 65535 < f j) (hg : ∀ j, j < k → ¬ g j < 0 ∧ ¬ 65535 < g j) : EqC V V' ↔ SameT n f k g := by
  have yvv : ∀ {W : Cell} {i : Nat} {x : Int32}, W.slots[i]? = some (.int x) → yv W i = x := fun q => by unfold yv; rw [q]
  rcases h with ⟨rfl, k1, k2⟩ | ⟨rfl, k1, k2, -⟩
  · rcases h' with ⟨-, m1, m2⟩ | ⟨e, -⟩
    · constructor
      · rintro ⟨e1, e2⟩
        refine ⟨by omega, fun j hj => ?_⟩
        have q := e2 j (by omega)
        rw [yvv (k2 j hj).1, yvv (m2 j (by omega)).1] at q
        exact lo8_inj (hf j hj).1 (k2 j hj).2 (hg j (by omega)).1 (m2 j (by omega)).2 q
      · rintro ⟨rfl, e2⟩
        refine ⟨by omega, fun j hj => ?_⟩
        rw [yvv (k2 j (by omega)).1, yvv (m2 j (by omega)).1, e2 j (by omega)]
    · exact absurd e (by decide)
  · rcases h' with ⟨e, -⟩ | ⟨-, m1, m2, -⟩
    · exact absurd e (by decide)
    · constructor
      · rintro ⟨e1, e2⟩
        refine ⟨by omega, fun j hj => ?_⟩
        have q1 := e2 (2 * j) (by omega)
        have q2 := e2 (2 * j + 1) (by omega)
        rw [yvv (k2 j hj).1, yvv (m2 j (by omega)).1] at q1
        rw [yvv (k2 j hj).2, yvv (m2 j (by omega)).2] at q2
        rw [← pair_says (hf j hj).1 (hf j hj).2, ← pair_says (hg j (by omega)).1 (hg j (by omega)).2, q1, q2]
      · rintro ⟨rfl, e2⟩
        refine ⟨by omega, fun i hi => ?_⟩
        rcases Nat.mod_two_eq_zero_or_one i with e | e
        · obtain ⟨j, rfl⟩ : ∃ j, i = 2 * j := ⟨i / 2, by omega⟩
          rw [yvv (k2 j (by omega)).1, yvv (m2 j (by omega)).1, e2 j (by omega)]
        · obtain ⟨j, rfl⟩ : ∃ j, i = 2 * j + 1 := ⟨i / 2, by omega⟩
          rw [yvv (k2 j (by omega)).2, yvv (m2 j (by omega)).2, e2 j (by omega)]
/-- two codings differ: so do the texts -/
theorem Cod.dif {cd cd' : Int32} {n k : Nat} {f g : Nat → Int32} {V V' : Cell} (h : Cod cd n f V) (h' : Cod cd' k g V') (hne : ¬ cd = cd') : ¬ SameT n f k g := by
  rintro ⟨rfl, e⟩
  rcases h with ⟨rfl, -, k2⟩ | ⟨rfl, -, -, j, hj, hw⟩
  · rcases h' with ⟨rfl, -⟩ | ⟨-, -, -, j, hj, hw⟩
    · exact hne rfl
    · exact (k2 j hj).2 (by rw [e j hj]; exact hw)
  · rcases h' with ⟨-, -, m2⟩ | ⟨rfl, -⟩
    · exact (m2 j hj).2 (by rw [← e j hj]; exact hw)
    · exact hne rfl
/-- an object of exactly C is an instance of C -/
theorem cinst {p : Program} {l : Launch} {e : Env} {R : Room} {s : State} {m : MethodId} {args : Array Value} {below : List Frame} {meth : Method} {c : Code} {T : State} {locs : List Loc} {cells slots : Nat} (X : Stand p l e R s m args below meth c T locs cells slots) (hexec : p.tables.exec = Jvm.exec) {own C : String} {index : Nat} (hown : s.vm.findClass own = some m.cls) (hlink : (Cond.classLink own index C).before args s = true) {a : Addr} (hE : Exact C a T)
    {g : JFrame} (hg : g.method = m) {rest : List Value} (hstack : g.stack = .ref a :: rest) (hdg : decode c.code g.pc = .ok (.instanceof index, 3)) :
    ∃ T', Stand p l e R s m args below meth c T' locs cells slots ∧ T'.heap = T.heap ∧ ∀ target, Steps p.tables e below (T'.setTop { g with pc := g.pc + 3, stack := .int 1 :: rest }) target → Steps p.tables e below (T.setTop g) target := by
  obtain ⟨cB, h1, D, h2, h3, h4⟩ := hE
  have h1' : s.vm.findClass C = some cB := by rw [← X.warmed.alike.findClass]; exact h1
  obtain ⟨vm', X', st⟩ := X.instanceofYes hexec hown hlink h2 h4 h1' (by rw [h3]; exact Jvm.Free.SB.assignable_self _ _) hg hstack hdg
  exact ⟨_, X', rfl, st⟩
theorem cself {p : Program} {l : Launch} {e : Env} {R : Room} {s : State} {m : MethodId} {args : Array Value} {below : List Frame} {meth : Method} {c : Code} {T : State} {locs : List Loc} {cells slots : Nat} (X : Stand p l e R s m args below meth c T locs cells slots) (hexec : p.tables.exec = Jvm.exec) {own C : String} {index : Nat} (hown : s.vm.findClass own = some m.cls) (hlink : (Cond.classLink own index C).before args s = true) {a : Addr} (hE : Exact C a T)
    {g : JFrame} (hg : g.method = m) {rest : List Value} (hstack : g.stack = .ref a :: rest) (hdg : decode c.code g.pc = .ok (.checkcast index, 3)) :
    ∃ T', Stand p l e R s m args below meth c T' locs cells slots ∧ T'.heap = T.heap ∧ ∀ target, Steps p.tables e below (T'.setTop { g with pc := g.pc + 3, stack := .ref a :: rest }) target → Steps p.tables e below (T.setTop g) target := by
  obtain ⟨cB, h1, D, h2, h3, h4⟩ := hE
  have h1' : s.vm.findClass C = some cB := by rw [← X.warmed.alike.findClass]; exact h1
  obtain ⟨vm', X', st⟩ := X.checkcastYes hexec hown hlink h2 h4 h1' (by rw [h3]; exact Jvm.Free.SB.assignable_self _ _) hg hstack hdg
  exact ⟨_, X', rfl, fun t h => st t (by rw [← hstack] at h; exact h)⟩
namespace SEq
def yN : MethodName := ⟨"java/lang/String", "equals", "(Ljava/lang/Object;)Z"⟩
abbrev yB : ByteArray := jdk_42_method_66_code
theorem d0 : decode yB 0 = .ok (.aload_n 0, 1) := by decide +kernel
theorem d1 : decode yB 1 = .ok (.aload_n 1, 1) := by decide +kernel
theorem d2 : decode yB 2 = .ok (.if_acmp (.ne) 5, 3) := by decide +kernel
theorem d5 : decode yB 5 = .ok (.iconst 1, 1) := by decide +kernel
theorem d6 : decode yB 6 = .ok (.ireturn, 1) := by decide +kernel
theorem d7 : decode yB 7 = .ok (.aload_n 1, 1) := by decide +kernel
theorem d8 : decode yB 8 = .ok (.instanceof 10, 3) := by decide +kernel
theorem d11 : decode yB 11 = .ok (.ifCond (.eq) 43, 3) := by decide +kernel
theorem d14 : decode yB 14 = .ok (.aload_n 1, 1) := by decide +kernel
theorem d15 : decode yB 15 = .ok (.checkcast 10, 3) := by decide +kernel
theorem d18 : decode yB 18 = .ok (.astore_n 2, 1) := by decide +kernel
theorem d19 : decode yB 19 = .ok (.getstatic 38, 3) := by decide +kernel
theorem d22 : decode yB 22 = .ok (.ifCond (.eq) 14, 3) := by decide +kernel
theorem d25 : decode yB 25 = .ok (.aload_n 0, 1) := by decide +kernel
theorem d26 : decode yB 26 = .ok (.getfield 15, 3) := by decide +kernel
theorem d29 : decode yB 29 = .ok (.aload_n 2, 1) := by decide +kernel
theorem d30 : decode yB 30 = .ok (.getfield 15, 3) := by decide +kernel
theorem d33 : decode yB 33 = .ok (.if_icmp (.ne) 21, 3) := by decide +kernel
theorem d36 : decode yB 36 = .ok (.aload_n 0, 1) := by decide +kernel
theorem d37 : decode yB 37 = .ok (.getfield 9, 3) := by decide +kernel
theorem d40 : decode yB 40 = .ok (.aload_n 2, 1) := by decide +kernel
theorem d41 : decode yB 41 = .ok (.getfield 9, 3) := by decide +kernel
theorem d44 : decode yB 44 = .ok (.invokestatic 541, 3) := by decide +kernel
theorem d47 : decode yB 47 = .ok (.ifCond (.eq) 7, 3) := by decide +kernel
theorem d50 : decode yB 50 = .ok (.iconst 1, 1) := by decide +kernel
theorem d51 : decode yB 51 = .ok (.goto 4, 3) := by decide +kernel
theorem d54 : decode yB 54 = .ok (.iconst 0, 1) := by decide +kernel
theorem d55 : decode yB 55 = .ok (.ireturn, 1) := by decide +kernel
def site : List Cond := [.classLink "java/lang/String" 10 "java/lang/String", .fieldLink "java/lang/String" 38 "java/lang/String" "COMPACT_STRINGS" "Z", .fieldLink "java/lang/String" 15 "java/lang/String" "coder" "B", .fieldLink "java/lang/String" 9 "java/lang/String" "value" "[B", LEq.tab] ++ staticW "java/lang/String" 541 LEq.yN
def tab : Cond := tabOf yN yB 3 (some .boolean) site
def P (x t : Addr) (V : Cell) (cd : Int32) (n : Nat) (f : Nat → Int32) (y t' : Addr) (V' : Cell) (cd' : Int32) (k : Nat) (g : Nat → Int32) (z : Int32) (args : Array Value) (s : State) : Prop := args = #[.ref x, .ref y] ∧ Txt x t V cd n f s ∧ Txt y t' V' cd' k g s ∧ StaticIs s "java/lang/String" "COMPACT_STRINGS" "Z" (.int z) ∧ ¬ z = 0
/-- equals(Object) of two Strings: whether the texts are the same -/
theorem law (l : Launch) (x t : Addr) (V : Cell) (cd : Int32) (n : Nat) (f : Nat → Int32) (y t' : Addr) (V' : Cell) (cd' : Int32) (k : Nat) (g : Nat → Int32) (z : Int32) : Law l yN 2 1 1 14 yB 3 (some .boolean) site (P x t V cd n f y t' V' cd' k g z) (Says01 (SameT n f k g)) [] 0 0 := by
  refine Law.of_walk (plainFor_of_name (by decide +kernel)) (by decide +kernel) (by decide +kernel) (by decide) (fun _ _ h => by rw [h.1]; rfl) (fun _ U U' hal hh h => ⟨h.1, h.2.1.mv hal hh, h.2.2.1.mv hal hh, h.2.2.2.1.there hal hh, h.2.2.2.2⟩) (fun r U U' V V' h1 hal h2 h => Says01.mv r U U' V V' h1 hal h2 h) ?_
  intro p e s m args below meth c s₁ X0 hexec hbytes hml hret hlk hnm hown hh0 W hP
  obtain ⟨rfl, hx, hy, s1, hz⟩ := hP
  have c1 : Steps p.tables e below (s₁.setTop (entryFrame m #[.ref x, .ref y] 3)) (s₁.setTop (mkF m 2 #[.val (.ref x), .val (.ref y), .unset] [.ref y, .ref x])) := Steps.trans (entry rfl) (by
    show Steps p.tables e below (s₁.setTop (mkF m 0 #[.val (.ref x), .val (.ref y), .unset] [])) _
    refine XS.aloadN X0.here hexec rfl (hb hbytes d0) rfl rfl ?_
    refine XS.aloadN X0.here hexec rfl (hb hbytes d1) rfl rfl ?_
    exact Steps.refl _)
  by_cases hxy : x = y
  · have c2 : Steps p.tables e below (s₁.setTop (entryFrame m #[.ref x, .ref y] 3)) (s₁.setTop (mkF m 6 #[.val (.ref x), .val (.ref y), .unset] [.int 1])) := c1.trans (by
      refine acmpNo X0.here hexec rfl (hb hbytes d2) rfl rfl rfl (by simp [acmp, hxy]) ?_
      refine iconstV X0.here hexec rfl 1 (hb hbytes d5) (by decide) ?_
      exact Steps.refl _)
    subst hxy
    have ec : cd = cd' := by
      obtain ⟨D, fd, a1, a2, a3⟩ := hx.2.2.1
      obtain ⟨D', fd', b1, b2, b3⟩ := hy.2.2.1
      cases a1.symm.trans b1
      obtain ⟨q1, q2, q3, q4⟩ := a2.1
      obtain ⟨r1, r2, r3, r4⟩ := b2.1
      cases q4.symm.trans r4
      cases a3.symm.trans b3; rfl
    have et : t = t' := by
      obtain ⟨D, fd, a1, a2, a3⟩ := hx.2.1
      obtain ⟨D', fd', b1, b2, b3⟩ := hy.2.1
      cases a1.symm.trans b1
      obtain ⟨q1, q2, q3, q4⟩ := a2.1
      obtain ⟨r1, r2, r3, r4⟩ := b2.1
      cases q4.symm.trans r4
      cases a3.symm.trans b3; rfl
    subst ec et
    have ev : V = V' := by cases hx.2.2.2.1.1.symm.trans hy.2.2.2.1.1; rfl
    subst ev
    have hs : SameT n f k g := (Cod.eqv hx.2.2.2.2.1 hy.2.2.2.2.1 hx.2.2.2.2.2 hy.2.2.2.2.2).mp ⟨rfl, fun _ _ => rfl⟩
    exact ⟨s₁, some (.int 1), _, _, _, X0, rfl, rfl, rfl, (fun h => by cases h), ⟨1, rfl, hh0, Or.inl ⟨rfl, hs⟩⟩, fun fs hl => c2.trans (X0.ireturnOut hexec hret rfl (Or.inr (Or.inl rfl)) (hb hbytes d6) hl)⟩
  · have c2 : Steps p.tables e below (s₁.setTop (entryFrame m #[.ref x, .ref y] 3)) (s₁.setTop (mkF m 8 #[.val (.ref x), .val (.ref y), .unset] [.ref y])) := c1.trans (by
      refine acmpYes X0.here hexec rfl (pc0 := 2) rfl (hb hbytes d2) rfl rfl rfl (by simp [acmp, hxy]) (by decide) rfl ?_
      refine XS.aloadN X0.here hexec rfl (hb hbytes d7) rfl rfl ?_
      exact Steps.refl _)
    obtain ⟨T3, X3, q3, st3⟩ := cinst X0 hexec hown (wk W (.classLink "java/lang/String" 10 "java/lang/String")) (hy.mv X0.warmed.alike hh0).1 (g := (mkF m 8 #[.val (.ref x), .val (.ref y), .unset] [.ref y])) rfl (rest := []) rfl (hb hbytes d8)
    have hh3 := q3.trans hh0
    have c4 : Steps p.tables e below (s₁.setTop (entryFrame m #[.ref x, .ref y] 3)) (T3.setTop (mkF m 15 #[.val (.ref x), .val (.ref y), .unset] [.ref y])) := (c2.trans (st3 _ (Steps.refl _))).trans (by
      refine XS.ifNo X3.here hexec rfl (hb hbytes d11) rfl (i0_eq_f (by decide)) ?_
      refine XS.aloadN X3.here hexec rfl (hb hbytes d14) rfl rfl ?_
      exact Steps.refl _)
    obtain ⟨T5, X5, q5, st5⟩ := cself X3 hexec hown (wk W (.classLink "java/lang/String" 10 "java/lang/String")) (hy.mv X3.warmed.alike hh3).1 (g := (mkF m 15 #[.val (.ref x), .val (.ref y), .unset] [.ref y])) rfl (rest := []) rfl (hb hbytes d15)
    have hh5 := q5.trans hh3
    have c6 : Steps p.tables e below (s₁.setTop (entryFrame m #[.ref x, .ref y] 3)) (T5.setTop (mkF m 19 #[.val (.ref x), .val (.ref y), .val (.ref y)] [])) := (c4.trans (st5 _ (Steps.refl _))).trans (by
      refine XS.astoreN X5.here hexec rfl (hb hbytes d18) rfl rfl rfl ?_
      exact Steps.refl _)
    obtain ⟨T7, X7, q7, st7⟩ := X5.sget hexec hown (wk W (.fieldLink "java/lang/String" 38 "java/lang/String" "COMPACT_STRINGS" "Z")) s1 (fun _ _ h => by rw [hh5]; exact h) (g := (mkF m 19 #[.val (.ref x), .val (.ref y), .val (.ref y)] [])) rfl (hb hbytes d19)
    have hh7 := q7.trans hh5
    have c8 : Steps p.tables e below (s₁.setTop (entryFrame m #[.ref x, .ref y] 3)) (T7.setTop (mkF m 26 #[.val (.ref x), .val (.ref y), .val (.ref y)] [.ref x])) := (c6.trans (st7 _ (Steps.refl _))).trans (by
      refine XS.ifNo X7.here hexec rfl (hb hbytes d22) rfl (i0_eq_f hz) ?_
      refine XS.aloadN X7.here hexec rfl (hb hbytes d25) rfl rfl ?_
      exact Steps.refl _)
    obtain ⟨T9, X9, q9, st9⟩ := X7.hget hexec hown (wk W (.fieldLink "java/lang/String" 15 "java/lang/String" "coder" "B")) (hx.mv X7.warmed.alike hh7).2.2.1 (g := (mkF m 26 #[.val (.ref x), .val (.ref y), .val (.ref y)] [.ref x])) rfl (rest := []) rfl (hb hbytes d26)
    have hh9 := q9.trans hh7
    have c10 : Steps p.tables e below (s₁.setTop (entryFrame m #[.ref x, .ref y] 3)) (T9.setTop (mkF m 30 #[.val (.ref x), .val (.ref y), .val (.ref y)] [.ref y, .int cd])) := (c8.trans (st9 _ (Steps.refl _))).trans (by
      refine XS.aloadN X9.here hexec rfl (hb hbytes d29) rfl rfl ?_
      exact Steps.refl _)
    obtain ⟨T11, X11, q11, st11⟩ := X9.hget hexec hown (wk W (.fieldLink "java/lang/String" 15 "java/lang/String" "coder" "B")) (hy.mv X9.warmed.alike hh9).2.2.1 (g := (mkF m 30 #[.val (.ref x), .val (.ref y), .val (.ref y)] [.ref y, .int cd])) rfl (rest := [.int cd]) rfl (hb hbytes d30)
    have hh11 := q11.trans hh9
    have c12 : Steps p.tables e below (s₁.setTop (entryFrame m #[.ref x, .ref y] 3)) (T11.setTop (mkF m 33 #[.val (.ref x), .val (.ref y), .val (.ref y)] [.int cd', .int cd])) := c10.trans (st11 _ (Steps.refl _))
    by_cases hcd : cd = cd'
    · subst hcd
      have c13 : Steps p.tables e below (s₁.setTop (entryFrame m #[.ref x, .ref y] 3)) (T11.setTop (mkF m 37 #[.val (.ref x), .val (.ref y), .val (.ref y)] [.ref x])) := c12.trans (by
        refine XS.icmpNo X11.here hexec rfl (hb hbytes d33) rfl (ii_ne_f rfl) ?_
        refine XS.aloadN X11.here hexec rfl (hb hbytes d36) rfl rfl ?_
        exact Steps.refl _)
      obtain ⟨T14, X14, q14, st14⟩ := X11.hget hexec hown (wk W (.fieldLink "java/lang/String" 9 "java/lang/String" "value" "[B")) (hx.mv X11.warmed.alike hh11).2.1 (g := (mkF m 37 #[.val (.ref x), .val (.ref y), .val (.ref y)] [.ref x])) rfl (rest := []) rfl (hb hbytes d37)
      have hh14 := q14.trans hh11
      have c15 : Steps p.tables e below (s₁.setTop (entryFrame m #[.ref x, .ref y] 3)) (T14.setTop (mkF m 41 #[.val (.ref x), .val (.ref y), .val (.ref y)] [.ref y, .ref t])) := (c13.trans (st14 _ (Steps.refl _))).trans (by
        refine XS.aloadN X14.here hexec rfl (hb hbytes d40) rfl rfl ?_
        exact Steps.refl _)
      obtain ⟨T16, X16, q16, st16⟩ := X14.hget hexec hown (wk W (.fieldLink "java/lang/String" 9 "java/lang/String" "value" "[B")) (hy.mv X14.warmed.alike hh14).2.1 (g := (mkF m 41 #[.val (.ref x), .val (.ref y), .val (.ref y)] [.ref y, .ref t])) rfl (rest := [.ref t]) rfl (hb hbytes d41)
      have hh16 := q16.trans hh14
      have c17 : Steps p.tables e below (s₁.setTop (entryFrame m #[.ref x, .ref y] 3)) (T16.setTop (mkF m 44 #[.val (.ref x), .val (.ref y), .val (.ref y)] [.ref t', .ref t])) := c15.trans (st16 _ (Steps.refl _))
      obtain ⟨v18, T18, X18, E18, g18⟩ := X16.callS hexec (LEq.law l t V t' V') hown (wks W (staticW "java/lang/String" 541 LEq.yN)) (wk W LEq.tab) (W := 0) (Nat.le_of_ble_eq_true rfl) (Nat.le_of_ble_eq_true rfl) (Nat.le_refl _) (Nat.le_refl _) (g := (mkF m 44 #[.val (.ref x), .val (.ref y), .val (.ref y)] [.ref t', .ref t])) rfl (by rw [hml]; rfl) c17 (argsL := [.ref t, .ref t']) (rest := []) rfl rfl (by show 2 * 0 + 0 ≤ _; decide) (hb hbytes d44) (⟨rfl, hx.2.2.2.1.mv X16.warmed.alike hh16, hx.2.2.2.2.1.ty, hy.2.2.2.1.mv X16.warmed.alike hh16, hy.2.2.2.2.1.ty⟩)
      obtain ⟨v, rfl, q18, hv⟩ := E18
      have iff := Cod.eqv hx.2.2.2.2.1 hy.2.2.2.2.1 hx.2.2.2.2.2 hy.2.2.2.2.2
      rcases hv with ⟨rfl, he⟩ | ⟨rfl, he⟩
      · have c19 : Steps p.tables e below (s₁.setTop (entryFrame m #[.ref x, .ref y] 3)) (T18.setTop (mkF m 55 #[.val (.ref x), .val (.ref y), .val (.ref y)] [.int 1])) := Steps.trans g18 (by
          refine XS.ifNo X18.here hexec rfl (hb hbytes d47) rfl (i0_eq_f (by decide)) ?_
          refine iconstV X18.here hexec rfl 1 (hb hbytes d50) (by decide) ?_
          refine XS.goto X18.here hexec rfl (pc0 := 51) rfl (hb hbytes d51) (by decide) rfl ?_
          exact Steps.refl _)
        exact ⟨T18, some (.int 1), _, _, _, X18, rfl, rfl, rfl, (fun h => by cases h), ⟨1, rfl, q18.trans hh16, Or.inl ⟨rfl, iff.mp he⟩⟩, fun fs hl => c19.trans (X18.ireturnOut hexec hret rfl (Or.inr (Or.inl rfl)) (hb hbytes d55) hl)⟩
      · have c19 : Steps p.tables e below (s₁.setTop (entryFrame m #[.ref x, .ref y] 3)) (T18.setTop (mkF m 55 #[.val (.ref x), .val (.ref y), .val (.ref y)] [.int 0])) := Steps.trans g18 (by
          refine XS.ifYes X18.here hexec rfl (pc0 := 47) rfl (hb hbytes d47) rfl (i0_eq_t rfl) (by decide) rfl ?_
          refine iconstV X18.here hexec rfl 0 (hb hbytes d54) (by decide) ?_
          exact Steps.refl _)
        exact ⟨T18, some (.int 0), _, _, _, X18, rfl, rfl, rfl, (fun h => by cases h), ⟨0, rfl, q18.trans hh16, Or.inr ⟨rfl, fun q => he (iff.mpr q)⟩⟩, fun fs hl => c19.trans (X18.ireturnOut hexec hret rfl (Or.inr (Or.inl rfl)) (hb hbytes d55) hl)⟩
    · have c13 : Steps p.tables e below (s₁.setTop (entryFrame m #[.ref x, .ref y] 3)) (T11.setTop (mkF m 55 #[.val (.ref x), .val (.ref y), .val (.ref y)] [.int 0])) := c12.trans (by
        refine XS.icmpYes X11.here hexec rfl (pc0 := 33) rfl (hb hbytes d33) rfl (ii_ne_t hcd) (by decide) rfl ?_
        refine iconstV X11.here hexec rfl 0 (hb hbytes d54) (by decide) ?_
        exact Steps.refl _)
      exact ⟨T11, some (.int 0), _, _, _, X11, rfl, rfl, rfl, (fun h => by cases h), ⟨0, rfl, hh11, Or.inr ⟨rfl, Cod.dif hx.2.2.2.2.1 hy.2.2.2.2.1 hcd⟩⟩, fun fs hl => c13.trans (X11.ireturnOut hexec hret rfl (Or.inr (Or.inl rfl)) (hb hbytes d55) hl)⟩
theorem pays {l : Launch} {R : Room} {p : Program} {e : Env} {below : List Frame} {s : State} {sargs : Array Value} {len W : Nat} (x t : Addr) (V : Cell) (cd : Int32) (n : Nat) (f : Nat → Int32) (y t' : Addr) (V' : Cell) (cd' : Int32) (k : Nat) (g : Nat → Int32) (z : Int32) (htab : tab.before sargs s = true) (hfr : 2 ≤ R.frames) (hlo : W + 28 ≤ R.locals) :
    Back l R p e below s sargs yN len W (fun A₁ a₁ => A₁.cells + 0 ≤ R.cells ∧ A₁.slots + 0 ≤ R.slots ∧ P x t V cd n f y t' V' cd' k g z a₁ A₁.U) (fun A₁ _ v₁ B₁ => Says01 (SameT n f k g) v₁ A₁.U B₁.U ∧ B₁.locs = A₁.locs ++ [] ∧ B₁.cells = A₁.cells + 0 ∧ B₁.slots = A₁.slots + 0) :=
  (law l x t V cd n f y t' V' cd' k g z).pays htab hfr (by omega)
end SEq
end StrChars
namespace StrChars.Road
open Jvm Sem ClassFile Op Lib Jvm.Stand Jvm.Free Jvm.Free.XT
open Jvm.Lib.Cold (StaticIs)
/-- the words of String.equals(Object) -/
abbrev wordsEq : List Jvm.Cond := [.code SEq.yN SEq.yB 3 (some .boolean), .initialized ST, .classLink ST 10 ST, .fieldLink ST 38 ST "COMPACT_STRINGS" "Z", .fieldLink ST 15 ST "coder" "B", .fieldLink ST 9 ST "value" "[B", .methodLink ST 541 LEq.yN, .static LEq.yN, .code LEq.yN LEq.yB 3 (some .boolean), .initialized "java/lang/StringLatin1"]
theorem tabEq_of {a : Array Value} {s : State} (h : ∀ w ∈ wordsEq, w.before a s = true) : SEq.tab.before a s = true := by
  have hl : LEq.tab.before a s = true := unparts (wk h (.code LEq.yN LEq.yB 3 (some .boolean))) (wks h (.initialized LEq.yN.cls :: LEq.site))
  have q := consq hl h
  exact unparts (wk q (.code SEq.yN SEq.yB 3 (some .boolean))) (wks q (.initialized SEq.yN.cls :: SEq.site))
theorem movedEq {Z s : State} {a0 args : Array Value} (hZ : Z.Warmed39 s.vm) (hw : ∀ d ∈ wordsEq, d.before a0 Z = true) : ∀ d ∈ wordsEq, d.before args s = true := fun d hd => by
  have t : ∀ d ∈ wordsEq, (d.onTables && d.keepsFace) = true := by decide +kernel
  exact RoadKit.mv hZ (hw d hd) (t d hd)
/-- the road's facts of a String, as the laws ask it -/
theorem txt_of {Z U : State} {a0 : Array Value} {kI : Nat} (wi : (Jvm.Cond.instantiable ST kI).before a0 Z = true) (al : Z.vm.Alike U.vm) {x t : Addr} {kb : ClassId} {cs : List Int32} {cd N2 : Int32} {vs : List Value} (E : RoadKit.Exa Z U.heap x ST) (V : RoadKit.Fld Z U.heap x ST "value" "[B" (.ref t)) (C : RoadKit.Fld Z U.heap x ST "coder" "B" (.int cd)) (K : RoadKit.Arv Z U.heap t kb .byte N2 vs (.int 0)) (hc : CodA cs cd N2 vs) (hb : ∀ c ∈ cs, ¬ c < 0 ∧ ¬ (65535 : Int32) < c) (l2 : cs.length ≤ 4000) :
    ∃ A, Txt x t A cd cs.length (fun j => cs.getD j 0) U := by
  obtain ⟨A, K1, K2, K3, K4, K5, K6⟩ := K
  have hcod := hc.cod (by omega) K3 K5
  obtain ⟨D, fV, fC, hB, F1, F2, g1, g2, -, -⟩ := strObj wi al E V C
  exact ⟨A, ⟨_, hB.2.2.1, D, hB.1, rfl, by cases q : D.vm <;> first | rfl | exact absurd q (hB.2.1.2 _)⟩, Has.of hB F1 g1, Has.of hB F2 g2, ⟨K1.1, State.isArrayOf_alike al K1.2.1, K1.2.2, by rcases hcod with ⟨-, q, -⟩ | ⟨-, q, -⟩ <;> omega⟩, hcod, fun j hj => by
    have e : cs.getD j 0 = cs[j] := by simp [List.getD_eq_getElem?_getD, hj]
    show ¬ cs.getD j 0 < 0 ∧ ¬ 65535 < cs.getD j 0
    rw [e]; exact hb _ (List.getElem_mem _)⟩
theorem same_list (cs ds : List Int32) : SameT cs.length (fun j => cs.getD j 0) ds.length (fun j => ds.getD j 0) ↔ cs = ds := by
  constructor
  · rintro ⟨e, q⟩
    refine List.ext_getElem e fun j h1 h2 => ?_
    have := q j h1
    simpa [List.getD_eq_getElem?_getD, h1, h2] using this
  · rintro rfl
    exact ⟨rfl, fun _ _ => rfl⟩
/-- **equals(Object) OF TWO SUCH STRINGS**: 1 just where the chars are the same -/
theorem eqW {p : Program} {l : Launch} {e : Env} {R : Room} {s : State} {args : Array Value} {below : List Frame} {len W : Nat} {Z : State} {a0 : Array Value} {h : Heap} (hZ : Z.Warmed39 s.vm) (hw : ∀ d ∈ wordsEq, d.before a0 Z = true) {kI : Nat} (wi : (Jvm.Cond.instantiable ST kI).before a0 Z = true)
    {x t : Addr} {kb : ClassId} {cs : List Int32} {cd N2 : Int32} {vs : List Value} (E : RoadKit.Exa Z h x ST) (V : RoadKit.Fld Z h x ST "value" "[B" (.ref t)) (C : RoadKit.Fld Z h x ST "coder" "B" (.int cd)) (K : RoadKit.Arv Z h t kb .byte N2 vs (.int 0)) (hc : CodA cs cd N2 vs) (hb : ∀ c ∈ cs, ¬ c < 0 ∧ ¬ (65535 : Int32) < c) (l2 : cs.length ≤ 4000)
    {y t' : Addr} {kb' : ClassId} {ds : List Int32} {cd' N2' : Int32} {vs' : List Value} (E' : RoadKit.Exa Z h y ST) (V' : RoadKit.Fld Z h y ST "value" "[B" (.ref t')) (C' : RoadKit.Fld Z h y ST "coder" "B" (.int cd')) (K' : RoadKit.Arv Z h t' kb' .byte N2' vs' (.int 0)) (hc' : CodA ds cd' N2' vs') (hb' : ∀ c ∈ ds, ¬ c < 0 ∧ ¬ (65535 : Int32) < c) (l2' : ds.length ≤ 4000)
    {z : Int32} (S : RoadKit.Sta Z h ST "COMPACT_STRINGS" "Z" (.int z)) (hz : ¬ z = 0) (hfr : 2 ≤ R.frames) (hlo : W + 28 ≤ R.locals) :
    Back l R p e below s args (⟨"java/lang/String", "equals", "(Ljava/lang/Object;)Z"⟩ : MethodName) len W (fun P a => a = #[.ref x, .ref y] ∧ P.U.heap = h ∧ P.cells + 0 ≤ R.cells ∧ P.slots + 0 ≤ R.slots)
      (fun P _ v B => ∃ L, (((v = some (.int 1) ∧ cs = ds) ∨ (v = some (.int 0) ∧ ¬ cs = ds)) ∧ L = [] ∧ B.U.heap = h) ∧ B.locs = P.locs ++ L ∧ B.cells = P.cells + 0 ∧ B.slots = P.slots + 0) := by
  intro m meth c P g ig mk a X hg hsize hdg hW hn hp'
  obtain ⟨rfl, rfl, r1, r2⟩ := hp'
  have al : Z.vm.Alike P.U.vm := hZ.alike.trans X.warmed.alike
  obtain ⟨A, hx⟩ := txt_of wi al E V C K hc hb l2
  obtain ⟨A', hy⟩ := txt_of wi al E' V' C' K' hc' hb' l2'
  obtain ⟨v, B, X', ⟨⟨w, hv, hh, hq⟩, hl, hk, hs⟩, st⟩ := SEq.pays x t A cd cs.length (fun j => cs.getD j 0) y t' A' cd' ds.length (fun j => ds.getD j 0) z (tabEq_of (movedEq hZ hw)) hfr hlo m meth c P g ig mk _ X hg hsize hdg hW hn ⟨r1, r2, rfl, hx, hy, sta_is al S, hz⟩
  refine ⟨v, B, X', ⟨[], ⟨?_, rfl, hh⟩, hl, hk, hs⟩, st⟩
  rcases hq with ⟨rfl, q⟩ | ⟨rfl, q⟩
  · exact Or.inl ⟨hv, (same_list cs ds).mp q⟩
  · exact Or.inr ⟨hv, fun e => q ((same_list cs ds).mpr e)⟩
end StrChars.Road
namespace StrChars.Road
open Jvm Sem ClassFile Op Lib Jvm.Stand Jvm.Free Jvm.Free.XT
open Jvm.Lib.Cold (StaticIs)
/-- what backV says of its String, as the contracts of this text ask it: cs's low bytes, coder 0 -/
theorem codOf {cs : List Int32} {n : Nat} (hn : cs.length = n) (hb : ∀ c ∈ cs, ¬ 255 < c) : CodA cs 0 (Int32.ofNat n) ((cs.map lo8).map Value.int) := Or.inl ⟨rfl, by rw [hn], by simp [List.map_map, Function.comp_def], hb⟩
end StrChars.Road
end Jvm.Pilot.@@N@@

namespace Jvm.Pilot.@@N@@
open Jvm Jvm.ClassFile Sem Op Lib Jvm.Free Jvm.Stand Jvm.LawKit Jvm.RoadKit Bundle Jvm.Pilot.@@N@@.Jvm.D
section Own
variable {p : Program} {l : Launch} {e : Env} {R : Room} {s : State} {m : MethodId} {args : Array Value} {below : List Frame} {meth : Method} {c : Code} {T : State} {locs : List Loc} {cells slots : Nat}
/-- from t on the body comes to an end, with at most C cells and S slots made, and Q says of it -/
def own_Comes (p : Program) (e : Env) (below : List Frame) (s : State) (C S : Nat) (Q : Option Value → Heap → List Loc → Prop) (t : State) : Prop :=
  ∃ (U : State) (o : Outcome), Steps p.tables e below t U ∧ U.status = .running ∧ Ended U below o ∧ ∃ v L, o = .returned v ∧ Q v U.heap L ∧ FrameEnd s o U L C S
theorem own_by {C S : Nat} {Q : Option Value → Heap → List Loc → Prop} {t t' : State} (st : ∀ target, Steps p.tables e below t' target → Steps p.tables e below t target) (h : own_Comes p e below s C S Q t') : own_Comes p e below s C S Q t := by
  obtain ⟨U, o, h1, h2⟩ := h
  exact ⟨U, o, st _ h1, h2⟩
theorem own_tr {C S : Nat} {Q : Option Value → Heap → List Loc → Prop} {t t' : State} (st : Steps p.tables e below t t') (h : own_Comes p e below s C S Q t') : own_Comes p e below s C S Q t := by
  obtain ⟨U, o, h1, h2⟩ := h
  exact ⟨U, o, st.trans h1, h2⟩
theorem own_ret (X : Stand p l e R s m args below meth c T locs cells slots) {C S : Nat} {Q : Option Value → Heap → List Loc → Prop} {v : Option Value} {t : State} (hv : meth.sig.returnType = none → v = none) (hlk : meth.locks = false) (hC : cells ≤ C) (hS : slots ≤ S) (hQ : Q v T.heap locs)
    (st : ∀ fs, (∀ (f : JFrame) (acts : List Action), f.method = m → f.locked = none → f.entered = [] → (doReturn e (T.setTop f) acts v).1 = T.setFrames fs) → Steps p.tables e below t (T.setFrames fs)) : own_Comes p e below s C S Q t := by
  obtain ⟨fs, hr, hrun, hended, hW, hsame⟩ := X.leave (v := v) hv hlk
  exact ⟨_, _, st fs hr, hrun, hended, v, locs, rfl, hQ, ⟨_, rfl⟩, hW, hsame.mono hC hS⟩
theorem retI (X : Stand p l e R s m args below meth c T locs cells slots) (hx : p.tables.exec = Jvm.exec) {pc : Nat} {Ls : Array Slot} {z : Int32} {rest : List Value} (hret : meth.sig.returnType = some .int) (hd : decode c.code pc = .ok (.ireturn, 1)) {fs : List Frame}
    (hl : ∀ (f : JFrame) (acts : List Action), f.method = m → f.locked = none → f.entered = [] → (doReturn e (T.setTop f) acts (some (.int z))).1 = T.setFrames fs) : Steps p.tables e below (T.setTop (mkF m pc Ls (.int z :: rest))) (T.setFrames fs) := by
  have hm' : T.vm.method? m = some meth := X.method'
  have hn : narrow .int (.int z) = .int z := rfl
  show Steps p.tables e below (T.setTop { method := m, pc := pc, locals := Ls, stack := _ :: rest, locked := none }) _
  jvm_step X.here [X.here.top, hx, hd, hm', hret, hn]
  first | (intro acts; rw [hl _ acts rfl rfl rfl]) | rw [hl _ _ rfl rfl rfl]
  exact Steps.refl _
theorem own_reta (X : Stand p l e R s m args below meth c T locs cells slots) (hx : p.tables.exec = Jvm.exec) {pc : Nat} {Ls : Array Slot} {w : Value} {t : FieldType} {rest : List Value} (hret : meth.sig.returnType = some t) (ht : t.isReference = true) (hw : w.isRef = true) (hd : decode c.code pc = .ok (.areturn, 1)) {fs : List Frame}
    (hl : ∀ (f : JFrame) (acts : List Action), f.method = m → f.locked = none → f.entered = [] → (doReturn e (T.setTop f) acts (some w)).1 = T.setFrames fs) : Steps p.tables e below (T.setTop (mkF m pc Ls (w :: rest))) (T.setFrames fs) := by
  have hm' : T.vm.method? m = some meth := X.method'
  have hn : narrow t w = w := by cases t <;> first | (cases ht; done) | (cases w <;> rfl)
  rcases ref_cases hw with rfl | ⟨z, rfl⟩
  all_goals
    show Steps p.tables e below (T.setTop { method := m, pc := pc, locals := Ls, stack := _ :: rest, locked := none }) _
    jvm_step X.here [X.here.top, hx, hd, hm', hret, hn, Value.isRef]
    try (refine ⟨ht, ?_⟩)
    first | (intro acts; rw [hl _ acts rfl rfl rfl]) | rw [hl _ _ rfl rfl rfl]
    exact Steps.refl _
/-- what is kept with nothing old written is only added to -/
theorem own_ext {h h' : Heap} (K : Keep h h' []) : Ext h h' := ⟨K.1, fun x c q => K.2.1 x c q nin0⟩
/-- the same, where String constants may have been loaded -/
def own_ComesW (p : Program) (e : Env) (below : List Frame) (s : State) (C S : Nat) (Q : Option Value → Heap → List Loc → Prop) (t : State) : Prop :=
  ∃ (U : State) (o : Outcome), Steps p.tables e below t U ∧ U.status = .running ∧ Ended U below o ∧ ∃ v L, o = .returned v ∧ Q v U.heap L ∧ ReturnedEndW s o U L C S
theorem own_byW {C S : Nat} {Q : Option Value → Heap → List Loc → Prop} {t t' : State} (st : ∀ target, Steps p.tables e below t' target → Steps p.tables e below t target) (h : own_ComesW p e below s C S Q t') : own_ComesW p e below s C S Q t := by
  obtain ⟨U, o, h1, h2⟩ := h
  exact ⟨U, o, st _ h1, h2⟩
theorem own_trW {C S : Nat} {Q : Option Value → Heap → List Loc → Prop} {t t' : State} (st : Steps p.tables e below t t') (h : own_ComesW p e below s C S Q t') : own_ComesW p e below s C S Q t := by
  obtain ⟨U, o, h1, h2⟩ := h
  exact ⟨U, o, st.trans h1, h2⟩
theorem own_retW {vm1 : Vm} (X : Stand p l e R (s.setVm vm1) m args below meth c T locs cells slots) {k : Nat} (hS : s.Since vm1 k) (hk : k ≤ T.heap.size) {C S : Nat} {Q : Option Value → Heap → List Loc → Prop} {v : Option Value} {t : State} (hv : meth.sig.returnType = none → v = none) (hlk : meth.locks = false) (hC : cells ≤ C) (hSl : slots ≤ S) (hQ : Q v T.heap locs)
    (st : ∀ fs, (∀ (f : JFrame) (acts : List Action), f.method = m → f.locked = none → f.entered = [] → (doReturn e (T.setTop f) acts v).1 = T.setFrames fs) → Steps p.tables e below t (T.setFrames fs)) : own_ComesW p e below s C S Q t := by
  obtain ⟨fs, hr, hrun, hended, hE⟩ := X.leaveW hS hk (v := v) hv hlk
  exact ⟨_, _, st fs hr, hrun, hended, v, locs, rfl, hQ, hE.1, hE.2.1, hE.2.2.1, hE.2.2.2.mono hC hSl⟩
end Own
def own_EL : List (String × Nat) := [("com/example/beija_flor/beijaflor/brcode/BrCode", 147), ("java/lang/String", 7)]
section OwnH
variable {p : Program} {l : Launch} {e : Env} {R : Room} {s : State} {m : MethodId} {args : Array Value} {below : List Frame} {meth : Method} {c : Code} {T : State} {locs : List Loc} {cells slots : Nat} {Z : State} {a0 : Array Value}
theorem own_EW (hw : ∀ d ∈ tables_1, d.before a0 Z = true) : EW Z a0 own_EL := (EW.cons (hw _ (List.mem_of_getElem? (i := 79) rfl)) (by decide) (EW.cons (hw _ (List.mem_of_getElem? (i := 102) rfl)) (by decide) EW.nil))
/-- the same, where String constants may have been loaded and those of own_EL are read -/
def own_ComesH (Z : State) (p : Program) (e : Env) (below : List Frame) (s : State) (C S : Nat) (Q : Option Value → Heap → List Loc → Prop) (t : State) : Prop :=
  ∃ (U : State) (o : Outcome), Steps p.tables e below t U ∧ U.status = .running ∧ Ended U below o ∧ ∃ v L, o = .returned v ∧ Q v U.heap L ∧ CHr Z own_EL s.vm s.heap U.vm U.heap ∧ ReturnedEndW s o U L C S
theorem own_byH {C S : Nat} {Q : Option Value → Heap → List Loc → Prop} {t t' : State} (st : ∀ target, Steps p.tables e below t' target → Steps p.tables e below t target) (h : own_ComesH Z p e below s C S Q t') : own_ComesH Z p e below s C S Q t := by
  obtain ⟨U, o, h1, h2⟩ := h
  exact ⟨U, o, st _ h1, h2⟩
theorem own_trH {C S : Nat} {Q : Option Value → Heap → List Loc → Prop} {t t' : State} (st : Steps p.tables e below t t') (h : own_ComesH Z p e below s C S Q t') : own_ComesH Z p e below s C S Q t := by
  obtain ⟨U, o, h1, h2⟩ := h
  exact ⟨U, o, st.trans h1, h2⟩
theorem own_retH {vm1 : Vm} (X : Stand p l e R (s.setVm vm1) m args below meth c T locs cells slots) {k : Nat} (hS : s.Since vm1 k) (hk : k ≤ T.heap.size) (hcr : CHr Z own_EL s.vm s.heap T.vm T.heap) {C S : Nat} {Q : Option Value → Heap → List Loc → Prop} {v : Option Value} {t : State} (hv : meth.sig.returnType = none → v = none) (hlk : meth.locks = false) (hC : cells ≤ C) (hSl : slots ≤ S) (hQ : Q v T.heap locs)
    (st : ∀ fs, (∀ (f : JFrame) (acts : List Action), f.method = m → f.locked = none → f.entered = [] → (doReturn e (T.setTop f) acts v).1 = T.setFrames fs) → Steps p.tables e below t (T.setFrames fs)) : own_ComesH Z p e below s C S Q t := by
  obtain ⟨fs, hr, hrun, hended, hE⟩ := X.leaveW hS hk (v := v) hv hlk
  exact ⟨_, _, st fs hr, hrun, hended, v, locs, rfl, hQ, hcr, hE.1, hE.2.1, hE.2.2.1, hE.2.2.2.mono hC hSl⟩
theorem own_nullsafe {EL : List (String × Nat)} {vm : Vm} {h : Heap} {x : Addr} (hal : Z.vm.Alike vm) (E : Exa Z h x "java/lang/String") (F : Fld Z h x "java/lang/String" "value" "[B" .null) : Safe Z EL vm h x := fun B => by
  obtain ⟨cell, k, e1, e2, e3, -, -⟩ := E
  obtain ⟨cell', cf, kf, i, f, f1, f2, f3, f4, f5, f6, f7⟩ := F
  cases e1.symm.trans f1
  have nm : ∀ {n : String} {c : ClassId}, vm.findClass n = some c → c = cell.cls → n = "java/lang/String" := fun {n c} f e => by
    subst e
    rw [hal.findClass] at f
    obtain ⟨k1, q1, q2⟩ := Vm.findClass_spec f
    obtain ⟨k2, q3, q4⟩ := Vm.findClass_spec e2
    cases q1.symm.trans q3
    exact q2.symm.trans q4
  obtain ⟨p, -, u, a, -, q, -, G, rfl | rfl⟩ := B
  · cases (show h[q.sa]? = some q.sC from G.ha).symm.trans e1
    obtain ⟨cS, ⟨⟨s1, s2, s3, ⟨cv, kv, iv, s4, s4'⟩, s5, s6, s7, s8, s9⟩, -, -⟩, -⟩ := G
    obtain ⟨kv', z4⟩ := ff_back (U := Wst Z vm h) hal s4
    cases f2.symm.trans z4
    cases s8.symm.trans f7
  · cases (show h[q.sd]? = some q.SA from G.hd).symm.trans e1
    obtain ⟨cS, -, -, g, -⟩ := G
    exact absurd (nm g rfl) (by decide)
end OwnH
def own_Str (Z : State) (h : Heap) (x : Addr) (cs : List Int32) : Prop :=
  Exa Z h x "java/lang/String" ∧ ∃ (t : Addr) (kb : ClassId) (N2 : Int32) (vs : List Value), Fld Z h x "java/lang/String" "value" "[B" (.ref t) ∧ Fld Z h x "java/lang/String" "coder" "B" (.int 0) ∧ Arv Z h t kb .byte N2 vs (.int 0) ∧ StrChars.Road.CodA cs 0 N2 vs ∧ (∀ c ∈ cs, ¬ c < 0 ∧ ¬ (65535 : Int32) < c) ∧ cs.length ≤ 4000
theorem own_Str.ext {Z : State} {h h' : Heap} {x : Addr} {cs : List Int32} (A : own_Str Z h x cs) (E : Ext h h') : own_Str Z h' x cs := by
  obtain ⟨a1, t, kb, N2, vs, a2, a3, a4, a5⟩ := A
  exact ⟨a1.ext E, t, kb, N2, vs, a2.ext E, a3.ext E, a4.ext E, a5⟩
def own_im (Z : State) (h : Heap) (w : Value) (z : Int32) : Prop :=
  (w = .null ∧ z = (0 : Int32)) ∨ ∃ (x : Addr) (cs : List Int32), w = .ref x ∧ own_Str Z h x cs ∧ ((cs = [(49 : Int32), 50] ∧ z = (1 : Int32)) ∨ (¬ cs = [(49 : Int32), 50] ∧ z = (0 : Int32)))
theorem own_im.ext {Z : State} {h h' : Heap} {w : Value} {z : Int32} (A : own_im Z h w z) (E : Ext h h') : own_im Z h' w z := by
  rcases A with q | ⟨x, cs, q1, q2, q3⟩
  · exact Or.inl q
  · exact Or.inr ⟨x, cs, q1, q2.ext E, q3⟩
theorem own_im.ref {Z : State} {h : Heap} {w : Value} {z : Int32} (A : own_im Z h w z) : w.isRef = true := by
  rcases A with ⟨rfl, -⟩ | ⟨x, cs, rfl, -⟩ <;> rfl
def own_url (w : Value) (z : Int32) : Prop := (w = .null ∧ z = (0 : Int32)) ∨ ∃ x : Addr, w = .ref x ∧ z = (1 : Int32)
theorem own_url.ref {w : Value} {z : Int32} (A : own_url w z) : w.isRef = true := by
  rcases A with ⟨rfl, -⟩ | ⟨x, rfl, -⟩ <;> rfl
theorem own_nrw {n : String} {w : Value} (i : w.isRef = true) : narrow (.object n) w = w := by rcases ref_cases i with rfl | ⟨z, rfl⟩ <;> rfl
theorem own_fit {n : String} {w : Value} (i : w.isRef = true) : fits (.object n) w = true := by rcases ref_cases i with rfl | ⟨z, rfl⟩ <;> rfl
theorem own_cat {w : Value} (i : w.isRef = true) : w.category = 1 := by rcases ref_cases i with rfl | ⟨z, rfl⟩ <;> rfl
theorem own_up {c : Int32} (h : ¬ c < 0 ∧ ¬ (255 : Int32) < c) : ¬ c < 0 ∧ ¬ (65535 : Int32) < c := by
  have e0 : (0 : Int32).toInt = 0 := by decide
  have e : (255 : Int32).toInt = 255 := by decide
  have e' : (65535 : Int32).toInt = 65535 := by decide
  rw [Int32.lt_iff_toInt_lt, Int32.lt_iff_toInt_lt] at h ⊢; omega
theorem own_and255 (x : Int32) : ¬ ((x &&& (255 : Int32)).toUInt32.toUInt16.toUInt32.toInt32) < 0 ∧ ¬ (255 : Int32) < ((x &&& (255 : Int32)).toUInt32.toUInt16.toUInt32.toInt32) := by
  rw [i2c_mask]
  have e : (255 : Int32).toInt = 255 := by decide
  have h := c_and x (255 : Int32) (by rw [e]; decide)
  rw [e] at h
  have e0 : (0 : Int32).toInt = 0 := by decide
  rw [Int32.lt_iff_toInt_lt, Int32.lt_iff_toInt_lt]; omega
theorem own_narc {x : Int32} (h : ¬ x < 0 ∧ ¬ (255 : Int32) < x) : nar .char x = x := by
  show x.toUInt32.toUInt16.toUInt32.toInt32 = x
  have e0 : (0 : Int32).toInt = 0 := by decide
  have e : (255 : Int32).toInt = 255 := by decide
  have q := c_i2c x
  rw [Int32.lt_iff_toInt_lt, Int32.lt_iff_toInt_lt] at h
  apply Int32.toInt_inj.mp; omega
theorem own_n0 : ¬ ([] : List Int32) = [(49 : Int32), 50] := by simp
theorem own_n1 (x : Int32) : ¬ [x] = [(49 : Int32), 50] := by simp
theorem own_n3 (x y z : Int32) : ¬ [x, y, z] = [(49 : Int32), 50] := by simp
theorem own_y2 {x y : Int32} (h : x = 49) (k : y = 50) : [x, y] = [(49 : Int32), 50] := by rw [h, k]
theorem own_n2a {x y : Int32} (h : ¬ x = 49) : ¬ [x, y] = [(49 : Int32), 50] := fun q => h (List.cons.inj q).1
theorem own_n2b {x y : Int32} (h : ¬ y = 50) : ¬ [x, y] = [(49 : Int32), 50] := fun q => h (List.cons.inj (List.cons.inj q).2).1
theorem own_49 : ¬ (49 : Int32) < 0 ∧ ¬ (255 : Int32) < 49 := by decide
theorem own_50 : ¬ (50 : Int32) < 0 ∧ ¬ (255 : Int32) < 50 := by decide

def Q2 (Z : State) (r0 : Addr) (h0 : Heap) (n0 : Nat) (v : Option Value) (h : Heap) (L : List Loc) : Prop := v = none ∧ Fr n0 L ∧ Keep h0 h [r0] ∧ own_Str Z h r0 []
theorem ef_rm2 (m : MethodId) (x0 : Addr) (x1 : Addr) (x2 : Int32) (x3 : Int32) : entryFrame m #[(.ref x0), (.ref x1), (.int x2), (.int x3), .null] 6 = mkF m 0 #[.val (.ref x0), .val (.ref x1), .val (.int x2), .val (.int x3), .val .null, .unset] [] := by first | (simp [entryFrame, mkF, argsToLocals, Value.category]; done) | rfl
theorem pn_java_lang_String : plainName "java/lang/String" = true := by first | (simp [plainName, overriddenIn]; done) | decide +kernel
theorem d2_0 : decode jdk_42_method_149_code 0 = .ok (.aload_n 0, 1) := by decide +kernel
theorem d2_1 : decode jdk_42_method_149_code 1 = .ok (.invokespecial 1, 3) := by decide +kernel
theorem d2_4 : decode jdk_42_method_149_code 4 = .ok (.iload_n 3, 1) := by decide +kernel
theorem d2_5 : decode jdk_42_method_149_code 5 = .ok (.ifCond .ne 22, 3) := by decide +kernel
theorem d2_8 : decode jdk_42_method_149_code 8 = .ok (.aload_n 0, 1) := by decide +kernel
theorem d2_9 : decode jdk_42_method_149_code 9 = .ok (.ldc 7, 2) := by decide +kernel
theorem d2_11 : decode jdk_42_method_149_code 11 = .ok (.getfield 9, 3) := by decide +kernel
theorem d2_14 : decode jdk_42_method_149_code 14 = .ok (.putfield 9, 3) := by decide +kernel
theorem d2_17 : decode jdk_42_method_149_code 17 = .ok (.aload_n 0, 1) := by decide +kernel
theorem d2_18 : decode jdk_42_method_149_code 18 = .ok (.ldc 7, 2) := by decide +kernel
theorem d2_20 : decode jdk_42_method_149_code 20 = .ok (.getfield 15, 3) := by decide +kernel
theorem d2_23 : decode jdk_42_method_149_code 23 = .ok (.putfield 15, 3) := by decide +kernel
theorem d2_26 : decode jdk_42_method_149_code 26 = .ok (.return_, 1) := by decide +kernel
set_option maxRecDepth 65536 in
set_option maxHeartbeats 40000000 in
theorem rm2 (l : Launch) (Z : State) (a0 : Array Value) (hw : ∀ d ∈ tables_1, d.before a0 Z = true) (ws : List Jvm.Cond) (r0 r1 : Addr) (h0 : Heap) (n0 : Nat) (Z0 : n0 ≤ h0.size) (Et : Exa Z h0 r0 "java/lang/String") (Fv : Fld Z h0 r0 "java/lang/String" "value" "[B" .null) (Fc : Fld Z h0 r0 "java/lang/String" "coder" "B" (.int (0 : Int32))) (g_r0 : n0 ≤ r0) :
    MetFree l (⟨"java/lang/String", "<init>", "([CIILjava/lang/Void;)V"⟩ : MethodName) (head1 (Jvm.Cond.code (⟨"java/lang/String", "<init>", "([CIILjava/lang/Void;)V"⟩ : MethodName) jdk_42_method_149_code 6 none :: ws) ({ frames := 1, cells := 4, slots := 8, locals := 12 } : Room)) (fun aX UX => aX = #[(.ref r0), (.ref r1), (.int (0 : Int32)), (.int (0 : Int32)), .null] ∧ Z.Warmed39 UX.vm ∧ UX.heap = h0 ∧ CHv Z own_EL UX.vm h0) (fun _ _ _ _ _ => True) (fun _ UX oX UX' => ∃ vX LX, oX = .returned vX ∧ Q2 Z r0 h0 n0 vX UX'.heap LX ∧ CHr Z own_EL UX.vm UX.heap UX'.vm UX'.heap ∧ ReturnedEndW UX oX UX' LX ({ frames := 1, cells := 4, slots := 8, locals := 12 } : Room).cells ({ frames := 1, cells := 4, slots := 8, locals := 12 } : Room).slots) := by
  refine MetFree.of_bodySF (plainFor_of_name pn_java_lang_String) hisR ?_
  intro p e s m args below meth c s₁ Bd hml0 hP hK
  obtain ⟨rfl, hZ, hh, hCH0⟩ := hP
  have hx := Bd.exec
  have hby := Bd.bytes
  have hml : c.maxLocals = 6 := hml0
  have hown : s.vm.findClass "java/lang/String" = some m.cls := findClass_of_methodNamed Bd.named
  have hnm := (name_of_methodNamed Bd.named Bd.method).1
  have X0 : Stand p l e ({ frames := 1, cells := 4, slots := 8, locals := 12 } : Room) (s.setVm s.vm) m #[(.ref r0), (.ref r1), (.int (0 : Int32)), (.int (0 : Int32)), .null] below meth c s₁ [] 0 0 := Stand.of_body Bd
  have hS : s.Since s.vm 0 := (State.WarmedH.refl s).since 0
  have hk : 0 ≤ h0.size := Nat.zero_le _
  have hZ : Z.Warmed39 (s.setVm s.vm).vm := hZ
  have hown : (s.setVm s.vm).vm.findClass "java/lang/String" = some m.cls := hown
  have hEL := own_EW hw
  have CH : CHr Z own_EL (s.setVm s.vm).vm h0 (s.setVm s.vm).vm h0 := CHr.refl hCH0
  have e0 : s₁.heap = h0 := by rw [← hh, Bd.state]; rfl
  have N0 := Fr.nil n0
  show own_ComesH Z p e below s ({ frames := 1, cells := 4, slots := 8, locals := 12 } : Room).cells ({ frames := 1, cells := 4, slots := 8, locals := 12 } : Room).slots (Q2 Z r0 h0 n0) _
  rw [show entryFrame m #[(.ref r0), (.ref r1), (.int (0 : Int32)), (.int (0 : Int32)), .null] 6 = mkF m 0 #[.val (.ref r0), .val (.ref r1), .val (.int (0 : Int32)), .val (.int (0 : Int32)), .val .null, .unset] [] from ef_rm2 m r0 r1 (0 : Int32) (0 : Int32)]
  show own_ComesH Z p e below s _ _ _ (s₁.setTop (mkF m 0 #[.val (.ref r0), .val (.ref r1), .val (.int (0 : Int32)), .val (.int (0 : Int32)), .val .null, .unset] []))
  refine own_byH (fun _ kS => XS.aloadN X0.here hx rfl (hb hby d2_0) rfl rfl kS) ?_
  show own_ComesH Z p e below s _ _ _ (s₁.setTop (mkF m 1 #[.val (.ref r0), .val (.ref r1), .val (.int (0 : Int32)), .val (.int (0 : Int32)), .val .null, .unset] [(.ref r0)]))
  obtain ⟨T1, X1, e1, st1⟩ := initO X0 hx hZ hown (hw _ (List.mem_of_getElem? (i := 11) rfl)) (hw _ (List.mem_of_getElem? (i := 12) rfl)) (hw _ (List.mem_of_getElem? (i := 13) rfl)) e0 (g := (mkF m 1 #[.val (.ref r0), .val (.ref r1), .val (.int (0 : Int32)), .val (.int (0 : Int32)), .val .null, .unset] [(.ref r0)])) rfl (by rw [hml]; rfl) rfl (hb hby d2_1) (by decide) (W := 0) (by show 2 * 0 + _ ≤ _; exact Nat.le_of_eq rfl) (by decide)
  refine own_byH st1 ?_
  show own_ComesH Z p e below s _ _ _ (T1.setTop (mkF m 4 #[.val (.ref r0), .val (.ref r1), .val (.int (0 : Int32)), .val (.int (0 : Int32)), .val .null, .unset] []))
  refine own_byH (fun _ kS => XS.iloadN X1.here hx rfl (hb hby d2_4) rfl kS) ?_
  show own_ComesH Z p e below s _ _ _ (T1.setTop (mkF m 5 #[.val (.ref r0), .val (.ref r1), .val (.int (0 : Int32)), .val (.int (0 : Int32)), .val .null, .unset] [(.int (0 : Int32))]))
  have hb2 : (0 : Int32) = (0 : Int32) := by decide
  refine own_byH (fun _ kS => XS.ifNo X1.here hx rfl (hb hby d2_5) rfl ((if0 _ _).trans (teq hb2).2) kS) ?_
  show own_ComesH Z p e below s _ _ _ (T1.setTop (mkF m 8 #[.val (.ref r0), .val (.ref r1), .val (.int (0 : Int32)), .val (.int (0 : Int32)), .val .null, .unset] []))
  refine own_byH (fun _ kS => XS.aloadN X1.here hx rfl (hb hby d2_8) rfl rfl kS) ?_
  show own_ComesH Z p e below s _ _ _ (T1.setTop (mkF m 9 #[.val (.ref r0), .val (.ref r1), .val (.int (0 : Int32)), .val (.int (0 : Int32)), .val .null, .unset] [(.ref r0)]))
  have wS : ∀ a ∈ Bundle.stringAtoms, a.before a0 Z = true := fun d hd => hw d ((by decide +kernel : ∀ d ∈ Bundle.stringAtoms, d ∈ tables_1) d hd)
  obtain ⟨a3, T3, h3, k3, b3, kb3, X3, e3, E3, hS3, hk3, hZ3, hown3, Ea3, Fc3, Fv3, Vb3, la3, lb3, CQ3, Li3, ne3, st3⟩ := ldcCH X1 hx hZ hown (hw _ (List.mem_of_getElem? (i := 102) rfl)) wS e1 hS hk hEL (List.mem_of_getElem? (i := 1) rfl) CH.1 (vs := []) (z := (0 : Int32)) ⟨by decide, rfl⟩ (by decide) rfl (g := (mkF m 9 #[.val (.ref r0), .val (.ref r1), .val (.int (0 : Int32)), .val (.int (0 : Int32)), .val .null, .unset] [(.ref r0)])) rfl (hb hby d2_9) (n := 0) (by decide) (by decide) (by decide) (by decide)
  refine own_byH st3 ?_
  have CR4 := CQ3
  have CH4 := CH.trans CR4
  show own_ComesH Z p e below s _ _ _ (T3.setTop (mkF m 11 #[.val (.ref r0), .val (.ref r1), .val (.int (0 : Int32)), .val (.int (0 : Int32)), .val .null, .unset] [(.ref a3), (.ref r0)]))
  have sf5 := CR4.safe Et.lt (own_nullsafe hZ.alike Et Fv)
  obtain ⟨T6, X6, e6, st6⟩ := getF X3 hx hZ3 hown3 (host := "") (Or.inl (hw _ (List.mem_of_getElem? (i := 28) rfl))) Via.refl e3 Fv3 (g := (mkF m 11 #[.val (.ref r0), .val (.ref r1), .val (.int (0 : Int32)), .val (.int (0 : Int32)), .val .null, .unset] [(.ref a3), (.ref r0)])) rfl rfl (hb hby d2_11)
  refine own_byH st6 ?_
  show own_ComesH Z p e below s _ _ _ (T6.setTop (mkF m 14 #[.val (.ref r0), .val (.ref r1), .val (.int (0 : Int32)), .val (.int (0 : Int32)), .val .null, .unset] [(.ref b3), (.ref r0)]))
  obtain ⟨T7, h7, X7, e7, W7, st7⟩ := putF X6 hx hZ3 hown3 (host := "") (Or.inl (hw _ (List.mem_of_getElem? (i := 28) rfl))) Via.refl e6 (Fv.ext E3) (Et.ext E3) (Or.inr ⟨(hw _ (List.mem_of_getElem? (i := 29) rfl)), rfl, hnm⟩) (hw _ (List.mem_of_getElem? (i := 1) rfl)) (ty := (.array .byte)) (by decide) rfl rfl (g := (mkF m 14 #[.val (.ref r0), .val (.ref r1), .val (.int (0 : Int32)), .val (.int (0 : Int32)), .val .null, .unset] [(.ref b3), (.ref r0)])) rfl rfl (hb hby d2_14)
  refine own_byH st7 ?_
  have Fw7 := (Fv.ext E3).same W7
  have CR8 := CHr.wr W7 sf5 CH4.1
  have CH8 := CH4.trans CR8
  have N7 := Fr.snoc X7 N0 g_r0
  show own_ComesH Z p e below s _ _ _ (T7.setTop (mkF m 17 #[.val (.ref r0), .val (.ref r1), .val (.int (0 : Int32)), .val (.int (0 : Int32)), .val .null, .unset] []))
  refine own_byH (fun _ kS => XS.aloadN X7.here hx rfl (hb hby d2_17) rfl rfl kS) ?_
  show own_ComesH Z p e below s _ _ _ (T7.setTop (mkF m 18 #[.val (.ref r0), .val (.ref r1), .val (.int (0 : Int32)), .val (.int (0 : Int32)), .val .null, .unset] [(.ref r0)]))
  obtain ⟨a9, T9, h9, k9, b9, kb9, X9, e9, E9, hS9, hk9, hZ9, hown9, Ea9, Fc9, Fv9, Vb9, la9, lb9, CQ9, Li9, ne9, st9⟩ := ldcCH X7 hx hZ3 hown3 (hw _ (List.mem_of_getElem? (i := 102) rfl)) wS e7 hS3 (Nat.le_trans hk3 (Keep.of_wr W7).1) hEL (List.mem_of_getElem? (i := 1) rfl) CH8.1 (vs := []) (z := (0 : Int32)) ⟨by decide, rfl⟩ (by decide) rfl (g := (mkF m 18 #[.val (.ref r0), .val (.ref r1), .val (.int (0 : Int32)), .val (.int (0 : Int32)), .val .null, .unset] [(.ref r0)])) rfl (hb hby d2_18) (n := 0) (by decide) (by decide) (by decide) (by decide)
  refine own_byH st9 ?_
  have CR10 := CQ9
  have CH10 := CH8.trans CR10
  show own_ComesH Z p e below s _ _ _ (T9.setTop (mkF m 20 #[.val (.ref r0), .val (.ref r1), .val (.int (0 : Int32)), .val (.int (0 : Int32)), .val .null, .unset] [(.ref a9), (.ref r0)]))
  obtain ⟨T11, X11, e11, st11⟩ := getF X9 hx hZ9 hown9 (host := "") (Or.inl (hw _ (List.mem_of_getElem? (i := 26) rfl))) Via.refl e9 Fc9 (g := (mkF m 20 #[.val (.ref r0), .val (.ref r1), .val (.int (0 : Int32)), .val (.int (0 : Int32)), .val .null, .unset] [(.ref a9), (.ref r0)])) rfl rfl (hb hby d2_20)
  refine own_byH st11 ?_
  show own_ComesH Z p e below s _ _ _ (T11.setTop (mkF m 23 #[.val (.ref r0), .val (.ref r1), .val (.int (0 : Int32)), .val (.int (0 : Int32)), .val .null, .unset] [(.int (0 : Int32)), (.ref r0)]))
  have c12 := (((Fc.ext E3).other W7 (Or.inr (slot_ne (Or.inr (hw _ (List.mem_of_getElem? (i := 27) rfl))) (Or.inr (hw _ (List.mem_of_getElem? (i := 29) rfl))) (by decide) (t := .byte) (t' := (.array .byte)) (by decide) (by decide)))).ext E9)
  obtain ⟨T13, h13, X13, e13, W13, st13⟩ := putFN X11 hx hZ9 hown9 (hw _ (List.mem_of_getElem? (i := 26) rfl)) Via.refl e11 c12 (((Et.ext E3).wr W7).ext E9) (Or.inr ⟨(hw _ (List.mem_of_getElem? (i := 27) rfl)), rfl, hnm⟩) (hw _ (List.mem_of_getElem? (i := 1) rfl)) (ty := .byte) (v' := (.int (0 : Int32))) (by decide) rfl (by first | rfl | decide | exact fits_nar_byte _) (g := (mkF m 23 #[.val (.ref r0), .val (.ref r1), .val (.int (0 : Int32)), .val (.int (0 : Int32)), .val .null, .unset] [(.int (0 : Int32)), (.ref r0)])) rfl rfl (hb hby d2_23)
  refine own_byH st13 ?_
  have Fw13 := c12.same W13
  have sf15 := (CR8.trans CR10).safe (Nat.lt_of_lt_of_le Et.lt CR4.2.1) sf5
  have CR14 := CHr.wr W13 sf15 CH10.1
  have CH14 := CH10.trans CR14
  have N13 := Fr.snoc X13 N7 g_r0
  show own_ComesH Z p e below s _ _ _ (T13.setTop (mkF m 26 #[.val (.ref r0), .val (.ref r1), .val (.int (0 : Int32)), .val (.int (0 : Int32)), .val .null, .unset] []))
  have c16 := ((Fw7.ext E9).other W13 (Or.inr (slot_ne (Or.inr (hw _ (List.mem_of_getElem? (i := 29) rfl))) (Or.inr (hw _ (List.mem_of_getElem? (i := 27) rfl))) (by decide) (t := (.array .byte)) (t' := .byte) (by decide) (by decide))))
  have c17 := (((Vb3.other W7 (Ne.symm (ne3 _ sf5).2)).ext E9).other W13 (Ne.symm (ne3 _ sf5).2))
  have hkr18 := (Nat.le_trans hk9 (Keep.of_wr W13).1)
  have hcr18 := CH14.trans (CHv.at X13 hZ9 hEL CH14.1)
  refine own_retH X13 hS9 (by rw [e13]; exact hkr18) (by rw [hh]; rw [e13]; exact hcr18) (v := none) (fun _ => rfl) Bd.notSynchronized (by decide) (by decide) ?_ (fun fs hr => X13.returnOut hx Bd.returns (hb hby d2_26) hr)
  rw [e13]; exact ⟨rfl, N13, (((((Keep.refl _ _).ext E3).wr W7 (Or.inl (List.mem_of_getElem? (i := 0) rfl))).ext E9).wr W13 (Or.inl (List.mem_of_getElem? (i := 0) rfl))), ((((Et.ext E3).wr W7).ext E9).wr W13), b3, kb3, _, _, c16, Fw13, c17, Or.inl ⟨rfl, rfl, rfl, by decide⟩, by decide, by decide⟩
def Q1 (Z : State) (r0 : Addr) (h0 : Heap) (n0 : Nat) (v : Option Value) (h : Heap) (L : List Loc) : Prop := v = none ∧ Fr n0 L ∧ Keep h0 h [r0] ∧ own_Str Z h r0 []
theorem ef_rm1 (m : MethodId) (x0 : Addr) (x1 : Addr) : entryFrame m #[(.ref x0), (.ref x1)] 2 = mkF m 0 #[.val (.ref x0), .val (.ref x1)] [] := by first | (simp [entryFrame, mkF, argsToLocals, Value.category]; done) | rfl
theorem d1_0 : decode jdk_42_method_3_code 0 = .ok (.aload_n 0, 1) := by decide +kernel
theorem d1_1 : decode jdk_42_method_3_code 1 = .ok (.aload_n 1, 1) := by decide +kernel
theorem d1_2 : decode jdk_42_method_3_code 2 = .ok (.iconst 0, 1) := by decide +kernel
theorem d1_3 : decode jdk_42_method_3_code 3 = .ok (.aload_n 1, 1) := by decide +kernel
theorem d1_4 : decode jdk_42_method_3_code 4 = .ok (.arraylength, 1) := by decide +kernel
theorem d1_5 : decode jdk_42_method_3_code 5 = .ok (.aconst_null, 1) := by decide +kernel
theorem pd___CIILjava_lang_Void__V_941 : parseMethodDescriptor "([CIILjava/lang/Void;)V" = some ⟨[(.array .char), .int, .int, (.object "java/lang/Void")], none⟩ := by decide +kernel
theorem d1_6 : decode jdk_42_method_3_code 6 = .ok (.invokespecial 27, 3) := by decide +kernel
theorem d1_9 : decode jdk_42_method_3_code 9 = .ok (.return_, 1) := by decide +kernel
set_option maxRecDepth 65536 in
set_option maxHeartbeats 40000000 in
theorem rm1 (l : Launch) (Z : State) (a0 : Array Value) (hw : ∀ d ∈ tables_1, d.before a0 Z = true) (ws : List Jvm.Cond) (r0 r1 : Addr) (kc : ClassId) (h0 : Heap) (n0 : Nat) (Z0 : n0 ≤ h0.size) (Et : Exa Z h0 r0 "java/lang/String") (Fv : Fld Z h0 r0 "java/lang/String" "value" "[B" .null) (Fc : Fld Z h0 r0 "java/lang/String" "coder" "B" (.int (0 : Int32))) (g_r0 : n0 ≤ r0) (Vr : Arv Z h0 r1 kc .char (0 : Int32) [] (.int (0 : Int32))) :
    MetFree l (⟨"java/lang/String", "<init>", "([C)V"⟩ : MethodName) (head1 (Jvm.Cond.code (⟨"java/lang/String", "<init>", "([C)V"⟩ : MethodName) jdk_42_method_3_code 2 none :: ws) ({ frames := 2, cells := 4, slots := 8, locals := 29 } : Room)) (fun aX UX => aX = #[(.ref r0), (.ref r1)] ∧ Z.Warmed39 UX.vm ∧ UX.heap = h0 ∧ CHv Z own_EL UX.vm h0) (fun _ _ _ _ _ => True) (fun _ UX oX UX' => ∃ vX LX, oX = .returned vX ∧ Q1 Z r0 h0 n0 vX UX'.heap LX ∧ CHr Z own_EL UX.vm UX.heap UX'.vm UX'.heap ∧ ReturnedEndW UX oX UX' LX ({ frames := 2, cells := 4, slots := 8, locals := 29 } : Room).cells ({ frames := 2, cells := 4, slots := 8, locals := 29 } : Room).slots) := by
  refine MetFree.of_bodySF (plainFor_of_name pn_java_lang_String) hisR ?_
  intro p e s m args below meth c s₁ Bd hml0 hP hK
  obtain ⟨rfl, hZ, hh, hCH0⟩ := hP
  have hx := Bd.exec
  have hby := Bd.bytes
  have hml : c.maxLocals = 2 := hml0
  have hown : s.vm.findClass "java/lang/String" = some m.cls := findClass_of_methodNamed Bd.named
  have hnm := (name_of_methodNamed Bd.named Bd.method).1
  have X0 : Stand p l e ({ frames := 2, cells := 4, slots := 8, locals := 29 } : Room) (s.setVm s.vm) m #[(.ref r0), (.ref r1)] below meth c s₁ [] 0 0 := Stand.of_body Bd
  have hS : s.Since s.vm 0 := (State.WarmedH.refl s).since 0
  have hk : 0 ≤ h0.size := Nat.zero_le _
  have hZ : Z.Warmed39 (s.setVm s.vm).vm := hZ
  have hown : (s.setVm s.vm).vm.findClass "java/lang/String" = some m.cls := hown
  have hEL := own_EW hw
  have CH : CHr Z own_EL (s.setVm s.vm).vm h0 (s.setVm s.vm).vm h0 := CHr.refl hCH0
  have e0 : s₁.heap = h0 := by rw [← hh, Bd.state]; rfl
  have N0 := Fr.nil n0
  show own_ComesH Z p e below s ({ frames := 2, cells := 4, slots := 8, locals := 29 } : Room).cells ({ frames := 2, cells := 4, slots := 8, locals := 29 } : Room).slots (Q1 Z r0 h0 n0) _
  rw [show entryFrame m #[(.ref r0), (.ref r1)] 2 = mkF m 0 #[.val (.ref r0), .val (.ref r1)] [] from ef_rm1 m r0 r1]
  show own_ComesH Z p e below s _ _ _ (s₁.setTop (mkF m 0 #[.val (.ref r0), .val (.ref r1)] []))
  refine own_byH (fun _ kS => XS.aloadN X0.here hx rfl (hb hby d1_0) rfl rfl kS) ?_
  show own_ComesH Z p e below s _ _ _ (s₁.setTop (mkF m 1 #[.val (.ref r0), .val (.ref r1)] [(.ref r0)]))
  refine own_byH (fun _ kS => XS.aloadN X0.here hx rfl (hb hby d1_1) rfl rfl kS) ?_
  show own_ComesH Z p e below s _ _ _ (s₁.setTop (mkF m 2 #[.val (.ref r0), .val (.ref r1)] [(.ref r1), (.ref r0)]))
  refine own_byH (fun _ kS => XS.iconst X0.here hx rfl (hb hby d1_2) kS) ?_
  show own_ComesH Z p e below s _ _ _ (s₁.setTop (mkF m 3 #[.val (.ref r0), .val (.ref r1)] [(.int (0 : Int32)), (.ref r1), (.ref r0)]))
  refine own_byH (fun _ kS => XS.aloadN X0.here hx rfl (hb hby d1_3) rfl rfl kS) ?_
  show own_ComesH Z p e below s _ _ _ (s₁.setTop (mkF m 4 #[.val (.ref r0), .val (.ref r1)] [(.ref r1), (.int (0 : Int32)), (.ref r1), (.ref r0)]))
  have Vo19 := Vr
  obtain ⟨cl19, Ar19, qA19, SA19, NA19, HA19, GA19⟩ := Vo19
  refine own_byH (fun _ kS => X0.arraylength hx (by rw [e0]; exact Ar19.1) (State.isArrayOf_alike hZ.alike Ar19.2.1) (g := (mkF m 4 #[.val (.ref r0), .val (.ref r1)] [(.ref r1), (.int (0 : Int32)), (.ref r1), (.ref r0)])) rfl rfl (hb hby d1_4) _ kS) ?_
  rw [len_of SA19 NA19]
  show own_ComesH Z p e below s _ _ _ (s₁.setTop (mkF m 5 #[.val (.ref r0), .val (.ref r1)] [(.int (0 : Int32)), (.int (0 : Int32)), (.ref r1), (.ref r0)]))
  refine own_byH (fun _ kS => XS.aconstNull X0.here hx rfl (hb hby d1_5) kS) ?_
  show own_ComesH Z p e below s _ _ _ (s₁.setTop (mkF m 6 #[.val (.ref r0), .val (.ref r1)] [.null, (.int (0 : Int32)), (.int (0 : Int32)), (.ref r1), (.ref r0)]))
  obtain ⟨_, _, ⟨T20, L20, k20, n20⟩, -, Xw20, hs20, gr20, ⟨Lc20, hQ20, l20, y20, z20, CQ20⟩, st20⟩ := X0.specialBackS hx (y := (⟨"java/lang/String", "<init>", "([CIILjava/lang/Void;)V"⟩ : MethodName)) rfl hown (mvT hZ (hw _ (List.mem_of_getElem? (i := 7) rfl))) (mvT hZ (hw _ (List.mem_of_getElem? (i := 8) rfl))) (mvT hZ (hw _ (List.mem_of_getElem? (i := 10) rfl))) (by decide) (backOfSH (W := 0) (rm2 l Z a0 hw [] r0 r1 h0 n0 Z0 Et Fv Fc g_r0) hZ (hw _ (List.mem_of_getElem? (i := 10) rfl)) (hw _ (List.mem_of_getElem? (i := 2) rfl)) (by decide) (by decide) hEL CH.1) (g := (mkF m 6 #[.val (.ref r0), .val (.ref r1)] [.null, (.int (0 : Int32)), (.int (0 : Int32)), (.ref r1), (.ref r0)])) rfl (by rw [hml]; rfl) (Steps.refl _) (a := r0) (argsL := [(.ref r1), (.int (0 : Int32)), (.int (0 : Int32)), .null]) (rest := []) (lenOf pd___CIILjava_lang_Void__V_941 rfl) rfl (by show 2 * 0 + _ ≤ _; exact Nat.le_of_eq rfl) (hb hby d1_6) (fun _ _ => ⟨rfl, e0, (by decide : 0 + 4 ≤ _), (by decide : 0 + 8 ≤ _)⟩)
  dsimp only [Pt.U, Pt.locs, Pt.cells, Pt.slots] at Xw20 l20 y20 z20 st20 hQ20 hs20 gr20 CQ20
  subst l20 y20 z20
  obtain ⟨X20, hS20, hZ20, hown20⟩ := rebS hS (by rw [e0]; exact hk) Xw20 hs20 gr20 hZ hown
  obtain ⟨rfl, N20q, K20, Y20⟩ := hQ20
  have N20 := Fr.app N0 N20q
  refine own_trH st20 ?_
  have CR21 := CQ20
  have CH21 := CH.trans CR21
  show own_ComesH Z p e below s _ _ _ (T20.setTop (mkF m 9 #[.val (.ref r0), .val (.ref r1)] []))
  have hkr22 := (Nat.le_refl (Array.size T20.heap))
  have hcr22 := CH21.trans (CHv.at X20 hZ20 hEL CH21.1)
  refine own_retH X20 hS20 (by exact hkr22) (by rw [hh]; exact hcr22) (v := none) (fun _ => rfl) Bd.notSynchronized (by decide) (by decide) ?_ (fun fs hr => X20.returnOut hx Bd.returns (hb hby d1_9) hr)
  exact ⟨rfl, N20, K20, Y20⟩
def Q14 (Z : State) (r0 : Addr) (h0 : Heap) (n0 : Nat) (v : Option Value) (h : Heap) (L : List Loc) : Prop := v = none ∧ Fr n0 L ∧ Keep h0 h [r0]
theorem ef_rm14 (m : MethodId) (x0 : Addr) (x1 : Addr) (x2 : Int32) : entryFrame m #[(.ref x0), (.ref x1), (.int x2)] 3 = mkF m 0 #[.val (.ref x0), .val (.ref x1), .val (.int x2)] [] := by first | (simp [entryFrame, mkF, argsToLocals, Value.category]; done) | rfl
theorem d14_0 : decode jdk_42_method_151_code 0 = .ok (.aload_n 0, 1) := by decide +kernel
theorem d14_1 : decode jdk_42_method_151_code 1 = .ok (.invokespecial 1, 3) := by decide +kernel
theorem d14_4 : decode jdk_42_method_151_code 4 = .ok (.aload_n 0, 1) := by decide +kernel
theorem d14_5 : decode jdk_42_method_151_code 5 = .ok (.aload_n 1, 1) := by decide +kernel
theorem d14_6 : decode jdk_42_method_151_code 6 = .ok (.putfield 9, 3) := by decide +kernel
theorem d14_9 : decode jdk_42_method_151_code 9 = .ok (.aload_n 0, 1) := by decide +kernel
theorem d14_10 : decode jdk_42_method_151_code 10 = .ok (.iload_n 2, 1) := by decide +kernel
theorem d14_11 : decode jdk_42_method_151_code 11 = .ok (.putfield 15, 3) := by decide +kernel
theorem d14_14 : decode jdk_42_method_151_code 14 = .ok (.return_, 1) := by decide +kernel
set_option maxRecDepth 65536 in
set_option maxHeartbeats 40000000 in
theorem rm14 (l : Launch) (Z : State) (a0 : Array Value) (hw : ∀ d ∈ tables_1, d.before a0 Z = true) (ws : List Jvm.Cond) (r0 r1 : Addr) (v1 v2 : Value) (h0 : Heap) (n0 : Nat) (Z0 : n0 ≤ h0.size) (Et : Exa Z h0 r0 "java/lang/String") (Fv : Fld Z h0 r0 "java/lang/String" "value" "[B" v1) (Fc : Fld Z h0 r0 "java/lang/String" "coder" "B" v2) (g_r0 : n0 ≤ r0) :
    MetFree l (⟨"java/lang/String", "<init>", "([BB)V"⟩ : MethodName) (head1 (Jvm.Cond.code (⟨"java/lang/String", "<init>", "([BB)V"⟩ : MethodName) jdk_42_method_151_code 3 none :: ws) ({ frames := 1, cells := 0, slots := 0, locals := 12 } : Room)) (fun aX UX => aX = #[(.ref r0), (.ref r1), (.int (0 : Int32))] ∧ Z.Warmed39 UX.vm ∧ UX.heap = h0) (fun _ _ _ _ _ => True) (fun _ UX oX UX' => ∃ vX LX, oX = .returned vX ∧ Q14 Z r0 h0 n0 vX UX'.heap LX ∧ FrameEnd UX oX UX' LX ({ frames := 1, cells := 0, slots := 0, locals := 12 } : Room).cells ({ frames := 1, cells := 0, slots := 0, locals := 12 } : Room).slots) := by
  refine MetFree.of_bodySF (plainFor_of_name pn_java_lang_String) hisR ?_
  intro p e s m args below meth c s₁ Bd hml0 hP hK
  obtain ⟨rfl, hZ, hh⟩ := hP
  have hx := Bd.exec
  have hby := Bd.bytes
  have hml : c.maxLocals = 3 := hml0
  have hown : s.vm.findClass "java/lang/String" = some m.cls := findClass_of_methodNamed Bd.named
  have hnm := (name_of_methodNamed Bd.named Bd.method).1
  have X0 : Stand p l e ({ frames := 1, cells := 0, slots := 0, locals := 12 } : Room) s m #[(.ref r0), (.ref r1), (.int (0 : Int32))] below meth c s₁ [] 0 0 := Stand.of_body Bd
  have e0 : s₁.heap = h0 := by rw [← hh, Bd.state]; rfl
  have N0 := Fr.nil n0
  show own_Comes p e below s ({ frames := 1, cells := 0, slots := 0, locals := 12 } : Room).cells ({ frames := 1, cells := 0, slots := 0, locals := 12 } : Room).slots (Q14 Z r0 h0 n0) _
  rw [show entryFrame m #[(.ref r0), (.ref r1), (.int (0 : Int32))] 3 = mkF m 0 #[.val (.ref r0), .val (.ref r1), .val (.int (0 : Int32))] [] from ef_rm14 m r0 r1 (0 : Int32)]
  show own_Comes p e below s _ _ _ (s₁.setTop (mkF m 0 #[.val (.ref r0), .val (.ref r1), .val (.int (0 : Int32))] []))
  refine own_by (fun _ kS => XS.aloadN X0.here hx rfl (hb hby d14_0) rfl rfl kS) ?_
  show own_Comes p e below s _ _ _ (s₁.setTop (mkF m 1 #[.val (.ref r0), .val (.ref r1), .val (.int (0 : Int32))] [(.ref r0)]))
  obtain ⟨T23, X23, e23, st23⟩ := initO X0 hx hZ hown (hw _ (List.mem_of_getElem? (i := 11) rfl)) (hw _ (List.mem_of_getElem? (i := 12) rfl)) (hw _ (List.mem_of_getElem? (i := 13) rfl)) e0 (g := (mkF m 1 #[.val (.ref r0), .val (.ref r1), .val (.int (0 : Int32))] [(.ref r0)])) rfl (by rw [hml]; rfl) rfl (hb hby d14_1) (by decide) (W := 0) (by show 2 * 0 + _ ≤ _; exact Nat.le_of_eq rfl) (by decide)
  refine own_by st23 ?_
  show own_Comes p e below s _ _ _ (T23.setTop (mkF m 4 #[.val (.ref r0), .val (.ref r1), .val (.int (0 : Int32))] []))
  refine own_by (fun _ kS => XS.aloadN X23.here hx rfl (hb hby d14_4) rfl rfl kS) ?_
  show own_Comes p e below s _ _ _ (T23.setTop (mkF m 5 #[.val (.ref r0), .val (.ref r1), .val (.int (0 : Int32))] [(.ref r0)]))
  refine own_by (fun _ kS => XS.aloadN X23.here hx rfl (hb hby d14_5) rfl rfl kS) ?_
  show own_Comes p e below s _ _ _ (T23.setTop (mkF m 6 #[.val (.ref r0), .val (.ref r1), .val (.int (0 : Int32))] [(.ref r1), (.ref r0)]))
  obtain ⟨T24, h24, X24, e24, W24, st24⟩ := putF X23 hx hZ hown (host := "") (Or.inl (hw _ (List.mem_of_getElem? (i := 28) rfl))) Via.refl e23 Fv Et (Or.inr ⟨(hw _ (List.mem_of_getElem? (i := 29) rfl)), rfl, hnm⟩) (hw _ (List.mem_of_getElem? (i := 1) rfl)) (ty := (.array .byte)) (by decide) rfl rfl (g := (mkF m 6 #[.val (.ref r0), .val (.ref r1), .val (.int (0 : Int32))] [(.ref r1), (.ref r0)])) rfl rfl (hb hby d14_6)
  refine own_by st24 ?_
  have Fw24 := Fv.same W24
  have N24 := Fr.snoc X24 N0 g_r0
  show own_Comes p e below s _ _ _ (T24.setTop (mkF m 9 #[.val (.ref r0), .val (.ref r1), .val (.int (0 : Int32))] []))
  refine own_by (fun _ kS => XS.aloadN X24.here hx rfl (hb hby d14_9) rfl rfl kS) ?_
  show own_Comes p e below s _ _ _ (T24.setTop (mkF m 10 #[.val (.ref r0), .val (.ref r1), .val (.int (0 : Int32))] [(.ref r0)]))
  refine own_by (fun _ kS => XS.iloadN X24.here hx rfl (hb hby d14_10) rfl kS) ?_
  show own_Comes p e below s _ _ _ (T24.setTop (mkF m 11 #[.val (.ref r0), .val (.ref r1), .val (.int (0 : Int32))] [(.int (0 : Int32)), (.ref r0)]))
  have c25 := (Fc.other W24 (Or.inr (slot_ne (Or.inr (hw _ (List.mem_of_getElem? (i := 27) rfl))) (Or.inr (hw _ (List.mem_of_getElem? (i := 29) rfl))) (by decide) (t := .byte) (t' := (.array .byte)) (by decide) (by decide))))
  obtain ⟨T26, h26, X26, e26, W26, st26⟩ := putFN X24 hx hZ hown (hw _ (List.mem_of_getElem? (i := 26) rfl)) Via.refl e24 c25 (Et.wr W24) (Or.inr ⟨(hw _ (List.mem_of_getElem? (i := 27) rfl)), rfl, hnm⟩) (hw _ (List.mem_of_getElem? (i := 1) rfl)) (ty := .byte) (v' := (.int (0 : Int32))) (by decide) rfl (by first | rfl | decide | exact fits_nar_byte _) (g := (mkF m 11 #[.val (.ref r0), .val (.ref r1), .val (.int (0 : Int32))] [(.int (0 : Int32)), (.ref r0)])) rfl rfl (hb hby d14_11)
  refine own_by st26 ?_
  have Fw26 := c25.same W26
  have N26 := Fr.snoc X26 N24 g_r0
  show own_Comes p e below s _ _ _ (T26.setTop (mkF m 14 #[.val (.ref r0), .val (.ref r1), .val (.int (0 : Int32))] []))
  refine own_ret X26 (v := none) (fun _ => rfl) Bd.notSynchronized (by decide) (by decide) ?_ (fun fs hr => X26.returnOut hx Bd.returns (hb hby d14_14) hr)
  rw [e26]; exact ⟨rfl, N26, (((Keep.refl _ _).wr W24 (Or.inl (List.mem_of_getElem? (i := 0) rfl))).wr W26 (Or.inl (List.mem_of_getElem? (i := 0) rfl)))⟩
def Q12 (Z : State) (h0 : Heap) (n0 : Nat) (v : Option Value) (h : Heap) (L : List Loc) : Prop := v = some (.int (1 : Int32)) ∧ Fr n0 L ∧ h = h0
theorem ef_rm12 (m : MethodId) (x0 : Int32) : entryFrame m #[(.int x0)] 1 = mkF m 0 #[.val (.int x0)] [] := by first | (simp [entryFrame, mkF, argsToLocals, Value.category]; done) | rfl
theorem pn_java_lang_StringLatin1 : plainName "java/lang/StringLatin1" = true := by first | (simp [plainName, overriddenIn]; done) | decide +kernel
theorem d12_0 : decode jdk_43_method_3_code 0 = .ok (.iload_n 0, 1) := by decide +kernel
theorem d12_1 : decode jdk_43_method_3_code 1 = .ok (.sipush 255, 3) := by decide +kernel
theorem d12_4 : decode jdk_43_method_3_code 4 = .ok (.if_icmp .gt 7, 3) := by decide +kernel
theorem d12_7 : decode jdk_43_method_3_code 7 = .ok (.iconst 1, 1) := by decide +kernel
theorem d12_8 : decode jdk_43_method_3_code 8 = .ok (.goto 4, 3) := by decide +kernel
theorem d12_12 : decode jdk_43_method_3_code 12 = .ok (.ireturn, 1) := by decide +kernel
set_option maxRecDepth 65536 in
set_option maxHeartbeats 40000000 in
theorem rm12 (l : Launch) (Z : State) (a0 : Array Value) (hw : ∀ d ∈ tables_1, d.before a0 Z = true) (ws : List Jvm.Cond) (p0 : Int32) (h0 : Heap) (n0 : Nat) (Z0 : n0 ≤ h0.size) (k1 : ¬ (255 : Int32) < p0) :
    MetFree l (⟨"java/lang/StringLatin1", "canEncode", "(C)Z"⟩ : MethodName) (head1 (Jvm.Cond.code (⟨"java/lang/StringLatin1", "canEncode", "(C)Z"⟩ : MethodName) jdk_43_method_3_code 1 (some .boolean) :: ws) ({ frames := 0, cells := 0, slots := 0, locals := 0 } : Room)) (fun aX UX => aX = #[(.int p0)] ∧ Z.Warmed39 UX.vm ∧ UX.heap = h0) (fun _ _ _ _ _ => True) (fun _ UX oX UX' => ∃ vX LX, oX = .returned vX ∧ Q12 Z  h0 n0 vX UX'.heap LX ∧ FrameEnd UX oX UX' LX ({ frames := 0, cells := 0, slots := 0, locals := 0 } : Room).cells ({ frames := 0, cells := 0, slots := 0, locals := 0 } : Room).slots) := by
  refine MetFree.of_bodySF (plainFor_of_name pn_java_lang_StringLatin1) hisR ?_
  intro p e s m args below meth c s₁ Bd hml0 hP hK
  obtain ⟨rfl, hZ, hh⟩ := hP
  have hx := Bd.exec
  have hby := Bd.bytes
  have hml : c.maxLocals = 1 := hml0
  have hown : s.vm.findClass "java/lang/StringLatin1" = some m.cls := findClass_of_methodNamed Bd.named
  have hnm := (name_of_methodNamed Bd.named Bd.method).1
  have X0 : Stand p l e ({ frames := 0, cells := 0, slots := 0, locals := 0 } : Room) s m #[(.int p0)] below meth c s₁ [] 0 0 := Stand.of_body Bd
  have e0 : s₁.heap = h0 := by rw [← hh, Bd.state]; rfl
  have N0 := Fr.nil n0
  show own_Comes p e below s ({ frames := 0, cells := 0, slots := 0, locals := 0 } : Room).cells ({ frames := 0, cells := 0, slots := 0, locals := 0 } : Room).slots (Q12 Z  h0 n0) _
  rw [show entryFrame m #[(.int p0)] 1 = mkF m 0 #[.val (.int p0)] [] from ef_rm12 m p0]
  show own_Comes p e below s _ _ _ (s₁.setTop (mkF m 0 #[.val (.int p0)] []))
  refine own_by (fun _ kS => XS.iloadN X0.here hx rfl (hb hby d12_0) rfl kS) ?_
  show own_Comes p e below s _ _ _ (s₁.setTop (mkF m 1 #[.val (.int p0)] [(.int p0)]))
  refine own_by (fun _ kS => XS.sipush X0.here hx rfl (hb hby d12_1) kS) ?_
  show own_Comes p e below s _ _ _ (s₁.setTop (mkF m 4 #[.val (.int p0)] [(.int (255 : Int32)), (.int p0)]))
  refine own_by (fun _ kS => XS.icmpNo X0.here hx rfl (hb hby d12_4) rfl (flt k1).2.2.1 kS) ?_
  show own_Comes p e below s _ _ _ (s₁.setTop (mkF m 7 #[.val (.int p0)] []))
  refine own_by (fun _ kS => XS.iconst X0.here hx rfl (hb hby d12_7) kS) ?_
  show own_Comes p e below s _ _ _ (s₁.setTop (mkF m 8 #[.val (.int p0)] [(.int (1 : Int32))]))
  refine own_by (fun _ kS => XS.goto X0.here hx rfl (pc0 := 8) (pc' := 12) rfl (hb hby d12_8) (by decide) (by decide) kS) ?_
  show own_Comes p e below s _ _ _ (s₁.setTop (mkF m 12 #[.val (.int p0)] [(.int (1 : Int32))]))
  refine own_ret X0 (v := some (.int (1 : Int32))) (fun h => by rw [Bd.returns] at h; cases h) Bd.notSynchronized (by decide) (by decide) ?_ (fun fs hr => retN X0 hx (t := .boolean) Bd.returns (by simp) (hb hby d12_12) hr)
  rw [e0]; exact ⟨rfl, N0, rfl⟩
def Q13 (Z : State) (h0 : Heap) (n0 : Nat) (v : Option Value) (h : Heap) (L : List Loc) : Prop := ∃ a : Addr, v = some (.ref a) ∧ Fr n0 L ∧ Ext h0 h
theorem ef_rm13 (m : MethodId) (x0 : Int32) : entryFrame m #[(.int x0)] 1 = mkF m 0 #[.val (.int x0)] [] := by first | (simp [entryFrame, mkF, argsToLocals, Value.category]; done) | rfl
theorem d13_0 : decode jdk_43_method_46_code 0 = .ok (.iconst 1, 1) := by decide +kernel
theorem d13_1 : decode jdk_43_method_46_code 1 = .ok (.newarray .byte, 2) := by decide +kernel
theorem d13_3 : decode jdk_43_method_46_code 3 = .ok (.dup, 1) := by decide +kernel
theorem d13_4 : decode jdk_43_method_46_code 4 = .ok (.iconst 0, 1) := by decide +kernel
theorem d13_5 : decode jdk_43_method_46_code 5 = .ok (.iload_n 0, 1) := by decide +kernel
theorem d13_6 : decode jdk_43_method_46_code 6 = .ok (.i2b, 1) := by decide +kernel
theorem d13_7 : decode jdk_43_method_46_code 7 = .ok (.bastore, 1) := by decide +kernel
theorem d13_8 : decode jdk_43_method_46_code 8 = .ok (.areturn, 1) := by decide +kernel
set_option maxRecDepth 65536 in
set_option maxHeartbeats 40000000 in
theorem rm13 (l : Launch) (Z : State) (a0 : Array Value) (hw : ∀ d ∈ tables_1, d.before a0 Z = true) (ws : List Jvm.Cond) (p0 : Int32) (h0 : Heap) (n0 : Nat) (Z0 : n0 ≤ h0.size) :
    MetFree l (⟨"java/lang/StringLatin1", "toBytes", "(C)[B"⟩ : MethodName) (head1 (Jvm.Cond.code (⟨"java/lang/StringLatin1", "toBytes", "(C)[B"⟩ : MethodName) jdk_43_method_46_code 1 (some (.array .byte)) :: ws) ({ frames := 0, cells := 1, slots := 1, locals := 0 } : Room)) (fun aX UX => aX = #[(.int p0)] ∧ Z.Warmed39 UX.vm ∧ UX.heap = h0) (fun _ _ _ _ _ => True) (fun _ UX oX UX' => ∃ vX LX, oX = .returned vX ∧ Q13 Z  h0 n0 vX UX'.heap LX ∧ FrameEnd UX oX UX' LX ({ frames := 0, cells := 1, slots := 1, locals := 0 } : Room).cells ({ frames := 0, cells := 1, slots := 1, locals := 0 } : Room).slots) := by
  refine MetFree.of_bodySF (plainFor_of_name pn_java_lang_StringLatin1) hisR ?_
  intro p e s m args below meth c s₁ Bd hml0 hP hK
  obtain ⟨rfl, hZ, hh⟩ := hP
  have hx := Bd.exec
  have hby := Bd.bytes
  have hml : c.maxLocals = 1 := hml0
  have hown : s.vm.findClass "java/lang/StringLatin1" = some m.cls := findClass_of_methodNamed Bd.named
  have hnm := (name_of_methodNamed Bd.named Bd.method).1
  have X0 : Stand p l e ({ frames := 0, cells := 1, slots := 1, locals := 0 } : Room) s m #[(.int p0)] below meth c s₁ [] 0 0 := Stand.of_body Bd
  have e0 : s₁.heap = h0 := by rw [← hh, Bd.state]; rfl
  have N0 := Fr.nil n0
  show own_Comes p e below s ({ frames := 0, cells := 1, slots := 1, locals := 0 } : Room).cells ({ frames := 0, cells := 1, slots := 1, locals := 0 } : Room).slots (Q13 Z  h0 n0) _
  rw [show entryFrame m #[(.int p0)] 1 = mkF m 0 #[.val (.int p0)] [] from ef_rm13 m p0]
  show own_Comes p e below s _ _ _ (s₁.setTop (mkF m 0 #[.val (.int p0)] []))
  refine own_by (fun _ kS => XS.iconst X0.here hx rfl (hb hby d13_0) kS) ?_
  show own_Comes p e below s _ _ _ (s₁.setTop (mkF m 1 #[.val (.int p0)] [(.int (1 : Int32))]))
  obtain ⟨T27, h27, k27, X27, e27, E27, A27, st27⟩ := newP X0 hx hZ (hw _ (List.mem_of_getElem? (i := 19) rfl)) e0 (g := (mkF m 1 #[.val (.int p0)] [(.int (1 : Int32))])) rfl (hb hby d13_1) rfl (by decide) (cap := 1) (by decide) (by decide) (by decide) (by decide)
  obtain ⟨b27, g27⟩ : ∃ z, z = h0.size := ⟨_, rfl⟩
  rw [← g27] at A27 st27
  have g_b27 : n0 ≤ b27 := Nat.le_trans Z0 (Nat.le_of_eq g27.symm)
  refine own_by st27 ?_
  have V_b27 : Arv Z h27 b27 k27 .byte (1 : Int32) [(.int (0 : Int32))] (.int (0 : Int32)) := (Arv.new A27 (by decide)).pad (pad_rep [] (.int (0 : Int32)) 1)
  show own_Comes p e below s _ _ _ (T27.setTop (mkF m 3 #[.val (.int p0)] [(.ref b27)]))
  have sz_b27 : h0.size ≤ b27 := Nat.le_trans (Keep.refl h0 []).1 (Nat.le_of_eq g27.symm)
  refine own_by (fun _ kS => XS.dup X27.here hx rfl (hb hby d13_3) rfl rfl kS) ?_
  show own_Comes p e below s _ _ _ (T27.setTop (mkF m 4 #[.val (.int p0)] [(.ref b27), (.ref b27)]))
  refine own_by (fun _ kS => XS.iconst X27.here hx rfl (hb hby d13_4) kS) ?_
  show own_Comes p e below s _ _ _ (T27.setTop (mkF m 5 #[.val (.int p0)] [(.int (0 : Int32)), (.ref b27), (.ref b27)]))
  refine own_by (fun _ kS => XS.iloadN X27.here hx rfl (hb hby d13_5) rfl kS) ?_
  show own_Comes p e below s _ _ _ (T27.setTop (mkF m 6 #[.val (.int p0)] [(.int p0), (.int (0 : Int32)), (.ref b27), (.ref b27)]))
  refine own_by (fun _ kS => XS.i2b X27.here hx rfl (hb hby d13_6) rfl kS) ?_
  show own_Comes p e below s _ _ _ (T27.setTop (mkF m 7 #[.val (.int p0)] [(.int (p0.toInt8.toInt32)), (.int (0 : Int32)), (.ref b27), (.ref b27)]))
  have Vo28 := V_b27
  obtain ⟨cl28, Ar28, qA28, SA28, NA28, HA28, GA28⟩ := Vo28
  have hin28 : ¬ ((0 : Int32) < 0 ∨ cl28.slots.size ≤ ((0 : Int32)).toNatClampNeg) := inb_of SA28 ⟨by decide, by decide⟩
  obtain ⟨T29, h29, X29, e29, W29, st29⟩ := stB X27 hx hZ e27 Ar28 (j := (0 : Int32)) hin28 (g := (mkF m 7 #[.val (.int p0)] [(.int (p0.toInt8.toInt32)), (.int (0 : Int32)), (.ref b27), (.ref b27)])) rfl rfl (hb hby d13_7)
  refine own_by st29 ?_
  have V29 : Arv Z h29 b27 k27 .byte (1 : Int32) [(.int (p0.toInt8.toInt32.toInt8.toInt32))] (.int (0 : Int32)) := Arv.set Ar28 qA28 SA28 NA28 HA28 GA28 (by first | rfl | exact fits_nar_byte _) W29 0 rfl (Nat.le_of_ble_eq_true rfl)
  have N29 := Fr.snoc X29 N0 g_b27
  show own_Comes p e below s _ _ _ (T29.setTop (mkF m 8 #[.val (.int p0)] [(.ref b27)]))
  refine own_ret X29 (v := some (.ref b27)) (fun h => by rw [Bd.returns] at h; cases h) Bd.notSynchronized (by decide) (by decide) ?_ (fun fs hr => own_reta X29 hx Bd.returns rfl rfl (hb hby d13_8) hr)
  rw [e29]; exact ⟨_, rfl, N29, own_ext (((Keep.refl _ _).ext E27).wr W29 (Or.inr sz_b27))⟩
def Q11 (Z : State) (h0 : Heap) (n0 : Nat) (v : Option Value) (h : Heap) (L : List Loc) : Prop := ∃ a : Addr, v = some (.ref a) ∧ Fr n0 L ∧ Ext h0 h
theorem ef_rm11 (m : MethodId) (x0 : Int32) : entryFrame m #[(.int x0)] 1 = mkF m 0 #[.val (.int x0)] [] := by first | (simp [entryFrame, mkF, argsToLocals, Value.category]; done) | rfl
theorem d11_0 : decode jdk_42_method_139_code 0 = .ok (.getstatic 38, 3) := by decide +kernel
theorem d11_3 : decode jdk_42_method_139_code 3 = .ok (.ifCond .eq 23, 3) := by decide +kernel
theorem d11_6 : decode jdk_42_method_139_code 6 = .ok (.iload_n 0, 1) := by decide +kernel
theorem pd__C_Z_238 : parseMethodDescriptor "(C)Z" = some ⟨[.char], some .boolean⟩ := by decide +kernel
theorem d11_7 : decode jdk_42_method_139_code 7 = .ok (.invokestatic 1015, 3) := by decide +kernel
theorem d11_10 : decode jdk_42_method_139_code 10 = .ok (.ifCond .eq 16, 3) := by decide +kernel
theorem d11_13 : decode jdk_42_method_139_code 13 = .ok (.new 10, 3) := by decide +kernel
theorem d11_16 : decode jdk_42_method_139_code 16 = .ok (.dup, 1) := by decide +kernel
theorem d11_17 : decode jdk_42_method_139_code 17 = .ok (.iload_n 0, 1) := by decide +kernel
theorem pd__C__B_305 : parseMethodDescriptor "(C)[B" = some ⟨[.char], some (.array .byte)⟩ := by decide +kernel
theorem d11_18 : decode jdk_42_method_139_code 18 = .ok (.invokestatic 1018, 3) := by decide +kernel
theorem d11_21 : decode jdk_42_method_139_code 21 = .ok (.iconst 0, 1) := by decide +kernel
theorem pd___BB_V_390 : parseMethodDescriptor "([BB)V" = some ⟨[(.array .byte), .byte], none⟩ := by decide +kernel
theorem d11_22 : decode jdk_42_method_139_code 22 = .ok (.invokespecial 209, 3) := by decide +kernel
theorem d11_25 : decode jdk_42_method_139_code 25 = .ok (.areturn, 1) := by decide +kernel
set_option maxRecDepth 65536 in
set_option maxHeartbeats 40000000 in
theorem rm11 (l : Launch) (Z : State) (a0 : Array Value) (hw : ∀ d ∈ tables_1, d.before a0 Z = true) (ws : List Jvm.Cond) (p0 zc : Int32) (h0 : Heap) (n0 : Nat) (Z0 : n0 ≤ h0.size) (k1 : ¬ (255 : Int32) < p0) (O0 : Old Z n0 h0) (Sz : Sta Z Z.heap "java/lang/String" "COMPACT_STRINGS" "Z" (.int zc)) (hzc : ¬ zc = 0) :
    MetFree l (⟨"java/lang/String", "valueOf", "(C)Ljava/lang/String;"⟩ : MethodName) (head1 (Jvm.Cond.code (⟨"java/lang/String", "valueOf", "(C)Ljava/lang/String;"⟩ : MethodName) jdk_42_method_139_code 1 (some (.object "java/lang/String")) :: ws) ({ frames := 2, cells := 2, slots := 5, locals := 27 } : Room)) (fun aX UX => aX = #[(.int p0)] ∧ Z.Warmed39 UX.vm ∧ UX.heap = h0) (fun _ _ _ _ _ => True) (fun _ UX oX UX' => ∃ vX LX, oX = .returned vX ∧ Q11 Z  h0 n0 vX UX'.heap LX ∧ FrameEnd UX oX UX' LX ({ frames := 2, cells := 2, slots := 5, locals := 27 } : Room).cells ({ frames := 2, cells := 2, slots := 5, locals := 27 } : Room).slots) := by
  refine MetFree.of_bodySF (plainFor_of_name pn_java_lang_String) hisR ?_
  intro p e s m args below meth c s₁ Bd hml0 hP hK
  obtain ⟨rfl, hZ, hh⟩ := hP
  have hx := Bd.exec
  have hby := Bd.bytes
  have hml : c.maxLocals = 1 := hml0
  have hown : s.vm.findClass "java/lang/String" = some m.cls := findClass_of_methodNamed Bd.named
  have hnm := (name_of_methodNamed Bd.named Bd.method).1
  have X0 : Stand p l e ({ frames := 2, cells := 2, slots := 5, locals := 27 } : Room) s m #[(.int p0)] below meth c s₁ [] 0 0 := Stand.of_body Bd
  have e0 : s₁.heap = h0 := by rw [← hh, Bd.state]; rfl
  have N0 := Fr.nil n0
  show own_Comes p e below s ({ frames := 2, cells := 2, slots := 5, locals := 27 } : Room).cells ({ frames := 2, cells := 2, slots := 5, locals := 27 } : Room).slots (Q11 Z  h0 n0) _
  rw [show entryFrame m #[(.int p0)] 1 = mkF m 0 #[.val (.int p0)] [] from ef_rm11 m p0]
  show own_Comes p e below s _ _ _ (s₁.setTop (mkF m 0 #[.val (.int p0)] []))
  obtain ⟨T30, X30, e30, st30⟩ := getS2 X0 hx hZ hown (host := "") (Or.inl (hw _ (List.mem_of_getElem? (i := 14) rfl))) Via.refl e0 (Sz.ext O0.2) (g := (mkF m 0 #[.val (.int p0)] [])) rfl (hb hby d11_0)
  refine own_by st30 ?_
  show own_Comes p e below s _ _ _ (T30.setTop (mkF m 3 #[.val (.int p0)] [(.int zc)]))
  refine own_by (fun _ kS => XS.ifNo X30.here hx rfl (hb hby d11_3) rfl ((if0 _ _).trans (feq hzc).1) kS) ?_
  show own_Comes p e below s _ _ _ (T30.setTop (mkF m 6 #[.val (.int p0)] []))
  refine own_by (fun _ kS => XS.iloadN X30.here hx rfl (hb hby d11_6) rfl kS) ?_
  show own_Comes p e below s _ _ _ (T30.setTop (mkF m 7 #[.val (.int p0)] [(.int p0)]))
  obtain ⟨vv31, _, ⟨T31, L31, k31, n31⟩, -, X31, ⟨Lc31, hQ31, l31, y31, z31⟩, st31⟩ := Jvm.LawKit.callS X30 hx (y := (⟨"java/lang/StringLatin1", "canEncode", "(C)Z"⟩ : MethodName)) hown (mvT hZ (hw _ (List.mem_of_getElem? (i := 88) rfl))) (mvT hZ (hw _ (List.mem_of_getElem? (i := 89) rfl))) (mvT hZ (hw _ (List.mem_of_getElem? (i := 90) rfl))) (mvT hZ (hw _ (List.mem_of_getElem? (i := 91) rfl))) (by decide) (backOf (W := 0) (rm12 l Z a0 hw [] p0 h0 n0 Z0 k1) hZ (hw _ (List.mem_of_getElem? (i := 91) rfl)) (hw _ (List.mem_of_getElem? (i := 90) rfl)) (by decide) (by decide)) (g := (mkF m 7 #[.val (.int p0)] [(.int p0)])) rfl (by rw [hml]; rfl) (argsL := [(.int p0)]) (rest := []) (lenOf pd__C_Z_238 rfl) rfl (by show 2 * 0 + _ ≤ _; exact Nat.le_of_eq rfl) (hb hby d11_7) (fun _ _ => ⟨rfl, e30, (by decide : 0 + 0 ≤ _), (by decide : 0 + 0 ≤ _)⟩)
  dsimp only [Pt.U, Pt.locs, Pt.cells, Pt.slots] at X31 l31 y31 z31 st31 hQ31
  subst l31 y31 z31
  obtain ⟨rfl, N31q, e31q⟩ := hQ31
  have N31 := Fr.app N0 N31q
  refine own_by st31 ?_
  have e31 : T31.heap = h0 := e31q
  show own_Comes p e below s _ _ _ (T31.setTop (mkF m 10 #[.val (.int p0)] [(.int (1 : Int32))]))
  have hb32 : ¬ ((1 : Int32) = (0 : Int32)) := by decide
  refine own_by (fun _ kS => XS.ifNo X31.here hx rfl (hb hby d11_10) rfl ((if0 _ _).trans (feq hb32).1) kS) ?_
  show own_Comes p e below s _ _ _ (T31.setTop (mkF m 13 #[.val (.int p0)] []))
  obtain ⟨T33, h33, X33, e33, E33, A33, D33, -, st33⟩ := newO X31 hx hZ hown (hw _ (List.mem_of_getElem? (i := 92) rfl)) (hw _ (List.mem_of_getElem? (i := 1) rfl)) (hw _ (List.mem_of_getElem? (i := 2) rfl)) e31 (g := (mkF m 13 #[.val (.int p0)] [])) rfl (hb hby d11_13) (by decide) (by decide)
  obtain ⟨b33, g33⟩ : ∃ z, z = h0.size := ⟨_, rfl⟩
  rw [← g33] at A33 D33 st33
  have g_b33 : n0 ≤ b33 := Nat.le_trans Z0 (Nat.le_of_eq g33.symm)
  refine own_by st33 ?_
  show own_Comes p e below s _ _ _ (T33.setTop (mkF m 16 #[.val (.int p0)] [(.ref b33)]))
  refine own_by (fun _ kS => XS.dup X33.here hx rfl (hb hby d11_16) rfl rfl kS) ?_
  show own_Comes p e below s _ _ _ (T33.setTop (mkF m 17 #[.val (.int p0)] [(.ref b33), (.ref b33)]))
  refine own_by (fun _ kS => XS.iloadN X33.here hx rfl (hb hby d11_17) rfl kS) ?_
  show own_Comes p e below s _ _ _ (T33.setTop (mkF m 18 #[.val (.int p0)] [(.int p0), (.ref b33), (.ref b33)]))
  have sz_b33 : h0.size ≤ b33 := Nat.le_trans (Keep.refl h0 []).1 (Nat.le_of_eq g33.symm)
  obtain ⟨vv34, _, ⟨T34, L34, k34, n34⟩, -, X34, ⟨Lc34, hQ34, l34, y34, z34⟩, st34⟩ := Jvm.LawKit.callS X33 hx (y := (⟨"java/lang/StringLatin1", "toBytes", "(C)[B"⟩ : MethodName)) hown (mvT hZ (hw _ (List.mem_of_getElem? (i := 93) rfl))) (mvT hZ (hw _ (List.mem_of_getElem? (i := 94) rfl))) (mvT hZ (hw _ (List.mem_of_getElem? (i := 90) rfl))) (mvT hZ (hw _ (List.mem_of_getElem? (i := 95) rfl))) (by decide) (backOf (W := 2) (rm13 l Z a0 hw [] p0 h33 n0 (Nat.le_trans Z0 E33.1)) hZ (hw _ (List.mem_of_getElem? (i := 95) rfl)) (hw _ (List.mem_of_getElem? (i := 90) rfl)) (by decide) (by decide)) (g := (mkF m 18 #[.val (.int p0)] [(.int p0), (.ref b33), (.ref b33)])) rfl (by rw [hml]; rfl) (argsL := [(.int p0)]) (rest := [(.ref b33), (.ref b33)]) (lenOf pd__C__B_305 rfl) rfl (by show 2 * 0 + _ ≤ _; exact Nat.le_of_eq rfl) (hb hby d11_18) (fun _ _ => ⟨rfl, e33, (by decide : 1 + 1 ≤ _), (by decide : 4 + 1 ≤ _)⟩)
  dsimp only [Pt.U, Pt.locs, Pt.cells, Pt.slots] at X34 l34 y34 z34 st34 hQ34
  subst l34 y34 z34
  obtain ⟨a34, rfl, N34q, E34⟩ := hQ34
  have N34 := Fr.app N31 N34q
  refine own_by st34 ?_
  show own_Comes p e below s _ _ _ (T34.setTop (mkF m 21 #[.val (.int p0)] [(.ref a34), (.ref b33), (.ref b33)]))
  refine own_by (fun _ kS => XS.iconst X34.here hx rfl (hb hby d11_21) kS) ?_
  show own_Comes p e below s _ _ _ (T34.setTop (mkF m 22 #[.val (.int p0)] [(.int (0 : Int32)), (.ref a34), (.ref b33), (.ref b33)]))
  have c35 := ((D33 (Or.inr (hw _ (List.mem_of_getElem? (i := 29) rfl))) (ty := (.array .byte)) (by decide)).ext E34)
  have c36 := ((D33 (Or.inr (hw _ (List.mem_of_getElem? (i := 27) rfl))) (ty := .byte) (by decide)).ext E34)
  obtain ⟨vv37, _, ⟨T37, L37, k37, n37⟩, -, X37, ⟨Lc37, hQ37, l37, y37, z37⟩, st37⟩ := X34.specialBack hx (y := (⟨"java/lang/String", "<init>", "([BB)V"⟩ : MethodName)) rfl hown (mvT hZ (hw _ (List.mem_of_getElem? (i := 96) rfl))) (mvT hZ (hw _ (List.mem_of_getElem? (i := 97) rfl))) (mvT hZ (hw _ (List.mem_of_getElem? (i := 98) rfl))) (by decide) (backOf (W := 1) (rm14 l Z a0 hw [] b33 a34 .null (.int 0) T34.heap n0 (Nat.le_trans (Nat.le_trans Z0 E33.1) E34.1) (A33.ext E34) c35 c36 g_b33) hZ (hw _ (List.mem_of_getElem? (i := 98) rfl)) (hw _ (List.mem_of_getElem? (i := 2) rfl)) (by decide) (by decide)) (g := (mkF m 22 #[.val (.int p0)] [(.int (0 : Int32)), (.ref a34), (.ref b33), (.ref b33)])) rfl (by rw [hml]; rfl) (Steps.refl _) (a := b33) (argsL := [(.ref a34), (.int (0 : Int32))]) (rest := [(.ref b33)]) (lenOf pd___BB_V_390 rfl) rfl (by show 2 * 0 + _ ≤ _; exact Nat.le_of_eq rfl) (hb hby d11_22) (fun _ _ => ⟨rfl, rfl, (by decide : 2 + 0 ≤ _), (by decide : 5 + 0 ≤ _)⟩)
  dsimp only [Pt.U, Pt.locs, Pt.cells, Pt.slots] at X37 l37 y37 z37 st37 hQ37
  subst l37 y37 z37
  obtain ⟨rfl, N37q, K37⟩ := hQ37
  have N37 := Fr.app N34 N37q
  refine own_tr st37 ?_
  show own_Comes p e below s _ _ _ (T37.setTop (mkF m 25 #[.val (.int p0)] [(.ref b33)]))
  refine own_ret X37 (v := some (.ref b33)) (fun h => by rw [Bd.returns] at h; cases h) Bd.notSynchronized (by decide) (by decide) ?_ (fun fs hr => own_reta X37 hx Bd.returns rfl rfl (hb hby d11_25) hr)
  exact ⟨_, rfl, N37, own_ext ((((Keep.refl _ _).ext E33).ext E34).trans K37 (allS (Or.inr sz_b33) all0))⟩
def Q8 (Z : State) (h0 : Heap) (n0 : Nat) (v : Option Value) (h : Heap) (L : List Loc) : Prop := v = none ∧ Fr n0 L ∧ h = h0
theorem ef_rm8 (m : MethodId) (x0 : Addr) : entryFrame m #[(.ref x0)] 1 = mkF m 0 #[.val (.ref x0)] [] := by first | (simp [entryFrame, mkF, argsToLocals, Value.category]; done) | rfl
theorem pn_java_lang_Record : plainName "java/lang/Record" = true := by first | (simp [plainName, overriddenIn]; done) | decide +kernel
theorem d8_0 : decode jdk_30_method_1_code 0 = .ok (.aload_n 0, 1) := by decide +kernel
theorem d8_1 : decode jdk_30_method_1_code 1 = .ok (.invokespecial 1, 3) := by decide +kernel
theorem d8_4 : decode jdk_30_method_1_code 4 = .ok (.return_, 1) := by decide +kernel
set_option maxRecDepth 65536 in
set_option maxHeartbeats 40000000 in
theorem rm8 (l : Launch) (Z : State) (a0 : Array Value) (hw : ∀ d ∈ tables_1, d.before a0 Z = true) (ws : List Jvm.Cond) (r0 : Addr) (h0 : Heap) (n0 : Nat) (Z0 : n0 ≤ h0.size) :
    MetFree l (⟨"java/lang/Record", "<init>", "()V"⟩ : MethodName) (head1 (Jvm.Cond.code (⟨"java/lang/Record", "<init>", "()V"⟩ : MethodName) jdk_30_method_1_code 1 none :: ws) ({ frames := 1, cells := 0, slots := 0, locals := 12 } : Room)) (fun aX UX => aX = #[(.ref r0)] ∧ Z.Warmed39 UX.vm ∧ UX.heap = h0) (fun _ _ _ _ _ => True) (fun _ UX oX UX' => ∃ vX LX, oX = .returned vX ∧ Q8 Z  h0 n0 vX UX'.heap LX ∧ FrameEnd UX oX UX' LX ({ frames := 1, cells := 0, slots := 0, locals := 12 } : Room).cells ({ frames := 1, cells := 0, slots := 0, locals := 12 } : Room).slots) := by
  refine MetFree.of_bodySF (plainFor_of_name pn_java_lang_Record) hisR ?_
  intro p e s m args below meth c s₁ Bd hml0 hP hK
  obtain ⟨rfl, hZ, hh⟩ := hP
  have hx := Bd.exec
  have hby := Bd.bytes
  have hml : c.maxLocals = 1 := hml0
  have hown : s.vm.findClass "java/lang/Record" = some m.cls := findClass_of_methodNamed Bd.named
  have hnm := (name_of_methodNamed Bd.named Bd.method).1
  have X0 : Stand p l e ({ frames := 1, cells := 0, slots := 0, locals := 12 } : Room) s m #[(.ref r0)] below meth c s₁ [] 0 0 := Stand.of_body Bd
  have e0 : s₁.heap = h0 := by rw [← hh, Bd.state]; rfl
  have N0 := Fr.nil n0
  show own_Comes p e below s ({ frames := 1, cells := 0, slots := 0, locals := 12 } : Room).cells ({ frames := 1, cells := 0, slots := 0, locals := 12 } : Room).slots (Q8 Z  h0 n0) _
  rw [show entryFrame m #[(.ref r0)] 1 = mkF m 0 #[.val (.ref r0)] [] from ef_rm8 m r0]
  show own_Comes p e below s _ _ _ (s₁.setTop (mkF m 0 #[.val (.ref r0)] []))
  refine own_by (fun _ kS => XS.aloadN X0.here hx rfl (hb hby d8_0) rfl rfl kS) ?_
  show own_Comes p e below s _ _ _ (s₁.setTop (mkF m 1 #[.val (.ref r0)] [(.ref r0)]))
  obtain ⟨T38, X38, e38, st38⟩ := initO X0 hx hZ hown (hw _ (List.mem_of_getElem? (i := 49) rfl)) (hw _ (List.mem_of_getElem? (i := 12) rfl)) (hw _ (List.mem_of_getElem? (i := 13) rfl)) e0 (g := (mkF m 1 #[.val (.ref r0)] [(.ref r0)])) rfl (by rw [hml]; rfl) rfl (hb hby d8_1) (by decide) (W := 0) (by show 2 * 0 + _ ≤ _; exact Nat.le_of_eq rfl) (by decide)
  refine own_by st38 ?_
  show own_Comes p e below s _ _ _ (T38.setTop (mkF m 4 #[.val (.ref r0)] []))
  refine own_ret X38 (v := none) (fun _ => rfl) Bd.notSynchronized (by decide) (by decide) ?_ (fun fs hr => X38.returnOut hx Bd.returns (hb hby d8_4) hr)
  rw [e38]; exact ⟨rfl, N0, rfl⟩
def Q7 (Z : State) (r0 : Addr) (v1 v4 : Value) (h0 : Heap) (n0 : Nat) (v : Option Value) (h : Heap) (L : List Loc) : Prop := v = none ∧ Fr n0 L ∧ Keep h0 h [r0] ∧ Fld Z h r0 "com/example/beija_flor/beijaflor/brcode/BrCode" "initiationMethod" "Ljava/lang/String;" v1 ∧ Fld Z h r0 "com/example/beija_flor/beijaflor/brcode/BrCode" "url" "Ljava/lang/String;" v4
theorem ef_rm7 (m : MethodId) (x0 : Addr) (x1 : Value) (x2 : Value) (x3 : Value) (x4 : Value) (x5 : Value) (x6 : Value) (x7 : Value) (x8 : Value) (x9 : Value) (x10 : Value) (x11 : Value) (x12 : Value) (c1 : x1.category = 1) (c2 : x2.category = 1) (c3 : x3.category = 1) (c4 : x4.category = 1) (c5 : x5.category = 1) (c6 : x6.category = 1) (c7 : x7.category = 1) (c8 : x8.category = 1) (c9 : x9.category = 1) (c10 : x10.category = 1) (c11 : x11.category = 1) (c12 : x12.category = 1) : entryFrame m #[(.ref x0), x1, x2, x3, x4, x5, x6, x7, x8, x9, x10, x11, x12] 13 = mkF m 0 #[.val (.ref x0), .val x1, .val x2, .val x3, .val x4, .val x5, .val x6, .val x7, .val x8, .val x9, .val x10, .val x11, .val x12] [] := by first | (simp [entryFrame, mkF, argsToLocals, (show ((.ref x0) : Value).category = 1 from rfl), c1, c2, c3, c4, c5, c6, c7, c8, c9, c10, c11, c12]; done) | rfl
theorem pn_com_example_beija_flor_beijaflor_brcode_BrCode : plainName "com/example/beija_flor/beijaflor/brcode/BrCode" = true := by first | (simp [plainName, overriddenIn]; done) | decide +kernel
theorem d7_0 : decode prog_2_method_1_code 0 = .ok (.aload_n 0, 1) := by decide +kernel
theorem pd___V_167 : parseMethodDescriptor "()V" = some ⟨[], none⟩ := by decide +kernel
theorem d7_1 : decode prog_2_method_1_code 1 = .ok (.invokespecial 1, 3) := by decide +kernel
theorem d7_4 : decode prog_2_method_1_code 4 = .ok (.aload_n 0, 1) := by decide +kernel
theorem d7_5 : decode prog_2_method_1_code 5 = .ok (.aload_n 1, 1) := by decide +kernel
theorem d7_6 : decode prog_2_method_1_code 6 = .ok (.putfield 7, 3) := by decide +kernel
theorem d7_9 : decode prog_2_method_1_code 9 = .ok (.aload_n 0, 1) := by decide +kernel
theorem d7_10 : decode prog_2_method_1_code 10 = .ok (.aload_n 2, 1) := by decide +kernel
theorem d7_11 : decode prog_2_method_1_code 11 = .ok (.putfield 13, 3) := by decide +kernel
theorem d7_14 : decode prog_2_method_1_code 14 = .ok (.aload_n 0, 1) := by decide +kernel
theorem d7_15 : decode prog_2_method_1_code 15 = .ok (.aload_n 3, 1) := by decide +kernel
theorem d7_16 : decode prog_2_method_1_code 16 = .ok (.putfield 16, 3) := by decide +kernel
theorem d7_19 : decode prog_2_method_1_code 19 = .ok (.aload_n 0, 1) := by decide +kernel
theorem d7_20 : decode prog_2_method_1_code 20 = .ok (.aload 4, 2) := by decide +kernel
theorem d7_22 : decode prog_2_method_1_code 22 = .ok (.putfield 19, 3) := by decide +kernel
theorem d7_25 : decode prog_2_method_1_code 25 = .ok (.aload_n 0, 1) := by decide +kernel
theorem d7_26 : decode prog_2_method_1_code 26 = .ok (.aload 5, 2) := by decide +kernel
theorem d7_28 : decode prog_2_method_1_code 28 = .ok (.putfield 22, 3) := by decide +kernel
theorem d7_31 : decode prog_2_method_1_code 31 = .ok (.aload_n 0, 1) := by decide +kernel
theorem d7_32 : decode prog_2_method_1_code 32 = .ok (.aload 6, 2) := by decide +kernel
theorem d7_34 : decode prog_2_method_1_code 34 = .ok (.putfield 25, 3) := by decide +kernel
theorem d7_37 : decode prog_2_method_1_code 37 = .ok (.aload_n 0, 1) := by decide +kernel
theorem d7_38 : decode prog_2_method_1_code 38 = .ok (.aload 7, 2) := by decide +kernel
theorem d7_40 : decode prog_2_method_1_code 40 = .ok (.putfield 28, 3) := by decide +kernel
theorem d7_43 : decode prog_2_method_1_code 43 = .ok (.aload_n 0, 1) := by decide +kernel
theorem d7_44 : decode prog_2_method_1_code 44 = .ok (.aload 8, 2) := by decide +kernel
theorem d7_46 : decode prog_2_method_1_code 46 = .ok (.putfield 31, 3) := by decide +kernel
theorem d7_49 : decode prog_2_method_1_code 49 = .ok (.aload_n 0, 1) := by decide +kernel
theorem d7_50 : decode prog_2_method_1_code 50 = .ok (.aload 9, 2) := by decide +kernel
theorem d7_52 : decode prog_2_method_1_code 52 = .ok (.putfield 34, 3) := by decide +kernel
theorem d7_55 : decode prog_2_method_1_code 55 = .ok (.aload_n 0, 1) := by decide +kernel
theorem d7_56 : decode prog_2_method_1_code 56 = .ok (.aload 10, 2) := by decide +kernel
theorem d7_58 : decode prog_2_method_1_code 58 = .ok (.putfield 37, 3) := by decide +kernel
theorem d7_61 : decode prog_2_method_1_code 61 = .ok (.aload_n 0, 1) := by decide +kernel
theorem d7_62 : decode prog_2_method_1_code 62 = .ok (.aload 11, 2) := by decide +kernel
theorem d7_64 : decode prog_2_method_1_code 64 = .ok (.putfield 40, 3) := by decide +kernel
theorem d7_67 : decode prog_2_method_1_code 67 = .ok (.aload_n 0, 1) := by decide +kernel
theorem d7_68 : decode prog_2_method_1_code 68 = .ok (.aload 12, 2) := by decide +kernel
theorem d7_70 : decode prog_2_method_1_code 70 = .ok (.putfield 43, 3) := by decide +kernel
theorem d7_73 : decode prog_2_method_1_code 73 = .ok (.return_, 1) := by decide +kernel
set_option maxRecDepth 65536 in
set_option maxHeartbeats 40000000 in
theorem rm7 (l : Launch) (Z : State) (a0 : Array Value) (hw : ∀ d ∈ tables_1, d.before a0 Z = true) (ws : List Jvm.Cond) (r0 : Addr) (v1 v2 v3 v4 v5 v6 v7 v8 v9 v10 v11 v12 : Value) (h0 : Heap) (n0 : Nat) (Z0 : n0 ≤ h0.size) (Et : Exa Z h0 r0 "com/example/beija_flor/beijaflor/brcode/BrCode") (g_r0 : n0 ≤ r0) (F_initiationMethod : Fld Z h0 r0 "com/example/beija_flor/beijaflor/brcode/BrCode" "initiationMethod" "Ljava/lang/String;" .null) (F_gui : Fld Z h0 r0 "com/example/beija_flor/beijaflor/brcode/BrCode" "gui" "Ljava/lang/String;" .null) (F_pixKey : Fld Z h0 r0 "com/example/beija_flor/beijaflor/brcode/BrCode" "pixKey" "Ljava/lang/String;" .null) (F_url : Fld Z h0 r0 "com/example/beija_flor/beijaflor/brcode/BrCode" "url" "Ljava/lang/String;" .null) (F_merchantCategoryCode : Fld Z h0 r0 "com/example/beija_flor/beijaflor/brcode/BrCode" "merchantCategoryCode" "Ljava/lang/String;" .null) (F_transactionCurrency : Fld Z h0 r0 "com/example/beija_flor/beijaflor/brcode/BrCode" "transactionCurrency" "Ljava/lang/String;" .null) (F_transactionAmount : Fld Z h0 r0 "com/example/beija_flor/beijaflor/brcode/BrCode" "transactionAmount" "Ljava/lang/String;" .null) (F_countryCode : Fld Z h0 r0 "com/example/beija_flor/beijaflor/brcode/BrCode" "countryCode" "Ljava/lang/String;" .null) (F_merchantName : Fld Z h0 r0 "com/example/beija_flor/beijaflor/brcode/BrCode" "merchantName" "Ljava/lang/String;" .null) (F_merchantCity : Fld Z h0 r0 "com/example/beija_flor/beijaflor/brcode/BrCode" "merchantCity" "Ljava/lang/String;" .null) (F_txid : Fld Z h0 r0 "com/example/beija_flor/beijaflor/brcode/BrCode" "txid" "Ljava/lang/String;" .null) (F_crc : Fld Z h0 r0 "com/example/beija_flor/beijaflor/brcode/BrCode" "crc" "Ljava/lang/String;" .null) (i_v1 : v1.isRef = true) (c_v1 : v1.category = 1) (i_v2 : v2.isRef = true) (c_v2 : v2.category = 1) (i_v3 : v3.isRef = true) (c_v3 : v3.category = 1) (i_v4 : v4.isRef = true) (c_v4 : v4.category = 1) (i_v5 : v5.isRef = true) (c_v5 : v5.category = 1) (i_v6 : v6.isRef = true) (c_v6 : v6.category = 1) (i_v7 : v7.isRef = true) (c_v7 : v7.category = 1) (i_v8 : v8.isRef = true) (c_v8 : v8.category = 1) (i_v9 : v9.isRef = true) (c_v9 : v9.category = 1) (i_v10 : v10.isRef = true) (c_v10 : v10.category = 1) (i_v11 : v11.isRef = true) (c_v11 : v11.category = 1) (i_v12 : v12.isRef = true) (c_v12 : v12.category = 1) :
    MetFree l (⟨"com/example/beija_flor/beijaflor/brcode/BrCode", "<init>", "(Ljava/lang/String;Ljava/lang/String;Ljava/lang/String;Ljava/lang/String;Ljava/lang/String;Ljava/lang/String;Ljava/lang/String;Ljava/lang/String;Ljava/lang/String;Ljava/lang/String;Ljava/lang/String;Ljava/lang/String;)V"⟩ : MethodName) (head1 (Jvm.Cond.code (⟨"com/example/beija_flor/beijaflor/brcode/BrCode", "<init>", "(Ljava/lang/String;Ljava/lang/String;Ljava/lang/String;Ljava/lang/String;Ljava/lang/String;Ljava/lang/String;Ljava/lang/String;Ljava/lang/String;Ljava/lang/String;Ljava/lang/String;Ljava/lang/String;Ljava/lang/String;)V"⟩ : MethodName) prog_2_method_1_code 13 none :: ws) ({ frames := 2, cells := 0, slots := 0, locals := 24 } : Room)) (fun aX UX => aX = #[(.ref r0), v1, v2, v3, v4, v5, v6, v7, v8, v9, v10, v11, v12] ∧ Z.Warmed39 UX.vm ∧ UX.heap = h0) (fun _ _ _ _ _ => True) (fun _ UX oX UX' => ∃ vX LX, oX = .returned vX ∧ Q7 Z r0 v1 v4 h0 n0 vX UX'.heap LX ∧ FrameEnd UX oX UX' LX ({ frames := 2, cells := 0, slots := 0, locals := 24 } : Room).cells ({ frames := 2, cells := 0, slots := 0, locals := 24 } : Room).slots) := by
  refine MetFree.of_bodySF (plainFor_of_name pn_com_example_beija_flor_beijaflor_brcode_BrCode) hisR ?_
  intro p e s m args below meth c s₁ Bd hml0 hP hK
  obtain ⟨rfl, hZ, hh⟩ := hP
  have hx := Bd.exec
  have hby := Bd.bytes
  have hml : c.maxLocals = 13 := hml0
  have hown : s.vm.findClass "com/example/beija_flor/beijaflor/brcode/BrCode" = some m.cls := findClass_of_methodNamed Bd.named
  have hnm := (name_of_methodNamed Bd.named Bd.method).1
  have X0 : Stand p l e ({ frames := 2, cells := 0, slots := 0, locals := 24 } : Room) s m #[(.ref r0), v1, v2, v3, v4, v5, v6, v7, v8, v9, v10, v11, v12] below meth c s₁ [] 0 0 := Stand.of_body Bd
  have e0 : s₁.heap = h0 := by rw [← hh, Bd.state]; rfl
  have N0 := Fr.nil n0
  show own_Comes p e below s ({ frames := 2, cells := 0, slots := 0, locals := 24 } : Room).cells ({ frames := 2, cells := 0, slots := 0, locals := 24 } : Room).slots (Q7 Z r0 v1 v4 h0 n0) _
  rw [show entryFrame m #[(.ref r0), v1, v2, v3, v4, v5, v6, v7, v8, v9, v10, v11, v12] 13 = mkF m 0 #[.val (.ref r0), .val v1, .val v2, .val v3, .val v4, .val v5, .val v6, .val v7, .val v8, .val v9, .val v10, .val v11, .val v12] [] from ef_rm7 m r0 v1 v2 v3 v4 v5 v6 v7 v8 v9 v10 v11 v12 c_v1 c_v2 c_v3 c_v4 c_v5 c_v6 c_v7 c_v8 c_v9 c_v10 c_v11 c_v12]
  show own_Comes p e below s _ _ _ (s₁.setTop (mkF m 0 #[.val (.ref r0), .val v1, .val v2, .val v3, .val v4, .val v5, .val v6, .val v7, .val v8, .val v9, .val v10, .val v11, .val v12] []))
  refine own_by (fun _ kS => XS.aloadN X0.here hx rfl (hb hby d7_0) rfl rfl kS) ?_
  show own_Comes p e below s _ _ _ (s₁.setTop (mkF m 1 #[.val (.ref r0), .val v1, .val v2, .val v3, .val v4, .val v5, .val v6, .val v7, .val v8, .val v9, .val v10, .val v11, .val v12] [(.ref r0)]))
  obtain ⟨vv39, _, ⟨T39, L39, k39, n39⟩, -, X39, ⟨Lc39, hQ39, l39, y39, z39⟩, st39⟩ := X0.specialBack hx (y := (⟨"java/lang/Record", "<init>", "()V"⟩ : MethodName)) rfl hown (mvT hZ (hw _ (List.mem_of_getElem? (i := 44) rfl))) (mvT hZ (hw _ (List.mem_of_getElem? (i := 45) rfl))) (mvT hZ (hw _ (List.mem_of_getElem? (i := 48) rfl))) (by decide) (backOf (W := 0) (rm8 l Z a0 hw [] r0 h0 n0 Z0) hZ (hw _ (List.mem_of_getElem? (i := 48) rfl)) (hw _ (List.mem_of_getElem? (i := 47) rfl)) (by decide) (by decide)) (g := (mkF m 1 #[.val (.ref r0), .val v1, .val v2, .val v3, .val v4, .val v5, .val v6, .val v7, .val v8, .val v9, .val v10, .val v11, .val v12] [(.ref r0)])) rfl (by rw [hml]; rfl) (Steps.refl _) (a := r0) (argsL := []) (rest := []) (lenOf pd___V_167 rfl) rfl (by show 2 * 0 + _ ≤ _; exact Nat.le_of_eq rfl) (hb hby d7_1) (fun _ _ => ⟨rfl, e0, (by decide : 0 + 0 ≤ _), (by decide : 0 + 0 ≤ _)⟩)
  dsimp only [Pt.U, Pt.locs, Pt.cells, Pt.slots] at X39 l39 y39 z39 st39 hQ39
  subst l39 y39 z39
  obtain ⟨rfl, N39q, e39q⟩ := hQ39
  have N39 := Fr.app N0 N39q
  refine own_tr st39 ?_
  have e39 : T39.heap = h0 := e39q
  show own_Comes p e below s _ _ _ (T39.setTop (mkF m 4 #[.val (.ref r0), .val v1, .val v2, .val v3, .val v4, .val v5, .val v6, .val v7, .val v8, .val v9, .val v10, .val v11, .val v12] []))
  refine own_by (fun _ kS => XS.aloadN X39.here hx rfl (hb hby d7_4) rfl rfl kS) ?_
  show own_Comes p e below s _ _ _ (T39.setTop (mkF m 5 #[.val (.ref r0), .val v1, .val v2, .val v3, .val v4, .val v5, .val v6, .val v7, .val v8, .val v9, .val v10, .val v11, .val v12] [(.ref r0)]))
  refine own_by (fun _ kS => XS.aloadN X39.here hx rfl (hb hby d7_5) rfl i_v1 kS) ?_
  show own_Comes p e below s _ _ _ (T39.setTop (mkF m 6 #[.val (.ref r0), .val v1, .val v2, .val v3, .val v4, .val v5, .val v6, .val v7, .val v8, .val v9, .val v10, .val v11, .val v12] [v1, (.ref r0)]))
  obtain ⟨T40, h40, X40, e40, W40, st40⟩ := putF X39 hx hZ hown (host := "") (Or.inl (hw _ (List.mem_of_getElem? (i := 50) rfl))) Via.refl e39 F_initiationMethod Et (Or.inr ⟨(hw _ (List.mem_of_getElem? (i := 51) rfl)), rfl, hnm⟩) (hw _ (List.mem_of_getElem? (i := 31) rfl)) (ty := (.object "java/lang/String")) (by decide) (own_nrw i_v1) (own_fit i_v1) (g := (mkF m 6 #[.val (.ref r0), .val v1, .val v2, .val v3, .val v4, .val v5, .val v6, .val v7, .val v8, .val v9, .val v10, .val v11, .val v12] [v1, (.ref r0)])) rfl rfl (hb hby d7_6)
  refine own_by st40 ?_
  have Fw40 := F_initiationMethod.same W40
  have N40 := Fr.snoc X40 N39 g_r0
  show own_Comes p e below s _ _ _ (T40.setTop (mkF m 9 #[.val (.ref r0), .val v1, .val v2, .val v3, .val v4, .val v5, .val v6, .val v7, .val v8, .val v9, .val v10, .val v11, .val v12] []))
  refine own_by (fun _ kS => XS.aloadN X40.here hx rfl (hb hby d7_9) rfl rfl kS) ?_
  show own_Comes p e below s _ _ _ (T40.setTop (mkF m 10 #[.val (.ref r0), .val v1, .val v2, .val v3, .val v4, .val v5, .val v6, .val v7, .val v8, .val v9, .val v10, .val v11, .val v12] [(.ref r0)]))
  refine own_by (fun _ kS => XS.aloadN X40.here hx rfl (hb hby d7_10) rfl i_v2 kS) ?_
  show own_Comes p e below s _ _ _ (T40.setTop (mkF m 11 #[.val (.ref r0), .val v1, .val v2, .val v3, .val v4, .val v5, .val v6, .val v7, .val v8, .val v9, .val v10, .val v11, .val v12] [v2, (.ref r0)]))
  have c41 := (F_gui.other W40 (Or.inr (slot_ne (Or.inr (hw _ (List.mem_of_getElem? (i := 53) rfl))) (Or.inr (hw _ (List.mem_of_getElem? (i := 51) rfl))) (by decide) (t := (.object "java/lang/String")) (t' := (.object "java/lang/String")) (by decide) (by decide))))
  obtain ⟨T42, h42, X42, e42, W42, st42⟩ := putF X40 hx hZ hown (host := "") (Or.inl (hw _ (List.mem_of_getElem? (i := 52) rfl))) Via.refl e40 c41 (Et.wr W40) (Or.inr ⟨(hw _ (List.mem_of_getElem? (i := 53) rfl)), rfl, hnm⟩) (hw _ (List.mem_of_getElem? (i := 31) rfl)) (ty := (.object "java/lang/String")) (by decide) (own_nrw i_v2) (own_fit i_v2) (g := (mkF m 11 #[.val (.ref r0), .val v1, .val v2, .val v3, .val v4, .val v5, .val v6, .val v7, .val v8, .val v9, .val v10, .val v11, .val v12] [v2, (.ref r0)])) rfl rfl (hb hby d7_11)
  refine own_by st42 ?_
  have Fw42 := c41.same W42
  have N42 := Fr.snoc X42 N40 g_r0
  show own_Comes p e below s _ _ _ (T42.setTop (mkF m 14 #[.val (.ref r0), .val v1, .val v2, .val v3, .val v4, .val v5, .val v6, .val v7, .val v8, .val v9, .val v10, .val v11, .val v12] []))
  refine own_by (fun _ kS => XS.aloadN X42.here hx rfl (hb hby d7_14) rfl rfl kS) ?_
  show own_Comes p e below s _ _ _ (T42.setTop (mkF m 15 #[.val (.ref r0), .val v1, .val v2, .val v3, .val v4, .val v5, .val v6, .val v7, .val v8, .val v9, .val v10, .val v11, .val v12] [(.ref r0)]))
  refine own_by (fun _ kS => XS.aloadN X42.here hx rfl (hb hby d7_15) rfl i_v3 kS) ?_
  show own_Comes p e below s _ _ _ (T42.setTop (mkF m 16 #[.val (.ref r0), .val v1, .val v2, .val v3, .val v4, .val v5, .val v6, .val v7, .val v8, .val v9, .val v10, .val v11, .val v12] [v3, (.ref r0)]))
  have c43 := ((F_pixKey.other W40 (Or.inr (slot_ne (Or.inr (hw _ (List.mem_of_getElem? (i := 55) rfl))) (Or.inr (hw _ (List.mem_of_getElem? (i := 51) rfl))) (by decide) (t := (.object "java/lang/String")) (t' := (.object "java/lang/String")) (by decide) (by decide)))).other W42 (Or.inr (slot_ne (Or.inr (hw _ (List.mem_of_getElem? (i := 55) rfl))) (Or.inr (hw _ (List.mem_of_getElem? (i := 53) rfl))) (by decide) (t := (.object "java/lang/String")) (t' := (.object "java/lang/String")) (by decide) (by decide))))
  obtain ⟨T44, h44, X44, e44, W44, st44⟩ := putF X42 hx hZ hown (host := "") (Or.inl (hw _ (List.mem_of_getElem? (i := 54) rfl))) Via.refl e42 c43 ((Et.wr W40).wr W42) (Or.inr ⟨(hw _ (List.mem_of_getElem? (i := 55) rfl)), rfl, hnm⟩) (hw _ (List.mem_of_getElem? (i := 31) rfl)) (ty := (.object "java/lang/String")) (by decide) (own_nrw i_v3) (own_fit i_v3) (g := (mkF m 16 #[.val (.ref r0), .val v1, .val v2, .val v3, .val v4, .val v5, .val v6, .val v7, .val v8, .val v9, .val v10, .val v11, .val v12] [v3, (.ref r0)])) rfl rfl (hb hby d7_16)
  refine own_by st44 ?_
  have Fw44 := c43.same W44
  have N44 := Fr.snoc X44 N42 g_r0
  show own_Comes p e below s _ _ _ (T44.setTop (mkF m 19 #[.val (.ref r0), .val v1, .val v2, .val v3, .val v4, .val v5, .val v6, .val v7, .val v8, .val v9, .val v10, .val v11, .val v12] []))
  refine own_by (fun _ kS => XS.aloadN X44.here hx rfl (hb hby d7_19) rfl rfl kS) ?_
  show own_Comes p e below s _ _ _ (T44.setTop (mkF m 20 #[.val (.ref r0), .val v1, .val v2, .val v3, .val v4, .val v5, .val v6, .val v7, .val v8, .val v9, .val v10, .val v11, .val v12] [(.ref r0)]))
  refine own_by (fun _ kS => XS.aload X44.here hx rfl (hb hby d7_20) rfl i_v4 kS) ?_
  show own_Comes p e below s _ _ _ (T44.setTop (mkF m 22 #[.val (.ref r0), .val v1, .val v2, .val v3, .val v4, .val v5, .val v6, .val v7, .val v8, .val v9, .val v10, .val v11, .val v12] [v4, (.ref r0)]))
  have c45 := (((F_url.other W40 (Or.inr (slot_ne (Or.inr (hw _ (List.mem_of_getElem? (i := 57) rfl))) (Or.inr (hw _ (List.mem_of_getElem? (i := 51) rfl))) (by decide) (t := (.object "java/lang/String")) (t' := (.object "java/lang/String")) (by decide) (by decide)))).other W42 (Or.inr (slot_ne (Or.inr (hw _ (List.mem_of_getElem? (i := 57) rfl))) (Or.inr (hw _ (List.mem_of_getElem? (i := 53) rfl))) (by decide) (t := (.object "java/lang/String")) (t' := (.object "java/lang/String")) (by decide) (by decide)))).other W44 (Or.inr (slot_ne (Or.inr (hw _ (List.mem_of_getElem? (i := 57) rfl))) (Or.inr (hw _ (List.mem_of_getElem? (i := 55) rfl))) (by decide) (t := (.object "java/lang/String")) (t' := (.object "java/lang/String")) (by decide) (by decide))))
  obtain ⟨T46, h46, X46, e46, W46, st46⟩ := putF X44 hx hZ hown (host := "") (Or.inl (hw _ (List.mem_of_getElem? (i := 56) rfl))) Via.refl e44 c45 (((Et.wr W40).wr W42).wr W44) (Or.inr ⟨(hw _ (List.mem_of_getElem? (i := 57) rfl)), rfl, hnm⟩) (hw _ (List.mem_of_getElem? (i := 31) rfl)) (ty := (.object "java/lang/String")) (by decide) (own_nrw i_v4) (own_fit i_v4) (g := (mkF m 22 #[.val (.ref r0), .val v1, .val v2, .val v3, .val v4, .val v5, .val v6, .val v7, .val v8, .val v9, .val v10, .val v11, .val v12] [v4, (.ref r0)])) rfl rfl (hb hby d7_22)
  refine own_by st46 ?_
  have Fw46 := c45.same W46
  have N46 := Fr.snoc X46 N44 g_r0
  show own_Comes p e below s _ _ _ (T46.setTop (mkF m 25 #[.val (.ref r0), .val v1, .val v2, .val v3, .val v4, .val v5, .val v6, .val v7, .val v8, .val v9, .val v10, .val v11, .val v12] []))
  refine own_by (fun _ kS => XS.aloadN X46.here hx rfl (hb hby d7_25) rfl rfl kS) ?_
  show own_Comes p e below s _ _ _ (T46.setTop (mkF m 26 #[.val (.ref r0), .val v1, .val v2, .val v3, .val v4, .val v5, .val v6, .val v7, .val v8, .val v9, .val v10, .val v11, .val v12] [(.ref r0)]))
  refine own_by (fun _ kS => XS.aload X46.here hx rfl (hb hby d7_26) rfl i_v5 kS) ?_
  show own_Comes p e below s _ _ _ (T46.setTop (mkF m 28 #[.val (.ref r0), .val v1, .val v2, .val v3, .val v4, .val v5, .val v6, .val v7, .val v8, .val v9, .val v10, .val v11, .val v12] [v5, (.ref r0)]))
  have c47 := ((((F_merchantCategoryCode.other W40 (Or.inr (slot_ne (Or.inr (hw _ (List.mem_of_getElem? (i := 59) rfl))) (Or.inr (hw _ (List.mem_of_getElem? (i := 51) rfl))) (by decide) (t := (.object "java/lang/String")) (t' := (.object "java/lang/String")) (by decide) (by decide)))).other W42 (Or.inr (slot_ne (Or.inr (hw _ (List.mem_of_getElem? (i := 59) rfl))) (Or.inr (hw _ (List.mem_of_getElem? (i := 53) rfl))) (by decide) (t := (.object "java/lang/String")) (t' := (.object "java/lang/String")) (by decide) (by decide)))).other W44 (Or.inr (slot_ne (Or.inr (hw _ (List.mem_of_getElem? (i := 59) rfl))) (Or.inr (hw _ (List.mem_of_getElem? (i := 55) rfl))) (by decide) (t := (.object "java/lang/String")) (t' := (.object "java/lang/String")) (by decide) (by decide)))).other W46 (Or.inr (slot_ne (Or.inr (hw _ (List.mem_of_getElem? (i := 59) rfl))) (Or.inr (hw _ (List.mem_of_getElem? (i := 57) rfl))) (by decide) (t := (.object "java/lang/String")) (t' := (.object "java/lang/String")) (by decide) (by decide))))
  obtain ⟨T48, h48, X48, e48, W48, st48⟩ := putF X46 hx hZ hown (host := "") (Or.inl (hw _ (List.mem_of_getElem? (i := 58) rfl))) Via.refl e46 c47 ((((Et.wr W40).wr W42).wr W44).wr W46) (Or.inr ⟨(hw _ (List.mem_of_getElem? (i := 59) rfl)), rfl, hnm⟩) (hw _ (List.mem_of_getElem? (i := 31) rfl)) (ty := (.object "java/lang/String")) (by decide) (own_nrw i_v5) (own_fit i_v5) (g := (mkF m 28 #[.val (.ref r0), .val v1, .val v2, .val v3, .val v4, .val v5, .val v6, .val v7, .val v8, .val v9, .val v10, .val v11, .val v12] [v5, (.ref r0)])) rfl rfl (hb hby d7_28)
  refine own_by st48 ?_
  have Fw48 := c47.same W48
  have N48 := Fr.snoc X48 N46 g_r0
  show own_Comes p e below s _ _ _ (T48.setTop (mkF m 31 #[.val (.ref r0), .val v1, .val v2, .val v3, .val v4, .val v5, .val v6, .val v7, .val v8, .val v9, .val v10, .val v11, .val v12] []))
  refine own_by (fun _ kS => XS.aloadN X48.here hx rfl (hb hby d7_31) rfl rfl kS) ?_
  show own_Comes p e below s _ _ _ (T48.setTop (mkF m 32 #[.val (.ref r0), .val v1, .val v2, .val v3, .val v4, .val v5, .val v6, .val v7, .val v8, .val v9, .val v10, .val v11, .val v12] [(.ref r0)]))
  refine own_by (fun _ kS => XS.aload X48.here hx rfl (hb hby d7_32) rfl i_v6 kS) ?_
  show own_Comes p e below s _ _ _ (T48.setTop (mkF m 34 #[.val (.ref r0), .val v1, .val v2, .val v3, .val v4, .val v5, .val v6, .val v7, .val v8, .val v9, .val v10, .val v11, .val v12] [v6, (.ref r0)]))
  have c49 := (((((F_transactionCurrency.other W40 (Or.inr (slot_ne (Or.inr (hw _ (List.mem_of_getElem? (i := 61) rfl))) (Or.inr (hw _ (List.mem_of_getElem? (i := 51) rfl))) (by decide) (t := (.object "java/lang/String")) (t' := (.object "java/lang/String")) (by decide) (by decide)))).other W42 (Or.inr (slot_ne (Or.inr (hw _ (List.mem_of_getElem? (i := 61) rfl))) (Or.inr (hw _ (List.mem_of_getElem? (i := 53) rfl))) (by decide) (t := (.object "java/lang/String")) (t' := (.object "java/lang/String")) (by decide) (by decide)))).other W44 (Or.inr (slot_ne (Or.inr (hw _ (List.mem_of_getElem? (i := 61) rfl))) (Or.inr (hw _ (List.mem_of_getElem? (i := 55) rfl))) (by decide) (t := (.object "java/lang/String")) (t' := (.object "java/lang/String")) (by decide) (by decide)))).other W46 (Or.inr (slot_ne (Or.inr (hw _ (List.mem_of_getElem? (i := 61) rfl))) (Or.inr (hw _ (List.mem_of_getElem? (i := 57) rfl))) (by decide) (t := (.object "java/lang/String")) (t' := (.object "java/lang/String")) (by decide) (by decide)))).other W48 (Or.inr (slot_ne (Or.inr (hw _ (List.mem_of_getElem? (i := 61) rfl))) (Or.inr (hw _ (List.mem_of_getElem? (i := 59) rfl))) (by decide) (t := (.object "java/lang/String")) (t' := (.object "java/lang/String")) (by decide) (by decide))))
  obtain ⟨T50, h50, X50, e50, W50, st50⟩ := putF X48 hx hZ hown (host := "") (Or.inl (hw _ (List.mem_of_getElem? (i := 60) rfl))) Via.refl e48 c49 (((((Et.wr W40).wr W42).wr W44).wr W46).wr W48) (Or.inr ⟨(hw _ (List.mem_of_getElem? (i := 61) rfl)), rfl, hnm⟩) (hw _ (List.mem_of_getElem? (i := 31) rfl)) (ty := (.object "java/lang/String")) (by decide) (own_nrw i_v6) (own_fit i_v6) (g := (mkF m 34 #[.val (.ref r0), .val v1, .val v2, .val v3, .val v4, .val v5, .val v6, .val v7, .val v8, .val v9, .val v10, .val v11, .val v12] [v6, (.ref r0)])) rfl rfl (hb hby d7_34)
  refine own_by st50 ?_
  have Fw50 := c49.same W50
  have N50 := Fr.snoc X50 N48 g_r0
  show own_Comes p e below s _ _ _ (T50.setTop (mkF m 37 #[.val (.ref r0), .val v1, .val v2, .val v3, .val v4, .val v5, .val v6, .val v7, .val v8, .val v9, .val v10, .val v11, .val v12] []))
  refine own_by (fun _ kS => XS.aloadN X50.here hx rfl (hb hby d7_37) rfl rfl kS) ?_
  show own_Comes p e below s _ _ _ (T50.setTop (mkF m 38 #[.val (.ref r0), .val v1, .val v2, .val v3, .val v4, .val v5, .val v6, .val v7, .val v8, .val v9, .val v10, .val v11, .val v12] [(.ref r0)]))
  refine own_by (fun _ kS => XS.aload X50.here hx rfl (hb hby d7_38) rfl i_v7 kS) ?_
  show own_Comes p e below s _ _ _ (T50.setTop (mkF m 40 #[.val (.ref r0), .val v1, .val v2, .val v3, .val v4, .val v5, .val v6, .val v7, .val v8, .val v9, .val v10, .val v11, .val v12] [v7, (.ref r0)]))
  have c51 := ((((((F_transactionAmount.other W40 (Or.inr (slot_ne (Or.inr (hw _ (List.mem_of_getElem? (i := 63) rfl))) (Or.inr (hw _ (List.mem_of_getElem? (i := 51) rfl))) (by decide) (t := (.object "java/lang/String")) (t' := (.object "java/lang/String")) (by decide) (by decide)))).other W42 (Or.inr (slot_ne (Or.inr (hw _ (List.mem_of_getElem? (i := 63) rfl))) (Or.inr (hw _ (List.mem_of_getElem? (i := 53) rfl))) (by decide) (t := (.object "java/lang/String")) (t' := (.object "java/lang/String")) (by decide) (by decide)))).other W44 (Or.inr (slot_ne (Or.inr (hw _ (List.mem_of_getElem? (i := 63) rfl))) (Or.inr (hw _ (List.mem_of_getElem? (i := 55) rfl))) (by decide) (t := (.object "java/lang/String")) (t' := (.object "java/lang/String")) (by decide) (by decide)))).other W46 (Or.inr (slot_ne (Or.inr (hw _ (List.mem_of_getElem? (i := 63) rfl))) (Or.inr (hw _ (List.mem_of_getElem? (i := 57) rfl))) (by decide) (t := (.object "java/lang/String")) (t' := (.object "java/lang/String")) (by decide) (by decide)))).other W48 (Or.inr (slot_ne (Or.inr (hw _ (List.mem_of_getElem? (i := 63) rfl))) (Or.inr (hw _ (List.mem_of_getElem? (i := 59) rfl))) (by decide) (t := (.object "java/lang/String")) (t' := (.object "java/lang/String")) (by decide) (by decide)))).other W50 (Or.inr (slot_ne (Or.inr (hw _ (List.mem_of_getElem? (i := 63) rfl))) (Or.inr (hw _ (List.mem_of_getElem? (i := 61) rfl))) (by decide) (t := (.object "java/lang/String")) (t' := (.object "java/lang/String")) (by decide) (by decide))))
  have c52 := ((((((Et.wr W40).wr W42).wr W44).wr W46).wr W48).wr W50)
  obtain ⟨T53, h53, X53, e53, W53, st53⟩ := putF X50 hx hZ hown (host := "") (Or.inl (hw _ (List.mem_of_getElem? (i := 62) rfl))) Via.refl e50 c51 c52 (Or.inr ⟨(hw _ (List.mem_of_getElem? (i := 63) rfl)), rfl, hnm⟩) (hw _ (List.mem_of_getElem? (i := 31) rfl)) (ty := (.object "java/lang/String")) (by decide) (own_nrw i_v7) (own_fit i_v7) (g := (mkF m 40 #[.val (.ref r0), .val v1, .val v2, .val v3, .val v4, .val v5, .val v6, .val v7, .val v8, .val v9, .val v10, .val v11, .val v12] [v7, (.ref r0)])) rfl rfl (hb hby d7_40)
  refine own_by st53 ?_
  have Fw53 := c51.same W53
  have N53 := Fr.snoc X53 N50 g_r0
  show own_Comes p e below s _ _ _ (T53.setTop (mkF m 43 #[.val (.ref r0), .val v1, .val v2, .val v3, .val v4, .val v5, .val v6, .val v7, .val v8, .val v9, .val v10, .val v11, .val v12] []))
  refine own_by (fun _ kS => XS.aloadN X53.here hx rfl (hb hby d7_43) rfl rfl kS) ?_
  show own_Comes p e below s _ _ _ (T53.setTop (mkF m 44 #[.val (.ref r0), .val v1, .val v2, .val v3, .val v4, .val v5, .val v6, .val v7, .val v8, .val v9, .val v10, .val v11, .val v12] [(.ref r0)]))
  refine own_by (fun _ kS => XS.aload X53.here hx rfl (hb hby d7_44) rfl i_v8 kS) ?_
  show own_Comes p e below s _ _ _ (T53.setTop (mkF m 46 #[.val (.ref r0), .val v1, .val v2, .val v3, .val v4, .val v5, .val v6, .val v7, .val v8, .val v9, .val v10, .val v11, .val v12] [v8, (.ref r0)]))
  have c54 := (((((((F_countryCode.other W40 (Or.inr (slot_ne (Or.inr (hw _ (List.mem_of_getElem? (i := 65) rfl))) (Or.inr (hw _ (List.mem_of_getElem? (i := 51) rfl))) (by decide) (t := (.object "java/lang/String")) (t' := (.object "java/lang/String")) (by decide) (by decide)))).other W42 (Or.inr (slot_ne (Or.inr (hw _ (List.mem_of_getElem? (i := 65) rfl))) (Or.inr (hw _ (List.mem_of_getElem? (i := 53) rfl))) (by decide) (t := (.object "java/lang/String")) (t' := (.object "java/lang/String")) (by decide) (by decide)))).other W44 (Or.inr (slot_ne (Or.inr (hw _ (List.mem_of_getElem? (i := 65) rfl))) (Or.inr (hw _ (List.mem_of_getElem? (i := 55) rfl))) (by decide) (t := (.object "java/lang/String")) (t' := (.object "java/lang/String")) (by decide) (by decide)))).other W46 (Or.inr (slot_ne (Or.inr (hw _ (List.mem_of_getElem? (i := 65) rfl))) (Or.inr (hw _ (List.mem_of_getElem? (i := 57) rfl))) (by decide) (t := (.object "java/lang/String")) (t' := (.object "java/lang/String")) (by decide) (by decide)))).other W48 (Or.inr (slot_ne (Or.inr (hw _ (List.mem_of_getElem? (i := 65) rfl))) (Or.inr (hw _ (List.mem_of_getElem? (i := 59) rfl))) (by decide) (t := (.object "java/lang/String")) (t' := (.object "java/lang/String")) (by decide) (by decide)))).other W50 (Or.inr (slot_ne (Or.inr (hw _ (List.mem_of_getElem? (i := 65) rfl))) (Or.inr (hw _ (List.mem_of_getElem? (i := 61) rfl))) (by decide) (t := (.object "java/lang/String")) (t' := (.object "java/lang/String")) (by decide) (by decide)))).other W53 (Or.inr (slot_ne (Or.inr (hw _ (List.mem_of_getElem? (i := 65) rfl))) (Or.inr (hw _ (List.mem_of_getElem? (i := 63) rfl))) (by decide) (t := (.object "java/lang/String")) (t' := (.object "java/lang/String")) (by decide) (by decide))))
  obtain ⟨T55, h55, X55, e55, W55, st55⟩ := putF X53 hx hZ hown (host := "") (Or.inl (hw _ (List.mem_of_getElem? (i := 64) rfl))) Via.refl e53 c54 (c52.wr W53) (Or.inr ⟨(hw _ (List.mem_of_getElem? (i := 65) rfl)), rfl, hnm⟩) (hw _ (List.mem_of_getElem? (i := 31) rfl)) (ty := (.object "java/lang/String")) (by decide) (own_nrw i_v8) (own_fit i_v8) (g := (mkF m 46 #[.val (.ref r0), .val v1, .val v2, .val v3, .val v4, .val v5, .val v6, .val v7, .val v8, .val v9, .val v10, .val v11, .val v12] [v8, (.ref r0)])) rfl rfl (hb hby d7_46)
  refine own_by st55 ?_
  have Fw55 := c54.same W55
  have N55 := Fr.snoc X55 N53 g_r0
  show own_Comes p e below s _ _ _ (T55.setTop (mkF m 49 #[.val (.ref r0), .val v1, .val v2, .val v3, .val v4, .val v5, .val v6, .val v7, .val v8, .val v9, .val v10, .val v11, .val v12] []))
  refine own_by (fun _ kS => XS.aloadN X55.here hx rfl (hb hby d7_49) rfl rfl kS) ?_
  show own_Comes p e below s _ _ _ (T55.setTop (mkF m 50 #[.val (.ref r0), .val v1, .val v2, .val v3, .val v4, .val v5, .val v6, .val v7, .val v8, .val v9, .val v10, .val v11, .val v12] [(.ref r0)]))
  refine own_by (fun _ kS => XS.aload X55.here hx rfl (hb hby d7_50) rfl i_v9 kS) ?_
  show own_Comes p e below s _ _ _ (T55.setTop (mkF m 52 #[.val (.ref r0), .val v1, .val v2, .val v3, .val v4, .val v5, .val v6, .val v7, .val v8, .val v9, .val v10, .val v11, .val v12] [v9, (.ref r0)]))
  have c56 := ((((((((F_merchantName.other W40 (Or.inr (slot_ne (Or.inr (hw _ (List.mem_of_getElem? (i := 67) rfl))) (Or.inr (hw _ (List.mem_of_getElem? (i := 51) rfl))) (by decide) (t := (.object "java/lang/String")) (t' := (.object "java/lang/String")) (by decide) (by decide)))).other W42 (Or.inr (slot_ne (Or.inr (hw _ (List.mem_of_getElem? (i := 67) rfl))) (Or.inr (hw _ (List.mem_of_getElem? (i := 53) rfl))) (by decide) (t := (.object "java/lang/String")) (t' := (.object "java/lang/String")) (by decide) (by decide)))).other W44 (Or.inr (slot_ne (Or.inr (hw _ (List.mem_of_getElem? (i := 67) rfl))) (Or.inr (hw _ (List.mem_of_getElem? (i := 55) rfl))) (by decide) (t := (.object "java/lang/String")) (t' := (.object "java/lang/String")) (by decide) (by decide)))).other W46 (Or.inr (slot_ne (Or.inr (hw _ (List.mem_of_getElem? (i := 67) rfl))) (Or.inr (hw _ (List.mem_of_getElem? (i := 57) rfl))) (by decide) (t := (.object "java/lang/String")) (t' := (.object "java/lang/String")) (by decide) (by decide)))).other W48 (Or.inr (slot_ne (Or.inr (hw _ (List.mem_of_getElem? (i := 67) rfl))) (Or.inr (hw _ (List.mem_of_getElem? (i := 59) rfl))) (by decide) (t := (.object "java/lang/String")) (t' := (.object "java/lang/String")) (by decide) (by decide)))).other W50 (Or.inr (slot_ne (Or.inr (hw _ (List.mem_of_getElem? (i := 67) rfl))) (Or.inr (hw _ (List.mem_of_getElem? (i := 61) rfl))) (by decide) (t := (.object "java/lang/String")) (t' := (.object "java/lang/String")) (by decide) (by decide)))).other W53 (Or.inr (slot_ne (Or.inr (hw _ (List.mem_of_getElem? (i := 67) rfl))) (Or.inr (hw _ (List.mem_of_getElem? (i := 63) rfl))) (by decide) (t := (.object "java/lang/String")) (t' := (.object "java/lang/String")) (by decide) (by decide)))).other W55 (Or.inr (slot_ne (Or.inr (hw _ (List.mem_of_getElem? (i := 67) rfl))) (Or.inr (hw _ (List.mem_of_getElem? (i := 65) rfl))) (by decide) (t := (.object "java/lang/String")) (t' := (.object "java/lang/String")) (by decide) (by decide))))
  obtain ⟨T57, h57, X57, e57, W57, st57⟩ := putF X55 hx hZ hown (host := "") (Or.inl (hw _ (List.mem_of_getElem? (i := 66) rfl))) Via.refl e55 c56 ((c52.wr W53).wr W55) (Or.inr ⟨(hw _ (List.mem_of_getElem? (i := 67) rfl)), rfl, hnm⟩) (hw _ (List.mem_of_getElem? (i := 31) rfl)) (ty := (.object "java/lang/String")) (by decide) (own_nrw i_v9) (own_fit i_v9) (g := (mkF m 52 #[.val (.ref r0), .val v1, .val v2, .val v3, .val v4, .val v5, .val v6, .val v7, .val v8, .val v9, .val v10, .val v11, .val v12] [v9, (.ref r0)])) rfl rfl (hb hby d7_52)
  refine own_by st57 ?_
  have Fw57 := c56.same W57
  have N57 := Fr.snoc X57 N55 g_r0
  show own_Comes p e below s _ _ _ (T57.setTop (mkF m 55 #[.val (.ref r0), .val v1, .val v2, .val v3, .val v4, .val v5, .val v6, .val v7, .val v8, .val v9, .val v10, .val v11, .val v12] []))
  refine own_by (fun _ kS => XS.aloadN X57.here hx rfl (hb hby d7_55) rfl rfl kS) ?_
  show own_Comes p e below s _ _ _ (T57.setTop (mkF m 56 #[.val (.ref r0), .val v1, .val v2, .val v3, .val v4, .val v5, .val v6, .val v7, .val v8, .val v9, .val v10, .val v11, .val v12] [(.ref r0)]))
  refine own_by (fun _ kS => XS.aload X57.here hx rfl (hb hby d7_56) rfl i_v10 kS) ?_
  show own_Comes p e below s _ _ _ (T57.setTop (mkF m 58 #[.val (.ref r0), .val v1, .val v2, .val v3, .val v4, .val v5, .val v6, .val v7, .val v8, .val v9, .val v10, .val v11, .val v12] [v10, (.ref r0)]))
  have c58 := (((((((((F_merchantCity.other W40 (Or.inr (slot_ne (Or.inr (hw _ (List.mem_of_getElem? (i := 69) rfl))) (Or.inr (hw _ (List.mem_of_getElem? (i := 51) rfl))) (by decide) (t := (.object "java/lang/String")) (t' := (.object "java/lang/String")) (by decide) (by decide)))).other W42 (Or.inr (slot_ne (Or.inr (hw _ (List.mem_of_getElem? (i := 69) rfl))) (Or.inr (hw _ (List.mem_of_getElem? (i := 53) rfl))) (by decide) (t := (.object "java/lang/String")) (t' := (.object "java/lang/String")) (by decide) (by decide)))).other W44 (Or.inr (slot_ne (Or.inr (hw _ (List.mem_of_getElem? (i := 69) rfl))) (Or.inr (hw _ (List.mem_of_getElem? (i := 55) rfl))) (by decide) (t := (.object "java/lang/String")) (t' := (.object "java/lang/String")) (by decide) (by decide)))).other W46 (Or.inr (slot_ne (Or.inr (hw _ (List.mem_of_getElem? (i := 69) rfl))) (Or.inr (hw _ (List.mem_of_getElem? (i := 57) rfl))) (by decide) (t := (.object "java/lang/String")) (t' := (.object "java/lang/String")) (by decide) (by decide)))).other W48 (Or.inr (slot_ne (Or.inr (hw _ (List.mem_of_getElem? (i := 69) rfl))) (Or.inr (hw _ (List.mem_of_getElem? (i := 59) rfl))) (by decide) (t := (.object "java/lang/String")) (t' := (.object "java/lang/String")) (by decide) (by decide)))).other W50 (Or.inr (slot_ne (Or.inr (hw _ (List.mem_of_getElem? (i := 69) rfl))) (Or.inr (hw _ (List.mem_of_getElem? (i := 61) rfl))) (by decide) (t := (.object "java/lang/String")) (t' := (.object "java/lang/String")) (by decide) (by decide)))).other W53 (Or.inr (slot_ne (Or.inr (hw _ (List.mem_of_getElem? (i := 69) rfl))) (Or.inr (hw _ (List.mem_of_getElem? (i := 63) rfl))) (by decide) (t := (.object "java/lang/String")) (t' := (.object "java/lang/String")) (by decide) (by decide)))).other W55 (Or.inr (slot_ne (Or.inr (hw _ (List.mem_of_getElem? (i := 69) rfl))) (Or.inr (hw _ (List.mem_of_getElem? (i := 65) rfl))) (by decide) (t := (.object "java/lang/String")) (t' := (.object "java/lang/String")) (by decide) (by decide)))).other W57 (Or.inr (slot_ne (Or.inr (hw _ (List.mem_of_getElem? (i := 69) rfl))) (Or.inr (hw _ (List.mem_of_getElem? (i := 67) rfl))) (by decide) (t := (.object "java/lang/String")) (t' := (.object "java/lang/String")) (by decide) (by decide))))
  obtain ⟨T59, h59, X59, e59, W59, st59⟩ := putF X57 hx hZ hown (host := "") (Or.inl (hw _ (List.mem_of_getElem? (i := 68) rfl))) Via.refl e57 c58 (((c52.wr W53).wr W55).wr W57) (Or.inr ⟨(hw _ (List.mem_of_getElem? (i := 69) rfl)), rfl, hnm⟩) (hw _ (List.mem_of_getElem? (i := 31) rfl)) (ty := (.object "java/lang/String")) (by decide) (own_nrw i_v10) (own_fit i_v10) (g := (mkF m 58 #[.val (.ref r0), .val v1, .val v2, .val v3, .val v4, .val v5, .val v6, .val v7, .val v8, .val v9, .val v10, .val v11, .val v12] [v10, (.ref r0)])) rfl rfl (hb hby d7_58)
  refine own_by st59 ?_
  have Fw59 := c58.same W59
  have N59 := Fr.snoc X59 N57 g_r0
  show own_Comes p e below s _ _ _ (T59.setTop (mkF m 61 #[.val (.ref r0), .val v1, .val v2, .val v3, .val v4, .val v5, .val v6, .val v7, .val v8, .val v9, .val v10, .val v11, .val v12] []))
  refine own_by (fun _ kS => XS.aloadN X59.here hx rfl (hb hby d7_61) rfl rfl kS) ?_
  show own_Comes p e below s _ _ _ (T59.setTop (mkF m 62 #[.val (.ref r0), .val v1, .val v2, .val v3, .val v4, .val v5, .val v6, .val v7, .val v8, .val v9, .val v10, .val v11, .val v12] [(.ref r0)]))
  refine own_by (fun _ kS => XS.aload X59.here hx rfl (hb hby d7_62) rfl i_v11 kS) ?_
  show own_Comes p e below s _ _ _ (T59.setTop (mkF m 64 #[.val (.ref r0), .val v1, .val v2, .val v3, .val v4, .val v5, .val v6, .val v7, .val v8, .val v9, .val v10, .val v11, .val v12] [v11, (.ref r0)]))
  have c60 := ((((((((((F_txid.other W40 (Or.inr (slot_ne (Or.inr (hw _ (List.mem_of_getElem? (i := 71) rfl))) (Or.inr (hw _ (List.mem_of_getElem? (i := 51) rfl))) (by decide) (t := (.object "java/lang/String")) (t' := (.object "java/lang/String")) (by decide) (by decide)))).other W42 (Or.inr (slot_ne (Or.inr (hw _ (List.mem_of_getElem? (i := 71) rfl))) (Or.inr (hw _ (List.mem_of_getElem? (i := 53) rfl))) (by decide) (t := (.object "java/lang/String")) (t' := (.object "java/lang/String")) (by decide) (by decide)))).other W44 (Or.inr (slot_ne (Or.inr (hw _ (List.mem_of_getElem? (i := 71) rfl))) (Or.inr (hw _ (List.mem_of_getElem? (i := 55) rfl))) (by decide) (t := (.object "java/lang/String")) (t' := (.object "java/lang/String")) (by decide) (by decide)))).other W46 (Or.inr (slot_ne (Or.inr (hw _ (List.mem_of_getElem? (i := 71) rfl))) (Or.inr (hw _ (List.mem_of_getElem? (i := 57) rfl))) (by decide) (t := (.object "java/lang/String")) (t' := (.object "java/lang/String")) (by decide) (by decide)))).other W48 (Or.inr (slot_ne (Or.inr (hw _ (List.mem_of_getElem? (i := 71) rfl))) (Or.inr (hw _ (List.mem_of_getElem? (i := 59) rfl))) (by decide) (t := (.object "java/lang/String")) (t' := (.object "java/lang/String")) (by decide) (by decide)))).other W50 (Or.inr (slot_ne (Or.inr (hw _ (List.mem_of_getElem? (i := 71) rfl))) (Or.inr (hw _ (List.mem_of_getElem? (i := 61) rfl))) (by decide) (t := (.object "java/lang/String")) (t' := (.object "java/lang/String")) (by decide) (by decide)))).other W53 (Or.inr (slot_ne (Or.inr (hw _ (List.mem_of_getElem? (i := 71) rfl))) (Or.inr (hw _ (List.mem_of_getElem? (i := 63) rfl))) (by decide) (t := (.object "java/lang/String")) (t' := (.object "java/lang/String")) (by decide) (by decide)))).other W55 (Or.inr (slot_ne (Or.inr (hw _ (List.mem_of_getElem? (i := 71) rfl))) (Or.inr (hw _ (List.mem_of_getElem? (i := 65) rfl))) (by decide) (t := (.object "java/lang/String")) (t' := (.object "java/lang/String")) (by decide) (by decide)))).other W57 (Or.inr (slot_ne (Or.inr (hw _ (List.mem_of_getElem? (i := 71) rfl))) (Or.inr (hw _ (List.mem_of_getElem? (i := 67) rfl))) (by decide) (t := (.object "java/lang/String")) (t' := (.object "java/lang/String")) (by decide) (by decide)))).other W59 (Or.inr (slot_ne (Or.inr (hw _ (List.mem_of_getElem? (i := 71) rfl))) (Or.inr (hw _ (List.mem_of_getElem? (i := 69) rfl))) (by decide) (t := (.object "java/lang/String")) (t' := (.object "java/lang/String")) (by decide) (by decide))))
  obtain ⟨T61, h61, X61, e61, W61, st61⟩ := putF X59 hx hZ hown (host := "") (Or.inl (hw _ (List.mem_of_getElem? (i := 70) rfl))) Via.refl e59 c60 ((((c52.wr W53).wr W55).wr W57).wr W59) (Or.inr ⟨(hw _ (List.mem_of_getElem? (i := 71) rfl)), rfl, hnm⟩) (hw _ (List.mem_of_getElem? (i := 31) rfl)) (ty := (.object "java/lang/String")) (by decide) (own_nrw i_v11) (own_fit i_v11) (g := (mkF m 64 #[.val (.ref r0), .val v1, .val v2, .val v3, .val v4, .val v5, .val v6, .val v7, .val v8, .val v9, .val v10, .val v11, .val v12] [v11, (.ref r0)])) rfl rfl (hb hby d7_64)
  refine own_by st61 ?_
  have Fw61 := c60.same W61
  have N61 := Fr.snoc X61 N59 g_r0
  show own_Comes p e below s _ _ _ (T61.setTop (mkF m 67 #[.val (.ref r0), .val v1, .val v2, .val v3, .val v4, .val v5, .val v6, .val v7, .val v8, .val v9, .val v10, .val v11, .val v12] []))
  refine own_by (fun _ kS => XS.aloadN X61.here hx rfl (hb hby d7_67) rfl rfl kS) ?_
  show own_Comes p e below s _ _ _ (T61.setTop (mkF m 68 #[.val (.ref r0), .val v1, .val v2, .val v3, .val v4, .val v5, .val v6, .val v7, .val v8, .val v9, .val v10, .val v11, .val v12] [(.ref r0)]))
  refine own_by (fun _ kS => XS.aload X61.here hx rfl (hb hby d7_68) rfl i_v12 kS) ?_
  show own_Comes p e below s _ _ _ (T61.setTop (mkF m 70 #[.val (.ref r0), .val v1, .val v2, .val v3, .val v4, .val v5, .val v6, .val v7, .val v8, .val v9, .val v10, .val v11, .val v12] [v12, (.ref r0)]))
  have c62 := (((((((((((F_crc.other W40 (Or.inr (slot_ne (Or.inr (hw _ (List.mem_of_getElem? (i := 73) rfl))) (Or.inr (hw _ (List.mem_of_getElem? (i := 51) rfl))) (by decide) (t := (.object "java/lang/String")) (t' := (.object "java/lang/String")) (by decide) (by decide)))).other W42 (Or.inr (slot_ne (Or.inr (hw _ (List.mem_of_getElem? (i := 73) rfl))) (Or.inr (hw _ (List.mem_of_getElem? (i := 53) rfl))) (by decide) (t := (.object "java/lang/String")) (t' := (.object "java/lang/String")) (by decide) (by decide)))).other W44 (Or.inr (slot_ne (Or.inr (hw _ (List.mem_of_getElem? (i := 73) rfl))) (Or.inr (hw _ (List.mem_of_getElem? (i := 55) rfl))) (by decide) (t := (.object "java/lang/String")) (t' := (.object "java/lang/String")) (by decide) (by decide)))).other W46 (Or.inr (slot_ne (Or.inr (hw _ (List.mem_of_getElem? (i := 73) rfl))) (Or.inr (hw _ (List.mem_of_getElem? (i := 57) rfl))) (by decide) (t := (.object "java/lang/String")) (t' := (.object "java/lang/String")) (by decide) (by decide)))).other W48 (Or.inr (slot_ne (Or.inr (hw _ (List.mem_of_getElem? (i := 73) rfl))) (Or.inr (hw _ (List.mem_of_getElem? (i := 59) rfl))) (by decide) (t := (.object "java/lang/String")) (t' := (.object "java/lang/String")) (by decide) (by decide)))).other W50 (Or.inr (slot_ne (Or.inr (hw _ (List.mem_of_getElem? (i := 73) rfl))) (Or.inr (hw _ (List.mem_of_getElem? (i := 61) rfl))) (by decide) (t := (.object "java/lang/String")) (t' := (.object "java/lang/String")) (by decide) (by decide)))).other W53 (Or.inr (slot_ne (Or.inr (hw _ (List.mem_of_getElem? (i := 73) rfl))) (Or.inr (hw _ (List.mem_of_getElem? (i := 63) rfl))) (by decide) (t := (.object "java/lang/String")) (t' := (.object "java/lang/String")) (by decide) (by decide)))).other W55 (Or.inr (slot_ne (Or.inr (hw _ (List.mem_of_getElem? (i := 73) rfl))) (Or.inr (hw _ (List.mem_of_getElem? (i := 65) rfl))) (by decide) (t := (.object "java/lang/String")) (t' := (.object "java/lang/String")) (by decide) (by decide)))).other W57 (Or.inr (slot_ne (Or.inr (hw _ (List.mem_of_getElem? (i := 73) rfl))) (Or.inr (hw _ (List.mem_of_getElem? (i := 67) rfl))) (by decide) (t := (.object "java/lang/String")) (t' := (.object "java/lang/String")) (by decide) (by decide)))).other W59 (Or.inr (slot_ne (Or.inr (hw _ (List.mem_of_getElem? (i := 73) rfl))) (Or.inr (hw _ (List.mem_of_getElem? (i := 69) rfl))) (by decide) (t := (.object "java/lang/String")) (t' := (.object "java/lang/String")) (by decide) (by decide)))).other W61 (Or.inr (slot_ne (Or.inr (hw _ (List.mem_of_getElem? (i := 73) rfl))) (Or.inr (hw _ (List.mem_of_getElem? (i := 71) rfl))) (by decide) (t := (.object "java/lang/String")) (t' := (.object "java/lang/String")) (by decide) (by decide))))
  obtain ⟨T63, h63, X63, e63, W63, st63⟩ := putF X61 hx hZ hown (host := "") (Or.inl (hw _ (List.mem_of_getElem? (i := 72) rfl))) Via.refl e61 c62 (((((c52.wr W53).wr W55).wr W57).wr W59).wr W61) (Or.inr ⟨(hw _ (List.mem_of_getElem? (i := 73) rfl)), rfl, hnm⟩) (hw _ (List.mem_of_getElem? (i := 31) rfl)) (ty := (.object "java/lang/String")) (by decide) (own_nrw i_v12) (own_fit i_v12) (g := (mkF m 70 #[.val (.ref r0), .val v1, .val v2, .val v3, .val v4, .val v5, .val v6, .val v7, .val v8, .val v9, .val v10, .val v11, .val v12] [v12, (.ref r0)])) rfl rfl (hb hby d7_70)
  refine own_by st63 ?_
  have Fw63 := c62.same W63
  have N63 := Fr.snoc X63 N61 g_r0
  show own_Comes p e below s _ _ _ (T63.setTop (mkF m 73 #[.val (.ref r0), .val v1, .val v2, .val v3, .val v4, .val v5, .val v6, .val v7, .val v8, .val v9, .val v10, .val v11, .val v12] []))
  have c64 := (((((((((((Fw40.other W42 (Or.inr (slot_ne (Or.inr (hw _ (List.mem_of_getElem? (i := 51) rfl))) (Or.inr (hw _ (List.mem_of_getElem? (i := 53) rfl))) (by decide) (t := (.object "java/lang/String")) (t' := (.object "java/lang/String")) (by decide) (by decide)))).other W44 (Or.inr (slot_ne (Or.inr (hw _ (List.mem_of_getElem? (i := 51) rfl))) (Or.inr (hw _ (List.mem_of_getElem? (i := 55) rfl))) (by decide) (t := (.object "java/lang/String")) (t' := (.object "java/lang/String")) (by decide) (by decide)))).other W46 (Or.inr (slot_ne (Or.inr (hw _ (List.mem_of_getElem? (i := 51) rfl))) (Or.inr (hw _ (List.mem_of_getElem? (i := 57) rfl))) (by decide) (t := (.object "java/lang/String")) (t' := (.object "java/lang/String")) (by decide) (by decide)))).other W48 (Or.inr (slot_ne (Or.inr (hw _ (List.mem_of_getElem? (i := 51) rfl))) (Or.inr (hw _ (List.mem_of_getElem? (i := 59) rfl))) (by decide) (t := (.object "java/lang/String")) (t' := (.object "java/lang/String")) (by decide) (by decide)))).other W50 (Or.inr (slot_ne (Or.inr (hw _ (List.mem_of_getElem? (i := 51) rfl))) (Or.inr (hw _ (List.mem_of_getElem? (i := 61) rfl))) (by decide) (t := (.object "java/lang/String")) (t' := (.object "java/lang/String")) (by decide) (by decide)))).other W53 (Or.inr (slot_ne (Or.inr (hw _ (List.mem_of_getElem? (i := 51) rfl))) (Or.inr (hw _ (List.mem_of_getElem? (i := 63) rfl))) (by decide) (t := (.object "java/lang/String")) (t' := (.object "java/lang/String")) (by decide) (by decide)))).other W55 (Or.inr (slot_ne (Or.inr (hw _ (List.mem_of_getElem? (i := 51) rfl))) (Or.inr (hw _ (List.mem_of_getElem? (i := 65) rfl))) (by decide) (t := (.object "java/lang/String")) (t' := (.object "java/lang/String")) (by decide) (by decide)))).other W57 (Or.inr (slot_ne (Or.inr (hw _ (List.mem_of_getElem? (i := 51) rfl))) (Or.inr (hw _ (List.mem_of_getElem? (i := 67) rfl))) (by decide) (t := (.object "java/lang/String")) (t' := (.object "java/lang/String")) (by decide) (by decide)))).other W59 (Or.inr (slot_ne (Or.inr (hw _ (List.mem_of_getElem? (i := 51) rfl))) (Or.inr (hw _ (List.mem_of_getElem? (i := 69) rfl))) (by decide) (t := (.object "java/lang/String")) (t' := (.object "java/lang/String")) (by decide) (by decide)))).other W61 (Or.inr (slot_ne (Or.inr (hw _ (List.mem_of_getElem? (i := 51) rfl))) (Or.inr (hw _ (List.mem_of_getElem? (i := 71) rfl))) (by decide) (t := (.object "java/lang/String")) (t' := (.object "java/lang/String")) (by decide) (by decide)))).other W63 (Or.inr (slot_ne (Or.inr (hw _ (List.mem_of_getElem? (i := 51) rfl))) (Or.inr (hw _ (List.mem_of_getElem? (i := 73) rfl))) (by decide) (t := (.object "java/lang/String")) (t' := (.object "java/lang/String")) (by decide) (by decide))))
  have c65 := ((((((((Fw46.other W48 (Or.inr (slot_ne (Or.inr (hw _ (List.mem_of_getElem? (i := 57) rfl))) (Or.inr (hw _ (List.mem_of_getElem? (i := 59) rfl))) (by decide) (t := (.object "java/lang/String")) (t' := (.object "java/lang/String")) (by decide) (by decide)))).other W50 (Or.inr (slot_ne (Or.inr (hw _ (List.mem_of_getElem? (i := 57) rfl))) (Or.inr (hw _ (List.mem_of_getElem? (i := 61) rfl))) (by decide) (t := (.object "java/lang/String")) (t' := (.object "java/lang/String")) (by decide) (by decide)))).other W53 (Or.inr (slot_ne (Or.inr (hw _ (List.mem_of_getElem? (i := 57) rfl))) (Or.inr (hw _ (List.mem_of_getElem? (i := 63) rfl))) (by decide) (t := (.object "java/lang/String")) (t' := (.object "java/lang/String")) (by decide) (by decide)))).other W55 (Or.inr (slot_ne (Or.inr (hw _ (List.mem_of_getElem? (i := 57) rfl))) (Or.inr (hw _ (List.mem_of_getElem? (i := 65) rfl))) (by decide) (t := (.object "java/lang/String")) (t' := (.object "java/lang/String")) (by decide) (by decide)))).other W57 (Or.inr (slot_ne (Or.inr (hw _ (List.mem_of_getElem? (i := 57) rfl))) (Or.inr (hw _ (List.mem_of_getElem? (i := 67) rfl))) (by decide) (t := (.object "java/lang/String")) (t' := (.object "java/lang/String")) (by decide) (by decide)))).other W59 (Or.inr (slot_ne (Or.inr (hw _ (List.mem_of_getElem? (i := 57) rfl))) (Or.inr (hw _ (List.mem_of_getElem? (i := 69) rfl))) (by decide) (t := (.object "java/lang/String")) (t' := (.object "java/lang/String")) (by decide) (by decide)))).other W61 (Or.inr (slot_ne (Or.inr (hw _ (List.mem_of_getElem? (i := 57) rfl))) (Or.inr (hw _ (List.mem_of_getElem? (i := 71) rfl))) (by decide) (t := (.object "java/lang/String")) (t' := (.object "java/lang/String")) (by decide) (by decide)))).other W63 (Or.inr (slot_ne (Or.inr (hw _ (List.mem_of_getElem? (i := 57) rfl))) (Or.inr (hw _ (List.mem_of_getElem? (i := 73) rfl))) (by decide) (t := (.object "java/lang/String")) (t' := (.object "java/lang/String")) (by decide) (by decide))))
  refine own_ret X63 (v := none) (fun _ => rfl) Bd.notSynchronized (by decide) (by decide) ?_ (fun fs hr => X63.returnOut hx Bd.returns (hb hby d7_73) hr)
  rw [e63]; exact ⟨rfl, N63, (((((((((((((Keep.refl _ _).wr W40 (Or.inl (List.mem_of_getElem? (i := 0) rfl))).wr W42 (Or.inl (List.mem_of_getElem? (i := 0) rfl))).wr W44 (Or.inl (List.mem_of_getElem? (i := 0) rfl))).wr W46 (Or.inl (List.mem_of_getElem? (i := 0) rfl))).wr W48 (Or.inl (List.mem_of_getElem? (i := 0) rfl))).wr W50 (Or.inl (List.mem_of_getElem? (i := 0) rfl))).wr W53 (Or.inl (List.mem_of_getElem? (i := 0) rfl))).wr W55 (Or.inl (List.mem_of_getElem? (i := 0) rfl))).wr W57 (Or.inl (List.mem_of_getElem? (i := 0) rfl))).wr W59 (Or.inl (List.mem_of_getElem? (i := 0) rfl))).wr W61 (Or.inl (List.mem_of_getElem? (i := 0) rfl))).wr W63 (Or.inl (List.mem_of_getElem? (i := 0) rfl))), c64, c65⟩
def Q10 (Z : State) (h0 : Heap) (n0 : Nat) (v : Option Value) (h : Heap) (L : List Loc) : Prop := v = some (.int (0 : Int32)) ∧ Fr n0 L ∧ h = h0
theorem ef_rm10 (m : MethodId) (x0 : Addr) : entryFrame m #[(.ref x0), .null] 3 = mkF m 0 #[.val (.ref x0), .val .null, .unset] [] := by first | (simp [entryFrame, mkF, argsToLocals, Value.category]; done) | rfl
theorem d10_0 : decode jdk_42_method_66_code 0 = .ok (.aload_n 0, 1) := by decide +kernel
theorem d10_1 : decode jdk_42_method_66_code 1 = .ok (.aload_n 1, 1) := by decide +kernel
theorem d10_2 : decode jdk_42_method_66_code 2 = .ok (.if_acmp .ne 5, 3) := by decide +kernel
theorem d10_7 : decode jdk_42_method_66_code 7 = .ok (.aload_n 1, 1) := by decide +kernel
theorem d10_8 : decode jdk_42_method_66_code 8 = .ok (.instanceof 10, 3) := by decide +kernel
theorem d10_11 : decode jdk_42_method_66_code 11 = .ok (.ifCond .eq 43, 3) := by decide +kernel
theorem d10_54 : decode jdk_42_method_66_code 54 = .ok (.iconst 0, 1) := by decide +kernel
theorem d10_55 : decode jdk_42_method_66_code 55 = .ok (.ireturn, 1) := by decide +kernel
set_option maxRecDepth 65536 in
set_option maxHeartbeats 40000000 in
theorem rm10 (l : Launch) (Z : State) (a0 : Array Value) (hw : ∀ d ∈ tables_1, d.before a0 Z = true) (ws : List Jvm.Cond) (r0 : Addr) (h0 : Heap) (n0 : Nat) (Z0 : n0 ≤ h0.size) :
    MetFree l (⟨"java/lang/String", "equals", "(Ljava/lang/Object;)Z"⟩ : MethodName) (head1 (Jvm.Cond.code (⟨"java/lang/String", "equals", "(Ljava/lang/Object;)Z"⟩ : MethodName) jdk_42_method_66_code 3 (some .boolean) :: ws) ({ frames := 0, cells := 0, slots := 0, locals := 0 } : Room)) (fun aX UX => aX = #[(.ref r0), .null] ∧ Z.Warmed39 UX.vm ∧ UX.heap = h0) (fun _ _ _ _ _ => True) (fun _ UX oX UX' => ∃ vX LX, oX = .returned vX ∧ Q10 Z  h0 n0 vX UX'.heap LX ∧ FrameEnd UX oX UX' LX ({ frames := 0, cells := 0, slots := 0, locals := 0 } : Room).cells ({ frames := 0, cells := 0, slots := 0, locals := 0 } : Room).slots) := by
  refine MetFree.of_bodySF (plainFor_of_name pn_java_lang_String) hisR ?_
  intro p e s m args below meth c s₁ Bd hml0 hP hK
  obtain ⟨rfl, hZ, hh⟩ := hP
  have hx := Bd.exec
  have hby := Bd.bytes
  have hml : c.maxLocals = 3 := hml0
  have hown : s.vm.findClass "java/lang/String" = some m.cls := findClass_of_methodNamed Bd.named
  have hnm := (name_of_methodNamed Bd.named Bd.method).1
  have X0 : Stand p l e ({ frames := 0, cells := 0, slots := 0, locals := 0 } : Room) s m #[(.ref r0), .null] below meth c s₁ [] 0 0 := Stand.of_body Bd
  have e0 : s₁.heap = h0 := by rw [← hh, Bd.state]; rfl
  have N0 := Fr.nil n0
  show own_Comes p e below s ({ frames := 0, cells := 0, slots := 0, locals := 0 } : Room).cells ({ frames := 0, cells := 0, slots := 0, locals := 0 } : Room).slots (Q10 Z  h0 n0) _
  rw [show entryFrame m #[(.ref r0), .null] 3 = mkF m 0 #[.val (.ref r0), .val .null, .unset] [] from ef_rm10 m r0]
  show own_Comes p e below s _ _ _ (s₁.setTop (mkF m 0 #[.val (.ref r0), .val .null, .unset] []))
  refine own_by (fun _ kS => XS.aloadN X0.here hx rfl (hb hby d10_0) rfl rfl kS) ?_
  show own_Comes p e below s _ _ _ (s₁.setTop (mkF m 1 #[.val (.ref r0), .val .null, .unset] [(.ref r0)]))
  refine own_by (fun _ kS => XS.aloadN X0.here hx rfl (hb hby d10_1) rfl rfl kS) ?_
  show own_Comes p e below s _ _ _ (s₁.setTop (mkF m 2 #[.val (.ref r0), .val .null, .unset] [.null, (.ref r0)]))
  refine own_by (fun _ kS => Jvm.RoadKit.acmp (g := (mkF m 2 #[.val (.ref r0), .val .null, .unset] [.null, (.ref r0)])) X0 hx rfl rfl rfl (pc0 := 2) (pc' := 7) (same := false) rfl (hb hby d10_2) rfl (decide_eq_false nofun) (by decide) (by decide) kS) ?_
  show own_Comes p e below s _ _ _ (s₁.setTop (mkF m 7 #[.val (.ref r0), .val .null, .unset] []))
  refine own_by (fun _ kS => XS.aloadN X0.here hx rfl (hb hby d10_7) rfl rfl kS) ?_
  show own_Comes p e below s _ _ _ (s₁.setTop (mkF m 8 #[.val (.ref r0), .val .null, .unset] [.null]))
  refine own_by (fun _ kS => X0.instanceofNull hx (g := (mkF m 8 #[.val (.ref r0), .val .null, .unset] [.null])) rfl rfl (hb hby d10_8) _ kS) ?_
  show own_Comes p e below s _ _ _ (s₁.setTop (mkF m 11 #[.val (.ref r0), .val .null, .unset] [(.int (0 : Int32))]))
  have hb66 : (0 : Int32) = (0 : Int32) := by decide
  refine own_by (fun _ kS => XS.ifYes X0.here hx rfl (pc0 := 11) (pc' := 54) rfl (hb hby d10_11) rfl ((if0 _ _).trans (teq hb66).1) (by decide) (by decide) kS) ?_
  show own_Comes p e below s _ _ _ (s₁.setTop (mkF m 54 #[.val (.ref r0), .val .null, .unset] []))
  refine own_by (fun _ kS => XS.iconst X0.here hx rfl (hb hby d10_54) kS) ?_
  show own_Comes p e below s _ _ _ (s₁.setTop (mkF m 55 #[.val (.ref r0), .val .null, .unset] [(.int (0 : Int32))]))
  refine own_ret X0 (v := some (.int (0 : Int32))) (fun h => by rw [Bd.returns] at h; cases h) Bd.notSynchronized (by decide) (by decide) ?_ (fun fs hr => retN X0 hx (t := .boolean) Bd.returns (by simp) (hb hby d10_55) hr)
  rw [e0]; exact ⟨rfl, N0, rfl⟩
def Q9 (Z : State) (z : Int32) (h0 : Heap) (n0 : Nat) (v : Option Value) (h : Heap) (L : List Loc) : Prop := v = some (.int z) ∧ Fr n0 L
theorem ef_rm9nn (m : MethodId) (x0 : Addr) : entryFrame m #[(.ref x0)] 1 = mkF m 0 #[.val (.ref x0)] [] := by first | (simp [entryFrame, mkF, argsToLocals, Value.category]; done) | rfl
theorem d9_0 : decode prog_2_method_3_code 0 = .ok (.ldc 147, 2) := by decide +kernel
theorem d9_2 : decode prog_2_method_3_code 2 = .ok (.aload_n 0, 1) := by decide +kernel
theorem d9_3 : decode prog_2_method_3_code 3 = .ok (.getfield 7, 3) := by decide +kernel
theorem pd__Ljava_lang_Object__Z_838 : parseMethodDescriptor "(Ljava/lang/Object;)Z" = some ⟨[(.object "java/lang/Object")], some .boolean⟩ := by decide +kernel
theorem d9_6 : decode prog_2_method_3_code 6 = .ok (.invokevirtual 149, 3) := by decide +kernel
theorem d9_9 : decode prog_2_method_3_code 9 = .ok (.ifCond .ne 10, 3) := by decide +kernel
theorem d9_12 : decode prog_2_method_3_code 12 = .ok (.aload_n 0, 1) := by decide +kernel
theorem d9_13 : decode prog_2_method_3_code 13 = .ok (.getfield 19, 3) := by decide +kernel
theorem d9_16 : decode prog_2_method_3_code 16 = .ok (.ifnull 7, 3) := by decide +kernel
theorem d9_23 : decode prog_2_method_3_code 23 = .ok (.iconst 0, 1) := by decide +kernel
theorem d9_24 : decode prog_2_method_3_code 24 = .ok (.ireturn, 1) := by decide +kernel
set_option maxRecDepth 65536 in
set_option maxHeartbeats 40000000 in
theorem rm9nn (l : Launch) (Z : State) (a0 : Array Value) (hw : ∀ d ∈ tables_1, d.before a0 Z = true) (ws : List Jvm.Cond) (r0 : Addr) (zc : Int32) (h0 : Heap) (n0 : Nat) (Z0 : n0 ≤ h0.size) (O0 : Old Z n0 h0) (Fi : Fld Z h0 r0 "com/example/beija_flor/beijaflor/brcode/BrCode" "initiationMethod" "Ljava/lang/String;" .null) (Fu : Fld Z h0 r0 "com/example/beija_flor/beijaflor/brcode/BrCode" "url" "Ljava/lang/String;" .null) (Sz : Sta Z Z.heap "java/lang/String" "COMPACT_STRINGS" "Z" (.int zc)) (hzc : ¬ zc = 0) :
    MetFree l (⟨"com/example/beija_flor/beijaflor/brcode/BrCode", "isDynamic", "()Z"⟩ : MethodName) (head1 (Jvm.Cond.code (⟨"com/example/beija_flor/beijaflor/brcode/BrCode", "isDynamic", "()Z"⟩ : MethodName) prog_2_method_3_code 1 (some .boolean) :: ws) ({ frames := 1, cells := 2, slots := 12, locals := 14 } : Room)) (fun aX UX => aX = #[(.ref r0)] ∧ Z.Warmed39 UX.vm ∧ UX.heap = h0 ∧ CHv Z own_EL UX.vm h0) (fun _ _ _ _ _ => True) (fun _ UX oX UX' => ∃ vX LX, oX = .returned vX ∧ Q9 Z (0 : Int32) h0 n0 vX UX'.heap LX ∧ CHr Z own_EL UX.vm UX.heap UX'.vm UX'.heap ∧ ReturnedEndW UX oX UX' LX ({ frames := 1, cells := 2, slots := 12, locals := 14 } : Room).cells ({ frames := 1, cells := 2, slots := 12, locals := 14 } : Room).slots) := by
  refine MetFree.of_bodySF (plainFor_of_name pn_com_example_beija_flor_beijaflor_brcode_BrCode) hisR ?_
  intro p e s m args below meth c s₁ Bd hml0 hP hK
  obtain ⟨rfl, hZ, hh, hCH0⟩ := hP
  have hx := Bd.exec
  have hby := Bd.bytes
  have hml : c.maxLocals = 1 := hml0
  have hown : s.vm.findClass "com/example/beija_flor/beijaflor/brcode/BrCode" = some m.cls := findClass_of_methodNamed Bd.named
  have hnm := (name_of_methodNamed Bd.named Bd.method).1
  have X0 : Stand p l e ({ frames := 1, cells := 2, slots := 12, locals := 14 } : Room) (s.setVm s.vm) m #[(.ref r0)] below meth c s₁ [] 0 0 := Stand.of_body Bd
  have hS : s.Since s.vm 0 := (State.WarmedH.refl s).since 0
  have hk : 0 ≤ h0.size := Nat.zero_le _
  have hZ : Z.Warmed39 (s.setVm s.vm).vm := hZ
  have hown : (s.setVm s.vm).vm.findClass "com/example/beija_flor/beijaflor/brcode/BrCode" = some m.cls := hown
  have hEL := own_EW hw
  have CH : CHr Z own_EL (s.setVm s.vm).vm h0 (s.setVm s.vm).vm h0 := CHr.refl hCH0
  have e0 : s₁.heap = h0 := by rw [← hh, Bd.state]; rfl
  have N0 := Fr.nil n0
  show own_ComesH Z p e below s ({ frames := 1, cells := 2, slots := 12, locals := 14 } : Room).cells ({ frames := 1, cells := 2, slots := 12, locals := 14 } : Room).slots (Q9 Z (0 : Int32) h0 n0) _
  rw [show entryFrame m #[(.ref r0)] 1 = mkF m 0 #[.val (.ref r0)] [] from ef_rm9nn m r0]
  show own_ComesH Z p e below s _ _ _ (s₁.setTop (mkF m 0 #[.val (.ref r0)] []))
  have wS : ∀ a ∈ Bundle.stringAtoms, a.before a0 Z = true := fun d hd => hw d ((by decide +kernel : ∀ d ∈ Bundle.stringAtoms, d ∈ tables_1) d hd)
  obtain ⟨a67, T67, h67, k67, b67, kb67, X67, e67, E67, hS67, hk67, hZ67, hown67, Ea67, Fc67, Fv67, Vb67, la67, lb67, CQ67, Li67, ne67, st67⟩ := ldcCH X0 hx hZ hown (hw _ (List.mem_of_getElem? (i := 79) rfl)) wS e0 hS hk hEL (List.mem_of_getElem? (i := 0) rfl) CH.1 (vs := [(.int (49 : Int32)), (.int (50 : Int32))]) (z := (2 : Int32)) ⟨by decide, rfl⟩ (by decide) rfl (g := (mkF m 0 #[.val (.ref r0)] [])) rfl (hb hby d9_0) (n := 8) (by decide) (by decide) (by decide) (by decide)
  refine own_byH st67 ?_
  have CR68 := CQ67
  have CH68 := CH.trans CR68
  show own_ComesH Z p e below s _ _ _ (T67.setTop (mkF m 2 #[.val (.ref r0)] [(.ref a67)]))
  refine own_byH (fun _ kS => XS.aloadN X67.here hx rfl (hb hby d9_2) rfl rfl kS) ?_
  show own_ComesH Z p e below s _ _ _ (T67.setTop (mkF m 3 #[.val (.ref r0)] [(.ref r0), (.ref a67)]))
  obtain ⟨T69, X69, e69, st69⟩ := getF X67 hx hZ67 hown67 (host := "") (Or.inl (hw _ (List.mem_of_getElem? (i := 50) rfl))) Via.refl e67 (Fi.ext E67) (g := (mkF m 3 #[.val (.ref r0)] [(.ref r0), (.ref a67)])) rfl rfl (hb hby d9_3)
  refine own_byH st69 ?_
  show own_ComesH Z p e below s _ _ _ (T69.setTop (mkF m 6 #[.val (.ref r0)] [.null, (.ref a67)]))
  obtain ⟨cq70, kq70, q70a, q70b, q70c⟩ := isOf hZ67 e69 Ea67
  obtain ⟨vv70, _, ⟨T70, L70, k70, n70⟩, -, X70, ⟨Lc70, hQ70, l70, y70, z70⟩, st70⟩ := X69.virtualBack hx (y := (⟨"java/lang/String", "equals", "(Ljava/lang/Object;)Z"⟩ : MethodName)) (z := (⟨"java/lang/String", "equals", "(Ljava/lang/Object;)Z"⟩ : MethodName)) hown67 (mvT hZ67 (hw _ (List.mem_of_getElem? (i := 80) rfl))) (mvT hZ67 (hw _ (List.mem_of_getElem? (i := 81) rfl))) (notFace_of_selects (args := #[]) (mvT hZ67 (hw _ (List.mem_of_getElem? (i := 83) rfl)))) (mvT hZ67 (hw _ (List.mem_of_getElem? (i := 83) rfl))) (mvT hZ67 (hw _ (List.mem_of_getElem? (i := 82) rfl))) (by decide) (backOf (W := 0) (rm10 l Z a0 hw [] a67 h67 n0 (Nat.le_trans Z0 E67.1)) hZ67 (hw _ (List.mem_of_getElem? (i := 84) rfl)) (hw _ (List.mem_of_getElem? (i := 2) rfl)) (by decide) (by decide)) q70a q70c (g := (mkF m 6 #[.val (.ref r0)] [.null, (.ref a67)])) rfl (by rw [hml]; rfl) (Steps.refl _) (argsL := [.null]) (rest := []) (lenOf pd__Ljava_lang_Object__Z_838 rfl) rfl (by show 2 * 0 + _ ≤ _; exact Nat.le_of_eq rfl) (hb hby d9_6) (fun _ _ => ⟨rfl, e69, (by decide : 2 + 0 ≤ _), (by decide : 12 + 0 ≤ _)⟩)
  dsimp only [Pt.U, Pt.locs, Pt.cells, Pt.slots] at X70 l70 y70 z70 st70 hQ70
  subst l70 y70 z70
  obtain ⟨rfl, N70q, e70q⟩ := hQ70
  have N70 := Fr.app N0 N70q
  refine own_trH st70 ?_
  have e70 : T70.heap = h67 := e70q
  show own_ComesH Z p e below s _ _ _ (T70.setTop (mkF m 9 #[.val (.ref r0)] [(.int (0 : Int32))]))
  have hb71 : (0 : Int32) = (0 : Int32) := by decide
  refine own_byH (fun _ kS => XS.ifNo X70.here hx rfl (hb hby d9_9) rfl ((if0 _ _).trans (teq hb71).2) kS) ?_
  show own_ComesH Z p e below s _ _ _ (T70.setTop (mkF m 12 #[.val (.ref r0)] []))
  refine own_byH (fun _ kS => XS.aloadN X70.here hx rfl (hb hby d9_12) rfl rfl kS) ?_
  show own_ComesH Z p e below s _ _ _ (T70.setTop (mkF m 13 #[.val (.ref r0)] [(.ref r0)]))
  obtain ⟨T72, X72, e72, st72⟩ := getF X70 hx hZ67 hown67 (host := "") (Or.inl (hw _ (List.mem_of_getElem? (i := 56) rfl))) Via.refl e70 (Fu.ext E67) (g := (mkF m 13 #[.val (.ref r0)] [(.ref r0)])) rfl rfl (hb hby d9_13)
  refine own_byH st72 ?_
  show own_ComesH Z p e below s _ _ _ (T72.setTop (mkF m 16 #[.val (.ref r0)] [.null]))
  refine own_byH (fun _ kS => XS.ifnullYes X72.here hx rfl (pc0 := 16) (pc' := 23) rfl (hb hby d9_16) rfl (by decide) (by decide) kS) ?_
  show own_ComesH Z p e below s _ _ _ (T72.setTop (mkF m 23 #[.val (.ref r0)] []))
  refine own_byH (fun _ kS => XS.iconst X72.here hx rfl (hb hby d9_23) kS) ?_
  show own_ComesH Z p e below s _ _ _ (T72.setTop (mkF m 24 #[.val (.ref r0)] [(.int (0 : Int32))]))
  have hkr73 := hk67
  have hcr73 := CH68.trans (CHv.at X72 hZ67 hEL CH68.1)
  refine own_retH X72 hS67 (by rw [e72]; exact hkr73) (by rw [hh]; rw [e72]; exact hcr73) (v := some (.int (0 : Int32))) (fun h => by rw [Bd.returns] at h; cases h) Bd.notSynchronized (by decide) (by decide) ?_ (fun fs hr => retN X72 hx (t := .boolean) Bd.returns (by simp) (hb hby d9_24) hr)
  rw [e72]; exact ⟨rfl, N70⟩
theorem ef_rm9nr (m : MethodId) (x0 : Addr) : entryFrame m #[(.ref x0)] 1 = mkF m 0 #[.val (.ref x0)] [] := by first | (simp [entryFrame, mkF, argsToLocals, Value.category]; done) | rfl
theorem d9_19 : decode prog_2_method_3_code 19 = .ok (.iconst 1, 1) := by decide +kernel
theorem d9_20 : decode prog_2_method_3_code 20 = .ok (.goto 4, 3) := by decide +kernel
set_option maxRecDepth 65536 in
set_option maxHeartbeats 40000000 in
theorem rm9nr (l : Launch) (Z : State) (a0 : Array Value) (hw : ∀ d ∈ tables_1, d.before a0 Z = true) (ws : List Jvm.Cond) (r0 : Addr) (uu : Addr) (zc : Int32) (h0 : Heap) (n0 : Nat) (Z0 : n0 ≤ h0.size) (O0 : Old Z n0 h0) (Fi : Fld Z h0 r0 "com/example/beija_flor/beijaflor/brcode/BrCode" "initiationMethod" "Ljava/lang/String;" .null) (Fu : Fld Z h0 r0 "com/example/beija_flor/beijaflor/brcode/BrCode" "url" "Ljava/lang/String;" (.ref uu)) (Sz : Sta Z Z.heap "java/lang/String" "COMPACT_STRINGS" "Z" (.int zc)) (hzc : ¬ zc = 0) :
    MetFree l (⟨"com/example/beija_flor/beijaflor/brcode/BrCode", "isDynamic", "()Z"⟩ : MethodName) (head1 (Jvm.Cond.code (⟨"com/example/beija_flor/beijaflor/brcode/BrCode", "isDynamic", "()Z"⟩ : MethodName) prog_2_method_3_code 1 (some .boolean) :: ws) ({ frames := 1, cells := 2, slots := 12, locals := 14 } : Room)) (fun aX UX => aX = #[(.ref r0)] ∧ Z.Warmed39 UX.vm ∧ UX.heap = h0 ∧ CHv Z own_EL UX.vm h0) (fun _ _ _ _ _ => True) (fun _ UX oX UX' => ∃ vX LX, oX = .returned vX ∧ Q9 Z (1 : Int32) h0 n0 vX UX'.heap LX ∧ CHr Z own_EL UX.vm UX.heap UX'.vm UX'.heap ∧ ReturnedEndW UX oX UX' LX ({ frames := 1, cells := 2, slots := 12, locals := 14 } : Room).cells ({ frames := 1, cells := 2, slots := 12, locals := 14 } : Room).slots) := by
  refine MetFree.of_bodySF (plainFor_of_name pn_com_example_beija_flor_beijaflor_brcode_BrCode) hisR ?_
  intro p e s m args below meth c s₁ Bd hml0 hP hK
  obtain ⟨rfl, hZ, hh, hCH0⟩ := hP
  have hx := Bd.exec
  have hby := Bd.bytes
  have hml : c.maxLocals = 1 := hml0
  have hown : s.vm.findClass "com/example/beija_flor/beijaflor/brcode/BrCode" = some m.cls := findClass_of_methodNamed Bd.named
  have hnm := (name_of_methodNamed Bd.named Bd.method).1
  have X0 : Stand p l e ({ frames := 1, cells := 2, slots := 12, locals := 14 } : Room) (s.setVm s.vm) m #[(.ref r0)] below meth c s₁ [] 0 0 := Stand.of_body Bd
  have hS : s.Since s.vm 0 := (State.WarmedH.refl s).since 0
  have hk : 0 ≤ h0.size := Nat.zero_le _
  have hZ : Z.Warmed39 (s.setVm s.vm).vm := hZ
  have hown : (s.setVm s.vm).vm.findClass "com/example/beija_flor/beijaflor/brcode/BrCode" = some m.cls := hown
  have hEL := own_EW hw
  have CH : CHr Z own_EL (s.setVm s.vm).vm h0 (s.setVm s.vm).vm h0 := CHr.refl hCH0
  have e0 : s₁.heap = h0 := by rw [← hh, Bd.state]; rfl
  have N0 := Fr.nil n0
  show own_ComesH Z p e below s ({ frames := 1, cells := 2, slots := 12, locals := 14 } : Room).cells ({ frames := 1, cells := 2, slots := 12, locals := 14 } : Room).slots (Q9 Z (1 : Int32) h0 n0) _
  rw [show entryFrame m #[(.ref r0)] 1 = mkF m 0 #[.val (.ref r0)] [] from ef_rm9nr m r0]
  show own_ComesH Z p e below s _ _ _ (s₁.setTop (mkF m 0 #[.val (.ref r0)] []))
  have wS : ∀ a ∈ Bundle.stringAtoms, a.before a0 Z = true := fun d hd => hw d ((by decide +kernel : ∀ d ∈ Bundle.stringAtoms, d ∈ tables_1) d hd)
  obtain ⟨a74, T74, h74, k74, b74, kb74, X74, e74, E74, hS74, hk74, hZ74, hown74, Ea74, Fc74, Fv74, Vb74, la74, lb74, CQ74, Li74, ne74, st74⟩ := ldcCH X0 hx hZ hown (hw _ (List.mem_of_getElem? (i := 79) rfl)) wS e0 hS hk hEL (List.mem_of_getElem? (i := 0) rfl) CH.1 (vs := [(.int (49 : Int32)), (.int (50 : Int32))]) (z := (2 : Int32)) ⟨by decide, rfl⟩ (by decide) rfl (g := (mkF m 0 #[.val (.ref r0)] [])) rfl (hb hby d9_0) (n := 8) (by decide) (by decide) (by decide) (by decide)
  refine own_byH st74 ?_
  have CR75 := CQ74
  have CH75 := CH.trans CR75
  show own_ComesH Z p e below s _ _ _ (T74.setTop (mkF m 2 #[.val (.ref r0)] [(.ref a74)]))
  refine own_byH (fun _ kS => XS.aloadN X74.here hx rfl (hb hby d9_2) rfl rfl kS) ?_
  show own_ComesH Z p e below s _ _ _ (T74.setTop (mkF m 3 #[.val (.ref r0)] [(.ref r0), (.ref a74)]))
  obtain ⟨T76, X76, e76, st76⟩ := getF X74 hx hZ74 hown74 (host := "") (Or.inl (hw _ (List.mem_of_getElem? (i := 50) rfl))) Via.refl e74 (Fi.ext E74) (g := (mkF m 3 #[.val (.ref r0)] [(.ref r0), (.ref a74)])) rfl rfl (hb hby d9_3)
  refine own_byH st76 ?_
  show own_ComesH Z p e below s _ _ _ (T76.setTop (mkF m 6 #[.val (.ref r0)] [.null, (.ref a74)]))
  obtain ⟨cq77, kq77, q77a, q77b, q77c⟩ := isOf hZ74 e76 Ea74
  obtain ⟨vv77, _, ⟨T77, L77, k77, n77⟩, -, X77, ⟨Lc77, hQ77, l77, y77, z77⟩, st77⟩ := X76.virtualBack hx (y := (⟨"java/lang/String", "equals", "(Ljava/lang/Object;)Z"⟩ : MethodName)) (z := (⟨"java/lang/String", "equals", "(Ljava/lang/Object;)Z"⟩ : MethodName)) hown74 (mvT hZ74 (hw _ (List.mem_of_getElem? (i := 80) rfl))) (mvT hZ74 (hw _ (List.mem_of_getElem? (i := 81) rfl))) (notFace_of_selects (args := #[]) (mvT hZ74 (hw _ (List.mem_of_getElem? (i := 83) rfl)))) (mvT hZ74 (hw _ (List.mem_of_getElem? (i := 83) rfl))) (mvT hZ74 (hw _ (List.mem_of_getElem? (i := 82) rfl))) (by decide) (backOf (W := 0) (rm10 l Z a0 hw [] a74 h74 n0 (Nat.le_trans Z0 E74.1)) hZ74 (hw _ (List.mem_of_getElem? (i := 84) rfl)) (hw _ (List.mem_of_getElem? (i := 2) rfl)) (by decide) (by decide)) q77a q77c (g := (mkF m 6 #[.val (.ref r0)] [.null, (.ref a74)])) rfl (by rw [hml]; rfl) (Steps.refl _) (argsL := [.null]) (rest := []) (lenOf pd__Ljava_lang_Object__Z_838 rfl) rfl (by show 2 * 0 + _ ≤ _; exact Nat.le_of_eq rfl) (hb hby d9_6) (fun _ _ => ⟨rfl, e76, (by decide : 2 + 0 ≤ _), (by decide : 12 + 0 ≤ _)⟩)
  dsimp only [Pt.U, Pt.locs, Pt.cells, Pt.slots] at X77 l77 y77 z77 st77 hQ77
  subst l77 y77 z77
  obtain ⟨rfl, N77q, e77q⟩ := hQ77
  have N77 := Fr.app N0 N77q
  refine own_trH st77 ?_
  have e77 : T77.heap = h74 := e77q
  show own_ComesH Z p e below s _ _ _ (T77.setTop (mkF m 9 #[.val (.ref r0)] [(.int (0 : Int32))]))
  have hb78 : (0 : Int32) = (0 : Int32) := by decide
  refine own_byH (fun _ kS => XS.ifNo X77.here hx rfl (hb hby d9_9) rfl ((if0 _ _).trans (teq hb78).2) kS) ?_
  show own_ComesH Z p e below s _ _ _ (T77.setTop (mkF m 12 #[.val (.ref r0)] []))
  refine own_byH (fun _ kS => XS.aloadN X77.here hx rfl (hb hby d9_12) rfl rfl kS) ?_
  show own_ComesH Z p e below s _ _ _ (T77.setTop (mkF m 13 #[.val (.ref r0)] [(.ref r0)]))
  obtain ⟨T79, X79, e79, st79⟩ := getF X77 hx hZ74 hown74 (host := "") (Or.inl (hw _ (List.mem_of_getElem? (i := 56) rfl))) Via.refl e77 (Fu.ext E74) (g := (mkF m 13 #[.val (.ref r0)] [(.ref r0)])) rfl rfl (hb hby d9_13)
  refine own_byH st79 ?_
  show own_ComesH Z p e below s _ _ _ (T79.setTop (mkF m 16 #[.val (.ref r0)] [(.ref uu)]))
  refine own_byH (fun _ kS => XS.ifnullNo X79.here hx rfl (hb hby d9_16) rfl kS) ?_
  show own_ComesH Z p e below s _ _ _ (T79.setTop (mkF m 19 #[.val (.ref r0)] []))
  refine own_byH (fun _ kS => XS.iconst X79.here hx rfl (hb hby d9_19) kS) ?_
  show own_ComesH Z p e below s _ _ _ (T79.setTop (mkF m 20 #[.val (.ref r0)] [(.int (1 : Int32))]))
  refine own_byH (fun _ kS => XS.goto X79.here hx rfl (pc0 := 20) (pc' := 24) rfl (hb hby d9_20) (by decide) (by decide) kS) ?_
  show own_ComesH Z p e below s _ _ _ (T79.setTop (mkF m 24 #[.val (.ref r0)] [(.int (1 : Int32))]))
  have hkr80 := hk74
  have hcr80 := CH75.trans (CHv.at X79 hZ74 hEL CH75.1)
  refine own_retH X79 hS74 (by rw [e79]; exact hkr80) (by rw [hh]; rw [e79]; exact hcr80) (v := some (.int (1 : Int32))) (fun h => by rw [Bd.returns] at h; cases h) Bd.notSynchronized (by decide) (by decide) ?_ (fun fs hr => retN X79 hx (t := .boolean) Bd.returns (by simp) (hb hby d9_24) hr)
  rw [e79]; exact ⟨rfl, N77⟩
theorem ef_rm9yn (m : MethodId) (x0 : Addr) : entryFrame m #[(.ref x0)] 1 = mkF m 0 #[.val (.ref x0)] [] := by first | (simp [entryFrame, mkF, argsToLocals, Value.category]; done) | rfl
set_option maxRecDepth 65536 in
set_option maxHeartbeats 40000000 in
theorem rm9yn (l : Launch) (Z : State) (a0 : Array Value) (hw : ∀ d ∈ tables_1, d.before a0 Z = true) (ws : List Jvm.Cond) (r0 : Addr) (xx : Addr) (cs : List Int32) (zc : Int32) (h0 : Heap) (n0 : Nat) (Z0 : n0 ≤ h0.size) (O0 : Old Z n0 h0) (Fi : Fld Z h0 r0 "com/example/beija_flor/beijaflor/brcode/BrCode" "initiationMethod" "Ljava/lang/String;" (.ref xx)) (Fu : Fld Z h0 r0 "com/example/beija_flor/beijaflor/brcode/BrCode" "url" "Ljava/lang/String;" .null) (Sz : Sta Z Z.heap "java/lang/String" "COMPACT_STRINGS" "Z" (.int zc)) (hzc : ¬ zc = 0) (hY : own_Str Z h0 xx cs) (hk2 : cs = [(49 : Int32), 50]) :
    MetFree l (⟨"com/example/beija_flor/beijaflor/brcode/BrCode", "isDynamic", "()Z"⟩ : MethodName) (head1 (Jvm.Cond.code (⟨"com/example/beija_flor/beijaflor/brcode/BrCode", "isDynamic", "()Z"⟩ : MethodName) prog_2_method_3_code 1 (some .boolean) :: ws) ({ frames := 2, cells := 2, slots := 12, locals := 28 } : Room)) (fun aX UX => aX = #[(.ref r0)] ∧ Z.Warmed39 UX.vm ∧ UX.heap = h0 ∧ CHv Z own_EL UX.vm h0) (fun _ _ _ _ _ => True) (fun _ UX oX UX' => ∃ vX LX, oX = .returned vX ∧ Q9 Z (1 : Int32) h0 n0 vX UX'.heap LX ∧ CHr Z own_EL UX.vm UX.heap UX'.vm UX'.heap ∧ ReturnedEndW UX oX UX' LX ({ frames := 2, cells := 2, slots := 12, locals := 28 } : Room).cells ({ frames := 2, cells := 2, slots := 12, locals := 28 } : Room).slots) := by
  refine MetFree.of_bodySF (plainFor_of_name pn_com_example_beija_flor_beijaflor_brcode_BrCode) hisR ?_
  intro p e s m args below meth c s₁ Bd hml0 hP hK
  obtain ⟨rfl, hZ, hh, hCH0⟩ := hP
  have hx := Bd.exec
  have hby := Bd.bytes
  have hml : c.maxLocals = 1 := hml0
  have hown : s.vm.findClass "com/example/beija_flor/beijaflor/brcode/BrCode" = some m.cls := findClass_of_methodNamed Bd.named
  have hnm := (name_of_methodNamed Bd.named Bd.method).1
  have X0 : Stand p l e ({ frames := 2, cells := 2, slots := 12, locals := 28 } : Room) (s.setVm s.vm) m #[(.ref r0)] below meth c s₁ [] 0 0 := Stand.of_body Bd
  have hS : s.Since s.vm 0 := (State.WarmedH.refl s).since 0
  have hk : 0 ≤ h0.size := Nat.zero_le _
  have hZ : Z.Warmed39 (s.setVm s.vm).vm := hZ
  have hown : (s.setVm s.vm).vm.findClass "com/example/beija_flor/beijaflor/brcode/BrCode" = some m.cls := hown
  have hEL := own_EW hw
  have CH : CHr Z own_EL (s.setVm s.vm).vm h0 (s.setVm s.vm).vm h0 := CHr.refl hCH0
  have e0 : s₁.heap = h0 := by rw [← hh, Bd.state]; rfl
  have N0 := Fr.nil n0
  show own_ComesH Z p e below s ({ frames := 2, cells := 2, slots := 12, locals := 28 } : Room).cells ({ frames := 2, cells := 2, slots := 12, locals := 28 } : Room).slots (Q9 Z (1 : Int32) h0 n0) _
  rw [show entryFrame m #[(.ref r0)] 1 = mkF m 0 #[.val (.ref r0)] [] from ef_rm9yn m r0]
  show own_ComesH Z p e below s _ _ _ (s₁.setTop (mkF m 0 #[.val (.ref r0)] []))
  obtain ⟨Er, tr, kr, Nr, vr, Vr, Cr, Ar, Hr, Br, Lr⟩ := hY
  have wS : ∀ a ∈ Bundle.stringAtoms, a.before a0 Z = true := fun d hd => hw d ((by decide +kernel : ∀ d ∈ Bundle.stringAtoms, d ∈ tables_1) d hd)
  obtain ⟨a81, T81, h81, k81, b81, kb81, X81, e81, E81, hS81, hk81, hZ81, hown81, Ea81, Fc81, Fv81, Vb81, la81, lb81, CQ81, Li81, ne81, st81⟩ := ldcCH X0 hx hZ hown (hw _ (List.mem_of_getElem? (i := 79) rfl)) wS e0 hS hk hEL (List.mem_of_getElem? (i := 0) rfl) CH.1 (vs := [(.int (49 : Int32)), (.int (50 : Int32))]) (z := (2 : Int32)) ⟨by decide, rfl⟩ (by decide) rfl (g := (mkF m 0 #[.val (.ref r0)] [])) rfl (hb hby d9_0) (n := 8) (by decide) (by decide) (by decide) (by decide)
  refine own_byH st81 ?_
  have CR82 := CQ81
  have CH82 := CH.trans CR82
  show own_ComesH Z p e below s _ _ _ (T81.setTop (mkF m 2 #[.val (.ref r0)] [(.ref a81)]))
  refine own_byH (fun _ kS => XS.aloadN X81.here hx rfl (hb hby d9_2) rfl rfl kS) ?_
  show own_ComesH Z p e below s _ _ _ (T81.setTop (mkF m 3 #[.val (.ref r0)] [(.ref r0), (.ref a81)]))
  obtain ⟨T83, X83, e83, st83⟩ := getF X81 hx hZ81 hown81 (host := "") (Or.inl (hw _ (List.mem_of_getElem? (i := 50) rfl))) Via.refl e81 (Fi.ext E81) (g := (mkF m 3 #[.val (.ref r0)] [(.ref r0), (.ref a81)])) rfl rfl (hb hby d9_3)
  refine own_byH st83 ?_
  show own_ComesH Z p e below s _ _ _ (T83.setTop (mkF m 6 #[.val (.ref r0)] [(.ref xx), (.ref a81)]))
  have hws : ∀ d ∈ StrChars.Road.wordsEq, d.before a0 Z = true := fun d hd => hw d ((by decide +kernel : ∀ d ∈ StrChars.Road.wordsEq, d ∈ tables_1) d hd)
  obtain ⟨cq84, kq84, q84a, q84b, q84c⟩ := isOf hZ81 e83 Ea81
  obtain ⟨vv84, _, ⟨T84, L84, k84, n84⟩, -, X84, ⟨Lc84, hQ84, l84, y84, z84⟩, st84⟩ := X83.virtualBack hx (y := (⟨"java/lang/String", "equals", "(Ljava/lang/Object;)Z"⟩ : MethodName)) (z := (⟨"java/lang/String", "equals", "(Ljava/lang/Object;)Z"⟩ : MethodName)) hown81 (mvT hZ81 (hw _ (List.mem_of_getElem? (i := 80) rfl))) (mvT hZ81 (hw _ (List.mem_of_getElem? (i := 81) rfl))) (notFace_of_selects (args := #[]) (mvT hZ81 (hw _ (List.mem_of_getElem? (i := 83) rfl)))) (mvT hZ81 (hw _ (List.mem_of_getElem? (i := 83) rfl))) (mvT hZ81 (hw _ (List.mem_of_getElem? (i := 82) rfl))) (by decide) (StrChars.Road.eqW (W := 0) hZ81 hws (kI := 4) (hw _ (List.mem_of_getElem? (i := 1) rfl)) (cs := [49, 50]) (ds := cs) Ea81 Fv81 Fc81 Vb81 (Or.inl ⟨rfl, rfl, rfl, by decide⟩) (by decide) (by decide) (Er.ext E81) (Vr.ext E81) (Cr.ext E81) (Ar.ext E81) Hr Br Lr (Sz.ext (O0.ext E81).2) hzc (by decide) (by decide)) q84a q84c (g := (mkF m 6 #[.val (.ref r0)] [(.ref xx), (.ref a81)])) rfl (by rw [hml]; rfl) (Steps.refl _) (argsL := [(.ref xx)]) (rest := []) (lenOf pd__Ljava_lang_Object__Z_838 rfl) rfl (by show 2 * 0 + _ ≤ _; exact Nat.le_of_eq rfl) (hb hby d9_6) (fun _ _ => ⟨rfl, e83, (by decide : 2 + 0 ≤ _), (by decide : 12 + 0 ≤ _)⟩)
  dsimp only [Pt.U, Pt.locs, Pt.cells, Pt.slots] at X84 l84 y84 z84 st84 hQ84
  subst l84 y84 z84
  obtain ⟨hv84, rfl, e84q⟩ := hQ84
  have N84q := Fr.nil n0
  have N84 := Fr.app N0 N84q
  refine own_trH st84 ?_
  have e84 : T84.heap = h81 := e84q
  rcases hv84 with ⟨rfl, hq⟩ | ⟨rfl, hq⟩
  · show own_ComesH Z p e below s _ _ _ (T84.setTop (mkF m 9 #[.val (.ref r0)] [(.int (1 : Int32))]))
    have hb85 : ¬ ((1 : Int32) = (0 : Int32)) := by decide
    refine own_byH (fun _ kS => XS.ifYes X84.here hx rfl (pc0 := 9) (pc' := 19) rfl (hb hby d9_9) rfl ((if0 _ _).trans (feq hb85).2) (by decide) (by decide) kS) ?_
    show own_ComesH Z p e below s _ _ _ (T84.setTop (mkF m 19 #[.val (.ref r0)] []))
    refine own_byH (fun _ kS => XS.iconst X84.here hx rfl (hb hby d9_19) kS) ?_
    show own_ComesH Z p e below s _ _ _ (T84.setTop (mkF m 20 #[.val (.ref r0)] [(.int (1 : Int32))]))
    refine own_byH (fun _ kS => XS.goto X84.here hx rfl (pc0 := 20) (pc' := 24) rfl (hb hby d9_20) (by decide) (by decide) kS) ?_
    show own_ComesH Z p e below s _ _ _ (T84.setTop (mkF m 24 #[.val (.ref r0)] [(.int (1 : Int32))]))
    have hkr86 := hk81
    have hcr86 := CH82.trans (CHv.at X84 hZ81 hEL CH82.1)
    refine own_retH X84 hS81 (by rw [e84]; exact hkr86) (by rw [hh]; rw [e84]; exact hcr86) (v := some (.int (1 : Int32))) (fun h => by rw [Bd.returns] at h; cases h) Bd.notSynchronized (by decide) (by decide) ?_ (fun fs hr => retN X84 hx (t := .boolean) Bd.returns (by simp) (hb hby d9_24) hr)
    rw [e84]; exact ⟨rfl, N84⟩
  · exact absurd hk2.symm hq
theorem ef_rm9yr (m : MethodId) (x0 : Addr) : entryFrame m #[(.ref x0)] 1 = mkF m 0 #[.val (.ref x0)] [] := by first | (simp [entryFrame, mkF, argsToLocals, Value.category]; done) | rfl
set_option maxRecDepth 65536 in
set_option maxHeartbeats 40000000 in
theorem rm9yr (l : Launch) (Z : State) (a0 : Array Value) (hw : ∀ d ∈ tables_1, d.before a0 Z = true) (ws : List Jvm.Cond) (r0 : Addr) (xx : Addr) (cs : List Int32) (uu : Addr) (zc : Int32) (h0 : Heap) (n0 : Nat) (Z0 : n0 ≤ h0.size) (O0 : Old Z n0 h0) (Fi : Fld Z h0 r0 "com/example/beija_flor/beijaflor/brcode/BrCode" "initiationMethod" "Ljava/lang/String;" (.ref xx)) (Fu : Fld Z h0 r0 "com/example/beija_flor/beijaflor/brcode/BrCode" "url" "Ljava/lang/String;" (.ref uu)) (Sz : Sta Z Z.heap "java/lang/String" "COMPACT_STRINGS" "Z" (.int zc)) (hzc : ¬ zc = 0) (hY : own_Str Z h0 xx cs) (hk2 : cs = [(49 : Int32), 50]) :
    MetFree l (⟨"com/example/beija_flor/beijaflor/brcode/BrCode", "isDynamic", "()Z"⟩ : MethodName) (head1 (Jvm.Cond.code (⟨"com/example/beija_flor/beijaflor/brcode/BrCode", "isDynamic", "()Z"⟩ : MethodName) prog_2_method_3_code 1 (some .boolean) :: ws) ({ frames := 2, cells := 2, slots := 12, locals := 28 } : Room)) (fun aX UX => aX = #[(.ref r0)] ∧ Z.Warmed39 UX.vm ∧ UX.heap = h0 ∧ CHv Z own_EL UX.vm h0) (fun _ _ _ _ _ => True) (fun _ UX oX UX' => ∃ vX LX, oX = .returned vX ∧ Q9 Z (1 : Int32) h0 n0 vX UX'.heap LX ∧ CHr Z own_EL UX.vm UX.heap UX'.vm UX'.heap ∧ ReturnedEndW UX oX UX' LX ({ frames := 2, cells := 2, slots := 12, locals := 28 } : Room).cells ({ frames := 2, cells := 2, slots := 12, locals := 28 } : Room).slots) := by
  refine MetFree.of_bodySF (plainFor_of_name pn_com_example_beija_flor_beijaflor_brcode_BrCode) hisR ?_
  intro p e s m args below meth c s₁ Bd hml0 hP hK
  obtain ⟨rfl, hZ, hh, hCH0⟩ := hP
  have hx := Bd.exec
  have hby := Bd.bytes
  have hml : c.maxLocals = 1 := hml0
  have hown : s.vm.findClass "com/example/beija_flor/beijaflor/brcode/BrCode" = some m.cls := findClass_of_methodNamed Bd.named
  have hnm := (name_of_methodNamed Bd.named Bd.method).1
  have X0 : Stand p l e ({ frames := 2, cells := 2, slots := 12, locals := 28 } : Room) (s.setVm s.vm) m #[(.ref r0)] below meth c s₁ [] 0 0 := Stand.of_body Bd
  have hS : s.Since s.vm 0 := (State.WarmedH.refl s).since 0
  have hk : 0 ≤ h0.size := Nat.zero_le _
  have hZ : Z.Warmed39 (s.setVm s.vm).vm := hZ
  have hown : (s.setVm s.vm).vm.findClass "com/example/beija_flor/beijaflor/brcode/BrCode" = some m.cls := hown
  have hEL := own_EW hw
  have CH : CHr Z own_EL (s.setVm s.vm).vm h0 (s.setVm s.vm).vm h0 := CHr.refl hCH0
  have e0 : s₁.heap = h0 := by rw [← hh, Bd.state]; rfl
  have N0 := Fr.nil n0
  show own_ComesH Z p e below s ({ frames := 2, cells := 2, slots := 12, locals := 28 } : Room).cells ({ frames := 2, cells := 2, slots := 12, locals := 28 } : Room).slots (Q9 Z (1 : Int32) h0 n0) _
  rw [show entryFrame m #[(.ref r0)] 1 = mkF m 0 #[.val (.ref r0)] [] from ef_rm9yr m r0]
  show own_ComesH Z p e below s _ _ _ (s₁.setTop (mkF m 0 #[.val (.ref r0)] []))
  obtain ⟨Er, tr, kr, Nr, vr, Vr, Cr, Ar, Hr, Br, Lr⟩ := hY
  have wS : ∀ a ∈ Bundle.stringAtoms, a.before a0 Z = true := fun d hd => hw d ((by decide +kernel : ∀ d ∈ Bundle.stringAtoms, d ∈ tables_1) d hd)
  obtain ⟨a87, T87, h87, k87, b87, kb87, X87, e87, E87, hS87, hk87, hZ87, hown87, Ea87, Fc87, Fv87, Vb87, la87, lb87, CQ87, Li87, ne87, st87⟩ := ldcCH X0 hx hZ hown (hw _ (List.mem_of_getElem? (i := 79) rfl)) wS e0 hS hk hEL (List.mem_of_getElem? (i := 0) rfl) CH.1 (vs := [(.int (49 : Int32)), (.int (50 : Int32))]) (z := (2 : Int32)) ⟨by decide, rfl⟩ (by decide) rfl (g := (mkF m 0 #[.val (.ref r0)] [])) rfl (hb hby d9_0) (n := 8) (by decide) (by decide) (by decide) (by decide)
  refine own_byH st87 ?_
  have CR88 := CQ87
  have CH88 := CH.trans CR88
  show own_ComesH Z p e below s _ _ _ (T87.setTop (mkF m 2 #[.val (.ref r0)] [(.ref a87)]))
  refine own_byH (fun _ kS => XS.aloadN X87.here hx rfl (hb hby d9_2) rfl rfl kS) ?_
  show own_ComesH Z p e below s _ _ _ (T87.setTop (mkF m 3 #[.val (.ref r0)] [(.ref r0), (.ref a87)]))
  obtain ⟨T89, X89, e89, st89⟩ := getF X87 hx hZ87 hown87 (host := "") (Or.inl (hw _ (List.mem_of_getElem? (i := 50) rfl))) Via.refl e87 (Fi.ext E87) (g := (mkF m 3 #[.val (.ref r0)] [(.ref r0), (.ref a87)])) rfl rfl (hb hby d9_3)
  refine own_byH st89 ?_
  show own_ComesH Z p e below s _ _ _ (T89.setTop (mkF m 6 #[.val (.ref r0)] [(.ref xx), (.ref a87)]))
  have hws : ∀ d ∈ StrChars.Road.wordsEq, d.before a0 Z = true := fun d hd => hw d ((by decide +kernel : ∀ d ∈ StrChars.Road.wordsEq, d ∈ tables_1) d hd)
  obtain ⟨cq90, kq90, q90a, q90b, q90c⟩ := isOf hZ87 e89 Ea87
  obtain ⟨vv90, _, ⟨T90, L90, k90, n90⟩, -, X90, ⟨Lc90, hQ90, l90, y90, z90⟩, st90⟩ := X89.virtualBack hx (y := (⟨"java/lang/String", "equals", "(Ljava/lang/Object;)Z"⟩ : MethodName)) (z := (⟨"java/lang/String", "equals", "(Ljava/lang/Object;)Z"⟩ : MethodName)) hown87 (mvT hZ87 (hw _ (List.mem_of_getElem? (i := 80) rfl))) (mvT hZ87 (hw _ (List.mem_of_getElem? (i := 81) rfl))) (notFace_of_selects (args := #[]) (mvT hZ87 (hw _ (List.mem_of_getElem? (i := 83) rfl)))) (mvT hZ87 (hw _ (List.mem_of_getElem? (i := 83) rfl))) (mvT hZ87 (hw _ (List.mem_of_getElem? (i := 82) rfl))) (by decide) (StrChars.Road.eqW (W := 0) hZ87 hws (kI := 4) (hw _ (List.mem_of_getElem? (i := 1) rfl)) (cs := [49, 50]) (ds := cs) Ea87 Fv87 Fc87 Vb87 (Or.inl ⟨rfl, rfl, rfl, by decide⟩) (by decide) (by decide) (Er.ext E87) (Vr.ext E87) (Cr.ext E87) (Ar.ext E87) Hr Br Lr (Sz.ext (O0.ext E87).2) hzc (by decide) (by decide)) q90a q90c (g := (mkF m 6 #[.val (.ref r0)] [(.ref xx), (.ref a87)])) rfl (by rw [hml]; rfl) (Steps.refl _) (argsL := [(.ref xx)]) (rest := []) (lenOf pd__Ljava_lang_Object__Z_838 rfl) rfl (by show 2 * 0 + _ ≤ _; exact Nat.le_of_eq rfl) (hb hby d9_6) (fun _ _ => ⟨rfl, e89, (by decide : 2 + 0 ≤ _), (by decide : 12 + 0 ≤ _)⟩)
  dsimp only [Pt.U, Pt.locs, Pt.cells, Pt.slots] at X90 l90 y90 z90 st90 hQ90
  subst l90 y90 z90
  obtain ⟨hv90, rfl, e90q⟩ := hQ90
  have N90q := Fr.nil n0
  have N90 := Fr.app N0 N90q
  refine own_trH st90 ?_
  have e90 : T90.heap = h87 := e90q
  rcases hv90 with ⟨rfl, hq⟩ | ⟨rfl, hq⟩
  · show own_ComesH Z p e below s _ _ _ (T90.setTop (mkF m 9 #[.val (.ref r0)] [(.int (1 : Int32))]))
    have hb91 : ¬ ((1 : Int32) = (0 : Int32)) := by decide
    refine own_byH (fun _ kS => XS.ifYes X90.here hx rfl (pc0 := 9) (pc' := 19) rfl (hb hby d9_9) rfl ((if0 _ _).trans (feq hb91).2) (by decide) (by decide) kS) ?_
    show own_ComesH Z p e below s _ _ _ (T90.setTop (mkF m 19 #[.val (.ref r0)] []))
    refine own_byH (fun _ kS => XS.iconst X90.here hx rfl (hb hby d9_19) kS) ?_
    show own_ComesH Z p e below s _ _ _ (T90.setTop (mkF m 20 #[.val (.ref r0)] [(.int (1 : Int32))]))
    refine own_byH (fun _ kS => XS.goto X90.here hx rfl (pc0 := 20) (pc' := 24) rfl (hb hby d9_20) (by decide) (by decide) kS) ?_
    show own_ComesH Z p e below s _ _ _ (T90.setTop (mkF m 24 #[.val (.ref r0)] [(.int (1 : Int32))]))
    have hkr92 := hk87
    have hcr92 := CH88.trans (CHv.at X90 hZ87 hEL CH88.1)
    refine own_retH X90 hS87 (by rw [e90]; exact hkr92) (by rw [hh]; rw [e90]; exact hcr92) (v := some (.int (1 : Int32))) (fun h => by rw [Bd.returns] at h; cases h) Bd.notSynchronized (by decide) (by decide) ?_ (fun fs hr => retN X90 hx (t := .boolean) Bd.returns (by simp) (hb hby d9_24) hr)
    rw [e90]; exact ⟨rfl, N90⟩
  · exact absurd hk2.symm hq
theorem ef_rm9on (m : MethodId) (x0 : Addr) : entryFrame m #[(.ref x0)] 1 = mkF m 0 #[.val (.ref x0)] [] := by first | (simp [entryFrame, mkF, argsToLocals, Value.category]; done) | rfl
set_option maxRecDepth 65536 in
set_option maxHeartbeats 40000000 in
theorem rm9on (l : Launch) (Z : State) (a0 : Array Value) (hw : ∀ d ∈ tables_1, d.before a0 Z = true) (ws : List Jvm.Cond) (r0 : Addr) (xx : Addr) (cs : List Int32) (zc : Int32) (h0 : Heap) (n0 : Nat) (Z0 : n0 ≤ h0.size) (O0 : Old Z n0 h0) (Fi : Fld Z h0 r0 "com/example/beija_flor/beijaflor/brcode/BrCode" "initiationMethod" "Ljava/lang/String;" (.ref xx)) (Fu : Fld Z h0 r0 "com/example/beija_flor/beijaflor/brcode/BrCode" "url" "Ljava/lang/String;" .null) (Sz : Sta Z Z.heap "java/lang/String" "COMPACT_STRINGS" "Z" (.int zc)) (hzc : ¬ zc = 0) (hY : own_Str Z h0 xx cs) (hk2 : ¬ cs = [(49 : Int32), 50]) :
    MetFree l (⟨"com/example/beija_flor/beijaflor/brcode/BrCode", "isDynamic", "()Z"⟩ : MethodName) (head1 (Jvm.Cond.code (⟨"com/example/beija_flor/beijaflor/brcode/BrCode", "isDynamic", "()Z"⟩ : MethodName) prog_2_method_3_code 1 (some .boolean) :: ws) ({ frames := 2, cells := 2, slots := 12, locals := 28 } : Room)) (fun aX UX => aX = #[(.ref r0)] ∧ Z.Warmed39 UX.vm ∧ UX.heap = h0 ∧ CHv Z own_EL UX.vm h0) (fun _ _ _ _ _ => True) (fun _ UX oX UX' => ∃ vX LX, oX = .returned vX ∧ Q9 Z (0 : Int32) h0 n0 vX UX'.heap LX ∧ CHr Z own_EL UX.vm UX.heap UX'.vm UX'.heap ∧ ReturnedEndW UX oX UX' LX ({ frames := 2, cells := 2, slots := 12, locals := 28 } : Room).cells ({ frames := 2, cells := 2, slots := 12, locals := 28 } : Room).slots) := by
  refine MetFree.of_bodySF (plainFor_of_name pn_com_example_beija_flor_beijaflor_brcode_BrCode) hisR ?_
  intro p e s m args below meth c s₁ Bd hml0 hP hK
  obtain ⟨rfl, hZ, hh, hCH0⟩ := hP
  have hx := Bd.exec
  have hby := Bd.bytes
  have hml : c.maxLocals = 1 := hml0
  have hown : s.vm.findClass "com/example/beija_flor/beijaflor/brcode/BrCode" = some m.cls := findClass_of_methodNamed Bd.named
  have hnm := (name_of_methodNamed Bd.named Bd.method).1
  have X0 : Stand p l e ({ frames := 2, cells := 2, slots := 12, locals := 28 } : Room) (s.setVm s.vm) m #[(.ref r0)] below meth c s₁ [] 0 0 := Stand.of_body Bd
  have hS : s.Since s.vm 0 := (State.WarmedH.refl s).since 0
  have hk : 0 ≤ h0.size := Nat.zero_le _
  have hZ : Z.Warmed39 (s.setVm s.vm).vm := hZ
  have hown : (s.setVm s.vm).vm.findClass "com/example/beija_flor/beijaflor/brcode/BrCode" = some m.cls := hown
  have hEL := own_EW hw
  have CH : CHr Z own_EL (s.setVm s.vm).vm h0 (s.setVm s.vm).vm h0 := CHr.refl hCH0
  have e0 : s₁.heap = h0 := by rw [← hh, Bd.state]; rfl
  have N0 := Fr.nil n0
  show own_ComesH Z p e below s ({ frames := 2, cells := 2, slots := 12, locals := 28 } : Room).cells ({ frames := 2, cells := 2, slots := 12, locals := 28 } : Room).slots (Q9 Z (0 : Int32) h0 n0) _
  rw [show entryFrame m #[(.ref r0)] 1 = mkF m 0 #[.val (.ref r0)] [] from ef_rm9on m r0]
  show own_ComesH Z p e below s _ _ _ (s₁.setTop (mkF m 0 #[.val (.ref r0)] []))
  obtain ⟨Er, tr, kr, Nr, vr, Vr, Cr, Ar, Hr, Br, Lr⟩ := hY
  have wS : ∀ a ∈ Bundle.stringAtoms, a.before a0 Z = true := fun d hd => hw d ((by decide +kernel : ∀ d ∈ Bundle.stringAtoms, d ∈ tables_1) d hd)
  obtain ⟨a93, T93, h93, k93, b93, kb93, X93, e93, E93, hS93, hk93, hZ93, hown93, Ea93, Fc93, Fv93, Vb93, la93, lb93, CQ93, Li93, ne93, st93⟩ := ldcCH X0 hx hZ hown (hw _ (List.mem_of_getElem? (i := 79) rfl)) wS e0 hS hk hEL (List.mem_of_getElem? (i := 0) rfl) CH.1 (vs := [(.int (49 : Int32)), (.int (50 : Int32))]) (z := (2 : Int32)) ⟨by decide, rfl⟩ (by decide) rfl (g := (mkF m 0 #[.val (.ref r0)] [])) rfl (hb hby d9_0) (n := 8) (by decide) (by decide) (by decide) (by decide)
  refine own_byH st93 ?_
  have CR94 := CQ93
  have CH94 := CH.trans CR94
  show own_ComesH Z p e below s _ _ _ (T93.setTop (mkF m 2 #[.val (.ref r0)] [(.ref a93)]))
  refine own_byH (fun _ kS => XS.aloadN X93.here hx rfl (hb hby d9_2) rfl rfl kS) ?_
  show own_ComesH Z p e below s _ _ _ (T93.setTop (mkF m 3 #[.val (.ref r0)] [(.ref r0), (.ref a93)]))
  obtain ⟨T95, X95, e95, st95⟩ := getF X93 hx hZ93 hown93 (host := "") (Or.inl (hw _ (List.mem_of_getElem? (i := 50) rfl))) Via.refl e93 (Fi.ext E93) (g := (mkF m 3 #[.val (.ref r0)] [(.ref r0), (.ref a93)])) rfl rfl (hb hby d9_3)
  refine own_byH st95 ?_
  show own_ComesH Z p e below s _ _ _ (T95.setTop (mkF m 6 #[.val (.ref r0)] [(.ref xx), (.ref a93)]))
  have hws : ∀ d ∈ StrChars.Road.wordsEq, d.before a0 Z = true := fun d hd => hw d ((by decide +kernel : ∀ d ∈ StrChars.Road.wordsEq, d ∈ tables_1) d hd)
  obtain ⟨cq96, kq96, q96a, q96b, q96c⟩ := isOf hZ93 e95 Ea93
  obtain ⟨vv96, _, ⟨T96, L96, k96, n96⟩, -, X96, ⟨Lc96, hQ96, l96, y96, z96⟩, st96⟩ := X95.virtualBack hx (y := (⟨"java/lang/String", "equals", "(Ljava/lang/Object;)Z"⟩ : MethodName)) (z := (⟨"java/lang/String", "equals", "(Ljava/lang/Object;)Z"⟩ : MethodName)) hown93 (mvT hZ93 (hw _ (List.mem_of_getElem? (i := 80) rfl))) (mvT hZ93 (hw _ (List.mem_of_getElem? (i := 81) rfl))) (notFace_of_selects (args := #[]) (mvT hZ93 (hw _ (List.mem_of_getElem? (i := 83) rfl)))) (mvT hZ93 (hw _ (List.mem_of_getElem? (i := 83) rfl))) (mvT hZ93 (hw _ (List.mem_of_getElem? (i := 82) rfl))) (by decide) (StrChars.Road.eqW (W := 0) hZ93 hws (kI := 4) (hw _ (List.mem_of_getElem? (i := 1) rfl)) (cs := [49, 50]) (ds := cs) Ea93 Fv93 Fc93 Vb93 (Or.inl ⟨rfl, rfl, rfl, by decide⟩) (by decide) (by decide) (Er.ext E93) (Vr.ext E93) (Cr.ext E93) (Ar.ext E93) Hr Br Lr (Sz.ext (O0.ext E93).2) hzc (by decide) (by decide)) q96a q96c (g := (mkF m 6 #[.val (.ref r0)] [(.ref xx), (.ref a93)])) rfl (by rw [hml]; rfl) (Steps.refl _) (argsL := [(.ref xx)]) (rest := []) (lenOf pd__Ljava_lang_Object__Z_838 rfl) rfl (by show 2 * 0 + _ ≤ _; exact Nat.le_of_eq rfl) (hb hby d9_6) (fun _ _ => ⟨rfl, e95, (by decide : 2 + 0 ≤ _), (by decide : 12 + 0 ≤ _)⟩)
  dsimp only [Pt.U, Pt.locs, Pt.cells, Pt.slots] at X96 l96 y96 z96 st96 hQ96
  subst l96 y96 z96
  obtain ⟨hv96, rfl, e96q⟩ := hQ96
  have N96q := Fr.nil n0
  have N96 := Fr.app N0 N96q
  refine own_trH st96 ?_
  have e96 : T96.heap = h93 := e96q
  rcases hv96 with ⟨rfl, hq⟩ | ⟨rfl, hq⟩
  · exact absurd hq.symm hk2
  · show own_ComesH Z p e below s _ _ _ (T96.setTop (mkF m 9 #[.val (.ref r0)] [(.int (0 : Int32))]))
    have hb97 : (0 : Int32) = (0 : Int32) := by decide
    refine own_byH (fun _ kS => XS.ifNo X96.here hx rfl (hb hby d9_9) rfl ((if0 _ _).trans (teq hb97).2) kS) ?_
    show own_ComesH Z p e below s _ _ _ (T96.setTop (mkF m 12 #[.val (.ref r0)] []))
    refine own_byH (fun _ kS => XS.aloadN X96.here hx rfl (hb hby d9_12) rfl rfl kS) ?_
    show own_ComesH Z p e below s _ _ _ (T96.setTop (mkF m 13 #[.val (.ref r0)] [(.ref r0)]))
    obtain ⟨T98, X98, e98, st98⟩ := getF X96 hx hZ93 hown93 (host := "") (Or.inl (hw _ (List.mem_of_getElem? (i := 56) rfl))) Via.refl e96 (Fu.ext E93) (g := (mkF m 13 #[.val (.ref r0)] [(.ref r0)])) rfl rfl (hb hby d9_13)
    refine own_byH st98 ?_
    show own_ComesH Z p e below s _ _ _ (T98.setTop (mkF m 16 #[.val (.ref r0)] [.null]))
    refine own_byH (fun _ kS => XS.ifnullYes X98.here hx rfl (pc0 := 16) (pc' := 23) rfl (hb hby d9_16) rfl (by decide) (by decide) kS) ?_
    show own_ComesH Z p e below s _ _ _ (T98.setTop (mkF m 23 #[.val (.ref r0)] []))
    refine own_byH (fun _ kS => XS.iconst X98.here hx rfl (hb hby d9_23) kS) ?_
    show own_ComesH Z p e below s _ _ _ (T98.setTop (mkF m 24 #[.val (.ref r0)] [(.int (0 : Int32))]))
    have hkr99 := hk93
    have hcr99 := CH94.trans (CHv.at X98 hZ93 hEL CH94.1)
    refine own_retH X98 hS93 (by rw [e98]; exact hkr99) (by rw [hh]; rw [e98]; exact hcr99) (v := some (.int (0 : Int32))) (fun h => by rw [Bd.returns] at h; cases h) Bd.notSynchronized (by decide) (by decide) ?_ (fun fs hr => retN X98 hx (t := .boolean) Bd.returns (by simp) (hb hby d9_24) hr)
    rw [e98]; exact ⟨rfl, N96⟩
theorem ef_rm9or (m : MethodId) (x0 : Addr) : entryFrame m #[(.ref x0)] 1 = mkF m 0 #[.val (.ref x0)] [] := by first | (simp [entryFrame, mkF, argsToLocals, Value.category]; done) | rfl
set_option maxRecDepth 65536 in
set_option maxHeartbeats 40000000 in
theorem rm9or (l : Launch) (Z : State) (a0 : Array Value) (hw : ∀ d ∈ tables_1, d.before a0 Z = true) (ws : List Jvm.Cond) (r0 : Addr) (xx : Addr) (cs : List Int32) (uu : Addr) (zc : Int32) (h0 : Heap) (n0 : Nat) (Z0 : n0 ≤ h0.size) (O0 : Old Z n0 h0) (Fi : Fld Z h0 r0 "com/example/beija_flor/beijaflor/brcode/BrCode" "initiationMethod" "Ljava/lang/String;" (.ref xx)) (Fu : Fld Z h0 r0 "com/example/beija_flor/beijaflor/brcode/BrCode" "url" "Ljava/lang/String;" (.ref uu)) (Sz : Sta Z Z.heap "java/lang/String" "COMPACT_STRINGS" "Z" (.int zc)) (hzc : ¬ zc = 0) (hY : own_Str Z h0 xx cs) (hk2 : ¬ cs = [(49 : Int32), 50]) :
    MetFree l (⟨"com/example/beija_flor/beijaflor/brcode/BrCode", "isDynamic", "()Z"⟩ : MethodName) (head1 (Jvm.Cond.code (⟨"com/example/beija_flor/beijaflor/brcode/BrCode", "isDynamic", "()Z"⟩ : MethodName) prog_2_method_3_code 1 (some .boolean) :: ws) ({ frames := 2, cells := 2, slots := 12, locals := 28 } : Room)) (fun aX UX => aX = #[(.ref r0)] ∧ Z.Warmed39 UX.vm ∧ UX.heap = h0 ∧ CHv Z own_EL UX.vm h0) (fun _ _ _ _ _ => True) (fun _ UX oX UX' => ∃ vX LX, oX = .returned vX ∧ Q9 Z (1 : Int32) h0 n0 vX UX'.heap LX ∧ CHr Z own_EL UX.vm UX.heap UX'.vm UX'.heap ∧ ReturnedEndW UX oX UX' LX ({ frames := 2, cells := 2, slots := 12, locals := 28 } : Room).cells ({ frames := 2, cells := 2, slots := 12, locals := 28 } : Room).slots) := by
  refine MetFree.of_bodySF (plainFor_of_name pn_com_example_beija_flor_beijaflor_brcode_BrCode) hisR ?_
  intro p e s m args below meth c s₁ Bd hml0 hP hK
  obtain ⟨rfl, hZ, hh, hCH0⟩ := hP
  have hx := Bd.exec
  have hby := Bd.bytes
  have hml : c.maxLocals = 1 := hml0
  have hown : s.vm.findClass "com/example/beija_flor/beijaflor/brcode/BrCode" = some m.cls := findClass_of_methodNamed Bd.named
  have hnm := (name_of_methodNamed Bd.named Bd.method).1
  have X0 : Stand p l e ({ frames := 2, cells := 2, slots := 12, locals := 28 } : Room) (s.setVm s.vm) m #[(.ref r0)] below meth c s₁ [] 0 0 := Stand.of_body Bd
  have hS : s.Since s.vm 0 := (State.WarmedH.refl s).since 0
  have hk : 0 ≤ h0.size := Nat.zero_le _
  have hZ : Z.Warmed39 (s.setVm s.vm).vm := hZ
  have hown : (s.setVm s.vm).vm.findClass "com/example/beija_flor/beijaflor/brcode/BrCode" = some m.cls := hown
  have hEL := own_EW hw
  have CH : CHr Z own_EL (s.setVm s.vm).vm h0 (s.setVm s.vm).vm h0 := CHr.refl hCH0
  have e0 : s₁.heap = h0 := by rw [← hh, Bd.state]; rfl
  have N0 := Fr.nil n0
  show own_ComesH Z p e below s ({ frames := 2, cells := 2, slots := 12, locals := 28 } : Room).cells ({ frames := 2, cells := 2, slots := 12, locals := 28 } : Room).slots (Q9 Z (1 : Int32) h0 n0) _
  rw [show entryFrame m #[(.ref r0)] 1 = mkF m 0 #[.val (.ref r0)] [] from ef_rm9or m r0]
  show own_ComesH Z p e below s _ _ _ (s₁.setTop (mkF m 0 #[.val (.ref r0)] []))
  obtain ⟨Er, tr, kr, Nr, vr, Vr, Cr, Ar, Hr, Br, Lr⟩ := hY
  have wS : ∀ a ∈ Bundle.stringAtoms, a.before a0 Z = true := fun d hd => hw d ((by decide +kernel : ∀ d ∈ Bundle.stringAtoms, d ∈ tables_1) d hd)
  obtain ⟨a100, T100, h100, k100, b100, kb100, X100, e100, E100, hS100, hk100, hZ100, hown100, Ea100, Fc100, Fv100, Vb100, la100, lb100, CQ100, Li100, ne100, st100⟩ := ldcCH X0 hx hZ hown (hw _ (List.mem_of_getElem? (i := 79) rfl)) wS e0 hS hk hEL (List.mem_of_getElem? (i := 0) rfl) CH.1 (vs := [(.int (49 : Int32)), (.int (50 : Int32))]) (z := (2 : Int32)) ⟨by decide, rfl⟩ (by decide) rfl (g := (mkF m 0 #[.val (.ref r0)] [])) rfl (hb hby d9_0) (n := 8) (by decide) (by decide) (by decide) (by decide)
  refine own_byH st100 ?_
  have CR101 := CQ100
  have CH101 := CH.trans CR101
  show own_ComesH Z p e below s _ _ _ (T100.setTop (mkF m 2 #[.val (.ref r0)] [(.ref a100)]))
  refine own_byH (fun _ kS => XS.aloadN X100.here hx rfl (hb hby d9_2) rfl rfl kS) ?_
  show own_ComesH Z p e below s _ _ _ (T100.setTop (mkF m 3 #[.val (.ref r0)] [(.ref r0), (.ref a100)]))
  obtain ⟨T102, X102, e102, st102⟩ := getF X100 hx hZ100 hown100 (host := "") (Or.inl (hw _ (List.mem_of_getElem? (i := 50) rfl))) Via.refl e100 (Fi.ext E100) (g := (mkF m 3 #[.val (.ref r0)] [(.ref r0), (.ref a100)])) rfl rfl (hb hby d9_3)
  refine own_byH st102 ?_
  show own_ComesH Z p e below s _ _ _ (T102.setTop (mkF m 6 #[.val (.ref r0)] [(.ref xx), (.ref a100)]))
  have hws : ∀ d ∈ StrChars.Road.wordsEq, d.before a0 Z = true := fun d hd => hw d ((by decide +kernel : ∀ d ∈ StrChars.Road.wordsEq, d ∈ tables_1) d hd)
  obtain ⟨cq103, kq103, q103a, q103b, q103c⟩ := isOf hZ100 e102 Ea100
  obtain ⟨vv103, _, ⟨T103, L103, k103, n103⟩, -, X103, ⟨Lc103, hQ103, l103, y103, z103⟩, st103⟩ := X102.virtualBack hx (y := (⟨"java/lang/String", "equals", "(Ljava/lang/Object;)Z"⟩ : MethodName)) (z := (⟨"java/lang/String", "equals", "(Ljava/lang/Object;)Z"⟩ : MethodName)) hown100 (mvT hZ100 (hw _ (List.mem_of_getElem? (i := 80) rfl))) (mvT hZ100 (hw _ (List.mem_of_getElem? (i := 81) rfl))) (notFace_of_selects (args := #[]) (mvT hZ100 (hw _ (List.mem_of_getElem? (i := 83) rfl)))) (mvT hZ100 (hw _ (List.mem_of_getElem? (i := 83) rfl))) (mvT hZ100 (hw _ (List.mem_of_getElem? (i := 82) rfl))) (by decide) (StrChars.Road.eqW (W := 0) hZ100 hws (kI := 4) (hw _ (List.mem_of_getElem? (i := 1) rfl)) (cs := [49, 50]) (ds := cs) Ea100 Fv100 Fc100 Vb100 (Or.inl ⟨rfl, rfl, rfl, by decide⟩) (by decide) (by decide) (Er.ext E100) (Vr.ext E100) (Cr.ext E100) (Ar.ext E100) Hr Br Lr (Sz.ext (O0.ext E100).2) hzc (by decide) (by decide)) q103a q103c (g := (mkF m 6 #[.val (.ref r0)] [(.ref xx), (.ref a100)])) rfl (by rw [hml]; rfl) (Steps.refl _) (argsL := [(.ref xx)]) (rest := []) (lenOf pd__Ljava_lang_Object__Z_838 rfl) rfl (by show 2 * 0 + _ ≤ _; exact Nat.le_of_eq rfl) (hb hby d9_6) (fun _ _ => ⟨rfl, e102, (by decide : 2 + 0 ≤ _), (by decide : 12 + 0 ≤ _)⟩)
  dsimp only [Pt.U, Pt.locs, Pt.cells, Pt.slots] at X103 l103 y103 z103 st103 hQ103
  subst l103 y103 z103
  obtain ⟨hv103, rfl, e103q⟩ := hQ103
  have N103q := Fr.nil n0
  have N103 := Fr.app N0 N103q
  refine own_trH st103 ?_
  have e103 : T103.heap = h100 := e103q
  rcases hv103 with ⟨rfl, hq⟩ | ⟨rfl, hq⟩
  · exact absurd hq.symm hk2
  · show own_ComesH Z p e below s _ _ _ (T103.setTop (mkF m 9 #[.val (.ref r0)] [(.int (0 : Int32))]))
    have hb104 : (0 : Int32) = (0 : Int32) := by decide
    refine own_byH (fun _ kS => XS.ifNo X103.here hx rfl (hb hby d9_9) rfl ((if0 _ _).trans (teq hb104).2) kS) ?_
    show own_ComesH Z p e below s _ _ _ (T103.setTop (mkF m 12 #[.val (.ref r0)] []))
    refine own_byH (fun _ kS => XS.aloadN X103.here hx rfl (hb hby d9_12) rfl rfl kS) ?_
    show own_ComesH Z p e below s _ _ _ (T103.setTop (mkF m 13 #[.val (.ref r0)] [(.ref r0)]))
    obtain ⟨T105, X105, e105, st105⟩ := getF X103 hx hZ100 hown100 (host := "") (Or.inl (hw _ (List.mem_of_getElem? (i := 56) rfl))) Via.refl e103 (Fu.ext E100) (g := (mkF m 13 #[.val (.ref r0)] [(.ref r0)])) rfl rfl (hb hby d9_13)
    refine own_byH st105 ?_
    show own_ComesH Z p e below s _ _ _ (T105.setTop (mkF m 16 #[.val (.ref r0)] [(.ref uu)]))
    refine own_byH (fun _ kS => XS.ifnullNo X105.here hx rfl (hb hby d9_16) rfl kS) ?_
    show own_ComesH Z p e below s _ _ _ (T105.setTop (mkF m 19 #[.val (.ref r0)] []))
    refine own_byH (fun _ kS => XS.iconst X105.here hx rfl (hb hby d9_19) kS) ?_
    show own_ComesH Z p e below s _ _ _ (T105.setTop (mkF m 20 #[.val (.ref r0)] [(.int (1 : Int32))]))
    refine own_byH (fun _ kS => XS.goto X105.here hx rfl (pc0 := 20) (pc' := 24) rfl (hb hby d9_20) (by decide) (by decide) kS) ?_
    show own_ComesH Z p e below s _ _ _ (T105.setTop (mkF m 24 #[.val (.ref r0)] [(.int (1 : Int32))]))
    have hkr106 := hk100
    have hcr106 := CH101.trans (CHv.at X105 hZ100 hEL CH101.1)
    refine own_retH X105 hS100 (by rw [e105]; exact hkr106) (by rw [hh]; rw [e105]; exact hcr106) (v := some (.int (1 : Int32))) (fun h => by rw [Bd.returns] at h; cases h) Bd.notSynchronized (by decide) (by decide) ?_ (fun fs hr => retN X105 hx (t := .boolean) Bd.returns (by simp) (hb hby d9_24) hr)
    rw [e105]; exact ⟨rfl, N103⟩
def Q0 (Z : State) (h0 : Heap) (n0 : Nat) (v : Option Value) (h : Heap) (L : List Loc) : Prop := v = some (.int (1 : Int32)) ∧ Fr n0 L
theorem ef_rm0 (m : MethodId) (x0 : Int32) (x1 : Int32) (x2 : Int32) (x3 : Int32) : entryFrame m #[(.int x0), (.int x1), (.int x2), (.int x3)] maxLocals = mkF m 0 #[.val (.int x0), .val (.int x1), .val (.int x2), .val (.int x3), .unset, .unset, .unset, .unset, .unset, .unset, .unset, .unset, .unset, .unset, .unset, .unset, .unset] [] := by first | (simp [entryFrame, mkF, argsToLocals, Value.category, maxLocals]; done) | rfl
theorem pn_com_example_beija_flor_beijaflor_brcode_BrCodeIsDynamicPinLaw : plainName "com/example/beija_flor/beijaflor/brcode/BrCodeIsDynamicPinLaw" = true := by first | (simp [plainName, overriddenIn]; done) | decide +kernel
theorem pd__Ljava_lang_String_Ljava_lang_String_Ljava_lang_String_Ljava_lang_String_Ljava_lang_String_Ljava_lang_String_Ljava_lang_String_Ljava_lang_String_Ljava_lang_String_Ljava_lang_String_Ljava_lang_String_Ljava_lang_String__V_579 : parseMethodDescriptor "(Ljava/lang/String;Ljava/lang/String;Ljava/lang/String;Ljava/lang/String;Ljava/lang/String;Ljava/lang/String;Ljava/lang/String;Ljava/lang/String;Ljava/lang/String;Ljava/lang/String;Ljava/lang/String;Ljava/lang/String;)V" = some ⟨[(.object "java/lang/String"), (.object "java/lang/String"), (.object "java/lang/String"), (.object "java/lang/String"), (.object "java/lang/String"), (.object "java/lang/String"), (.object "java/lang/String"), (.object "java/lang/String"), (.object "java/lang/String"), (.object "java/lang/String"), (.object "java/lang/String"), (.object "java/lang/String")], none⟩ := by decide +kernel
theorem pd___Z_171 : parseMethodDescriptor "()Z" = some ⟨[], some .boolean⟩ := by decide +kernel
theorem pd__C_Ljava_lang_String__847 : parseMethodDescriptor "(C)Ljava/lang/String;" = some ⟨[.char], some (.object "java/lang/String")⟩ := by decide +kernel
theorem pd___C_V_325 : parseMethodDescriptor "([C)V" = some ⟨[(.array .char)], none⟩ := by decide +kernel
set_option maxRecDepth 65536 in
set_option maxHeartbeats 40000000 in
theorem rm0 (l : Launch) (Z : State) (a0 : Array Value) (hw : ∀ d ∈ tables_1, d.before a0 Z = true) (ws : List Jvm.Cond) (p0 p1 p2 p3 zc : Int32) (h0 : Heap) (n0 : Nat) (Z0 : n0 ≤ h0.size) (O0 : Old Z n0 h0) (Sz : Sta Z Z.heap "java/lang/String" "COMPACT_STRINGS" "Z" (.int zc)) (hzc : ¬ zc = 0) :
    MetFree l x (head1 (Jvm.Cond.code x code maxLocals ret :: ws) room_1) (fun aX UX => aX = #[(.int p0), (.int p1), (.int p2), (.int p3)] ∧ Z.Warmed39 UX.vm ∧ UX.heap = h0 ∧ CHv Z own_EL UX.vm h0) (fun _ _ _ _ _ => True) (fun _ UX oX UX' => ∃ vX LX, oX = .returned vX ∧ Q0 Z  h0 n0 vX UX'.heap LX ∧ CHr Z own_EL UX.vm UX.heap UX'.vm UX'.heap ∧ ReturnedEndW UX oX UX' LX room_1.cells room_1.slots) := by
  refine MetFree.of_bodySF (plainFor_of_name pn_com_example_beija_flor_beijaflor_brcode_BrCodeIsDynamicPinLaw) hisR ?_
  intro p e s m args below meth c s₁ Bd hml0 hP hK
  obtain ⟨rfl, hZ, hh, hCH0⟩ := hP
  have hx := Bd.exec
  have hby := Bd.bytes
  have hml : c.maxLocals = 17 := hml0
  have hown : s.vm.findClass "com/example/beija_flor/beijaflor/brcode/BrCodeIsDynamicPinLaw" = some m.cls := findClass_of_methodNamed Bd.named
  have hnm := (name_of_methodNamed Bd.named Bd.method).1
  have X0 : Stand p l e room_1 (s.setVm s.vm) m #[(.int p0), (.int p1), (.int p2), (.int p3)] below meth c s₁ [] 0 0 := Stand.of_body Bd
  have hS : s.Since s.vm 0 := (State.WarmedH.refl s).since 0
  have hk : 0 ≤ h0.size := Nat.zero_le _
  have hZ : Z.Warmed39 (s.setVm s.vm).vm := hZ
  have hown : (s.setVm s.vm).vm.findClass "com/example/beija_flor/beijaflor/brcode/BrCodeIsDynamicPinLaw" = some m.cls := hown
  have hEL := own_EW hw
  have CH : CHr Z own_EL (s.setVm s.vm).vm h0 (s.setVm s.vm).vm h0 := CHr.refl hCH0
  have e0 : s₁.heap = h0 := by rw [← hh, Bd.state]; rfl
  have N0 := Fr.nil n0
  show own_ComesH Z p e below s room_1.cells room_1.slots (Q0 Z  h0 n0) _
  rw [show entryFrame m #[(.int p0), (.int p1), (.int p2), (.int p3)] maxLocals = mkF m 0 #[.val (.int p0), .val (.int p1), .val (.int p2), .val (.int p3), .unset, .unset, .unset, .unset, .unset, .unset, .unset, .unset, .unset, .unset, .unset, .unset, .unset] [] from ef_rm0 m p0 p1 p2 p3]
  show own_ComesH Z p e below s _ _ _ (s₁.setTop (mkF m 0 #[.val (.int p0), .val (.int p1), .val (.int p2), .val (.int p3), .unset, .unset, .unset, .unset, .unset, .unset, .unset, .unset, .unset, .unset, .unset, .unset, .unset] []))
  have hX : ¬ ((p1 &&& (255 : Int32)).toUInt32.toUInt16.toUInt32.toInt32) < 0 ∧ ¬ (255 : Int32) < ((p1 &&& (255 : Int32)).toUInt32.toUInt16.toUInt32.toInt32) := own_and255 _
  have hY : ¬ ((((p1.toUInt32 >>> ((8 : Int32) &&& 31).toUInt32).toInt32) &&& (255 : Int32)).toUInt32.toUInt16.toUInt32.toInt32) < 0 ∧ ¬ (255 : Int32) < ((((p1.toUInt32 >>> ((8 : Int32) &&& 31).toUInt32).toInt32) &&& (255 : Int32)).toUInt32.toUInt16.toUInt32.toInt32) := own_and255 _
  have hws : ∀ d ∈ StrChars.Road.words, d.before a0 Z = true := fun d hd => hw d ((by decide +kernel : ∀ d ∈ StrChars.Road.words, d ∈ tables_1) d hd)
  have J476 : ∀ (vJ476 : Vm) (TJ476 : State) (hJ476 : Heap) (LJ476 : List Loc) (kJ476 : Nat) (w7 : Value) (z8 : Int32) (z9 : Int32) (w10 : Value) (w11 : Value) (w12 : Value) (w13 : Value) (w14 : Value), Stand p l e room_1 (s.setVm vJ476) m #[(.int p0), (.int p1), (.int p2), (.int p3)] below meth c TJ476 LJ476 23 53 → TJ476.heap = hJ476 → Z.Warmed39 (s.setVm vJ476).vm → (s.setVm vJ476).vm.findClass "com/example/beija_flor/beijaflor/brcode/BrCodeIsDynamicPinLaw" = some m.cls → s.Since vJ476 kJ476 → kJ476 ≤ hJ476.size → CHr Z own_EL (s.setVm s.vm).vm h0 (s.setVm vJ476).vm hJ476 → Fr n0 LJ476 → Old Z n0 hJ476 → n0 ≤ hJ476.size → (own_im Z hJ476 w7 z8) → (own_url w10 z9) → (w11.isRef = true) → (w12.isRef = true) → (w13.isRef = true) → (w14.isRef = true) → own_ComesH Z p e below s room_1.cells room_1.slots (Q0 Z h0 n0) (TJ476.setTop (mkF m 476 #[.val (.int p0), .val (.int p1), .val (.int p2), .val (.int p3), .val (.int (p0 &&& (7 : Int32))), .val (.int ((p1 &&& (255 : Int32)).toUInt32.toUInt16.toUInt32.toInt32)), .val (.int ((((p1.toUInt32 >>> ((8 : Int32) &&& 31).toUInt32).toInt32) &&& (255 : Int32)).toUInt32.toUInt16.toUInt32.toInt32)), .val w7, .val (.int z8), .val (.int z9), .val w10, .val w11, .val w12, .val w13, .val w14, .unset, .unset] [])) := by
    intro vJ476 TJ476 hJ476 LJ476 kJ476 w7 z8 z9 w10 w11 w12 w13 w14 XJ476 eJ476 hZJ476 hownJ476 hSJ476 hkJ476 CHJ476 NJ476 OJ476 ZJ476 hIm hU i_w11 i_w12 i_w13 i_w14
    show own_ComesH Z p e below s _ _ _ (TJ476.setTop (mkF m 476 #[.val (.int p0), .val (.int p1), .val (.int p2), .val (.int p3), .val (.int (p0 &&& (7 : Int32))), .val (.int ((p1 &&& (255 : Int32)).toUInt32.toUInt16.toUInt32.toInt32)), .val (.int ((((p1.toUInt32 >>> ((8 : Int32) &&& 31).toUInt32).toInt32) &&& (255 : Int32)).toUInt32.toUInt16.toUInt32.toInt32)), .val w7, .val (.int z8), .val (.int z9), .val w10, .val w11, .val w12, .val w13, .val w14, .unset, .unset] []))
    have i_w7 := own_im.ref hIm
    have i_w10 := own_url.ref hU
    obtain ⟨T107, h107, X107, e107, E107, A107, D107, -, st107⟩ := newO XJ476 hx hZJ476 hownJ476 (hw _ (List.mem_of_getElem? (i := 30) rfl)) (hw _ (List.mem_of_getElem? (i := 31) rfl)) (hw _ (List.mem_of_getElem? (i := 32) rfl)) eJ476 (g := (mkF m 476 #[.val (.int p0), .val (.int p1), .val (.int p2), .val (.int p3), .val (.int (p0 &&& (7 : Int32))), .val (.int ((p1 &&& (255 : Int32)).toUInt32.toUInt16.toUInt32.toInt32)), .val (.int ((((p1.toUInt32 >>> ((8 : Int32) &&& 31).toUInt32).toInt32) &&& (255 : Int32)).toUInt32.toUInt16.toUInt32.toInt32)), .val w7, .val (.int z8), .val (.int z9), .val w10, .val w11, .val w12, .val w13, .val w14, .unset, .unset] [])) rfl (hb hby at_476) (by decide) (by decide)
    obtain ⟨b107, g107⟩ : ∃ z, z = hJ476.size := ⟨_, rfl⟩
    rw [← g107] at A107 D107 st107
    have g_b107 : n0 ≤ b107 := Nat.le_trans ZJ476 (Nat.le_of_eq g107.symm)
    refine own_byH st107 ?_
    have CR108 := CHr.ext E107 CHJ476.1
    have CH108 := CHJ476.trans CR108
    have sb107 := Safe.ext E107 CHJ476.1 (Safe.new (Nat.le_of_eq g107.symm))
    show own_ComesH Z p e below s _ _ _ (T107.setTop (mkF m 479 #[.val (.int p0), .val (.int p1), .val (.int p2), .val (.int p3), .val (.int (p0 &&& (7 : Int32))), .val (.int ((p1 &&& (255 : Int32)).toUInt32.toUInt16.toUInt32.toInt32)), .val (.int ((((p1.toUInt32 >>> ((8 : Int32) &&& 31).toUInt32).toInt32) &&& (255 : Int32)).toUInt32.toUInt16.toUInt32.toInt32)), .val w7, .val (.int z8), .val (.int z9), .val w10, .val w11, .val w12, .val w13, .val w14, .unset, .unset] [(.ref b107)]))
    have sz_b107 : hJ476.size ≤ b107 := Nat.le_trans (Keep.refl _ []).1 (Nat.le_of_eq g107.symm)
    refine own_byH (fun _ kS => XS.dup X107.here hx rfl (hb hby at_479) rfl rfl kS) ?_
    show own_ComesH Z p e below s _ _ _ (T107.setTop (mkF m 480 #[.val (.int p0), .val (.int p1), .val (.int p2), .val (.int p3), .val (.int (p0 &&& (7 : Int32))), .val (.int ((p1 &&& (255 : Int32)).toUInt32.toUInt16.toUInt32.toInt32)), .val (.int ((((p1.toUInt32 >>> ((8 : Int32) &&& 31).toUInt32).toInt32) &&& (255 : Int32)).toUInt32.toUInt16.toUInt32.toInt32)), .val w7, .val (.int z8), .val (.int z9), .val w10, .val w11, .val w12, .val w13, .val w14, .unset, .unset] [(.ref b107), (.ref b107)]))
    refine own_byH (fun _ kS => XS.aload X107.here hx rfl (hb hby at_480) rfl i_w7 kS) ?_
    show own_ComesH Z p e below s _ _ _ (T107.setTop (mkF m 482 #[.val (.int p0), .val (.int p1), .val (.int p2), .val (.int p3), .val (.int (p0 &&& (7 : Int32))), .val (.int ((p1 &&& (255 : Int32)).toUInt32.toUInt16.toUInt32.toInt32)), .val (.int ((((p1.toUInt32 >>> ((8 : Int32) &&& 31).toUInt32).toInt32) &&& (255 : Int32)).toUInt32.toUInt16.toUInt32.toInt32)), .val w7, .val (.int z8), .val (.int z9), .val w10, .val w11, .val w12, .val w13, .val w14, .unset, .unset] [w7, (.ref b107), (.ref b107)]))
    refine own_byH (fun _ kS => XS.aload X107.here hx rfl (hb hby at_482) rfl i_w12 kS) ?_
    show own_ComesH Z p e below s _ _ _ (T107.setTop (mkF m 484 #[.val (.int p0), .val (.int p1), .val (.int p2), .val (.int p3), .val (.int (p0 &&& (7 : Int32))), .val (.int ((p1 &&& (255 : Int32)).toUInt32.toUInt16.toUInt32.toInt32)), .val (.int ((((p1.toUInt32 >>> ((8 : Int32) &&& 31).toUInt32).toInt32) &&& (255 : Int32)).toUInt32.toUInt16.toUInt32.toInt32)), .val w7, .val (.int z8), .val (.int z9), .val w10, .val w11, .val w12, .val w13, .val w14, .unset, .unset] [w12, w7, (.ref b107), (.ref b107)]))
    refine own_byH (fun _ kS => XS.aload X107.here hx rfl (hb hby at_484) rfl i_w11 kS) ?_
    show own_ComesH Z p e below s _ _ _ (T107.setTop (mkF m 486 #[.val (.int p0), .val (.int p1), .val (.int p2), .val (.int p3), .val (.int (p0 &&& (7 : Int32))), .val (.int ((p1 &&& (255 : Int32)).toUInt32.toUInt16.toUInt32.toInt32)), .val (.int ((((p1.toUInt32 >>> ((8 : Int32) &&& 31).toUInt32).toInt32) &&& (255 : Int32)).toUInt32.toUInt16.toUInt32.toInt32)), .val w7, .val (.int z8), .val (.int z9), .val w10, .val w11, .val w12, .val w13, .val w14, .unset, .unset] [w11, w12, w7, (.ref b107), (.ref b107)]))
    refine own_byH (fun _ kS => XS.aload X107.here hx rfl (hb hby at_486) rfl i_w10 kS) ?_
    show own_ComesH Z p e below s _ _ _ (T107.setTop (mkF m 488 #[.val (.int p0), .val (.int p1), .val (.int p2), .val (.int p3), .val (.int (p0 &&& (7 : Int32))), .val (.int ((p1 &&& (255 : Int32)).toUInt32.toUInt16.toUInt32.toInt32)), .val (.int ((((p1.toUInt32 >>> ((8 : Int32) &&& 31).toUInt32).toInt32) &&& (255 : Int32)).toUInt32.toUInt16.toUInt32.toInt32)), .val w7, .val (.int z8), .val (.int z9), .val w10, .val w11, .val w12, .val w13, .val w14, .unset, .unset] [w10, w11, w12, w7, (.ref b107), (.ref b107)]))
    have wS : ∀ a ∈ Bundle.stringAtoms, a.before a0 Z = true := fun d hd => hw d ((by decide +kernel : ∀ d ∈ Bundle.stringAtoms, d ∈ tables_1) d hd)
    obtain ⟨a109, T109, h109, k109, X109, e109, E109, hS109, hk109, hZ109, hown109, CQ109, Li109, st109⟩ := ldcOH X107 hx hZJ476 hownJ476 (hw _ (List.mem_of_getElem? (i := 33) rfl)) wS e107 hSJ476 (Nat.le_trans hkJ476 E107.1) hEL CH108.1 (g := (mkF m 488 #[.val (.int p0), .val (.int p1), .val (.int p2), .val (.int p3), .val (.int (p0 &&& (7 : Int32))), .val (.int ((p1 &&& (255 : Int32)).toUInt32.toUInt16.toUInt32.toInt32)), .val (.int ((((p1.toUInt32 >>> ((8 : Int32) &&& 31).toUInt32).toInt32) &&& (255 : Int32)).toUInt32.toUInt16.toUInt32.toInt32)), .val w7, .val (.int z8), .val (.int z9), .val w10, .val w11, .val w12, .val w13, .val w14, .unset, .unset] [w10, w11, w12, w7, (.ref b107), (.ref b107)])) rfl (hb hby at_488) (n := 16) (by decide) (by decide) (by decide) (by decide)
    refine own_byH st109 ?_
    have CR110 := CQ109
    have CH110 := CH108.trans CR110
    show own_ComesH Z p e below s _ _ _ (T109.setTop (mkF m 490 #[.val (.int p0), .val (.int p1), .val (.int p2), .val (.int p3), .val (.int (p0 &&& (7 : Int32))), .val (.int ((p1 &&& (255 : Int32)).toUInt32.toUInt16.toUInt32.toInt32)), .val (.int ((((p1.toUInt32 >>> ((8 : Int32) &&& 31).toUInt32).toInt32) &&& (255 : Int32)).toUInt32.toUInt16.toUInt32.toInt32)), .val w7, .val (.int z8), .val (.int z9), .val w10, .val w11, .val w12, .val w13, .val w14, .unset, .unset] [(.ref a109), w10, w11, w12, w7, (.ref b107), (.ref b107)]))
    obtain ⟨a111, T111, h111, k111, X111, e111, E111, hS111, hk111, hZ111, hown111, CQ111, Li111, st111⟩ := ldcOH X109 hx hZ109 hown109 (hw _ (List.mem_of_getElem? (i := 36) rfl)) wS e109 hS109 hk109 hEL CH110.1 (g := (mkF m 490 #[.val (.int p0), .val (.int p1), .val (.int p2), .val (.int p3), .val (.int (p0 &&& (7 : Int32))), .val (.int ((p1 &&& (255 : Int32)).toUInt32.toUInt16.toUInt32.toInt32)), .val (.int ((((p1.toUInt32 >>> ((8 : Int32) &&& 31).toUInt32).toInt32) &&& (255 : Int32)).toUInt32.toUInt16.toUInt32.toInt32)), .val w7, .val (.int z8), .val (.int z9), .val w10, .val w11, .val w12, .val w13, .val w14, .unset, .unset] [(.ref a109), w10, w11, w12, w7, (.ref b107), (.ref b107)])) rfl (hb hby at_490) (n := 12) (by decide) (by decide) (by decide) (by decide)
    refine own_byH st111 ?_
    have CR112 := CQ111
    have CH112 := CH110.trans CR112
    show own_ComesH Z p e below s _ _ _ (T111.setTop (mkF m 492 #[.val (.int p0), .val (.int p1), .val (.int p2), .val (.int p3), .val (.int (p0 &&& (7 : Int32))), .val (.int ((p1 &&& (255 : Int32)).toUInt32.toUInt16.toUInt32.toInt32)), .val (.int ((((p1.toUInt32 >>> ((8 : Int32) &&& 31).toUInt32).toInt32) &&& (255 : Int32)).toUInt32.toUInt16.toUInt32.toInt32)), .val w7, .val (.int z8), .val (.int z9), .val w10, .val w11, .val w12, .val w13, .val w14, .unset, .unset] [(.ref a111), (.ref a109), w10, w11, w12, w7, (.ref b107), (.ref b107)]))
    refine own_byH (fun _ kS => XS.aload X111.here hx rfl (hb hby at_492) rfl i_w14 kS) ?_
    show own_ComesH Z p e below s _ _ _ (T111.setTop (mkF m 494 #[.val (.int p0), .val (.int p1), .val (.int p2), .val (.int p3), .val (.int (p0 &&& (7 : Int32))), .val (.int ((p1 &&& (255 : Int32)).toUInt32.toUInt16.toUInt32.toInt32)), .val (.int ((((p1.toUInt32 >>> ((8 : Int32) &&& 31).toUInt32).toInt32) &&& (255 : Int32)).toUInt32.toUInt16.toUInt32.toInt32)), .val w7, .val (.int z8), .val (.int z9), .val w10, .val w11, .val w12, .val w13, .val w14, .unset, .unset] [w14, (.ref a111), (.ref a109), w10, w11, w12, w7, (.ref b107), (.ref b107)]))
    obtain ⟨a113, T113, h113, k113, X113, e113, E113, hS113, hk113, hZ113, hown113, CQ113, Li113, st113⟩ := ldcOH X111 hx hZ111 hown111 (hw _ (List.mem_of_getElem? (i := 37) rfl)) wS e111 hS111 hk111 hEL CH112.1 (g := (mkF m 494 #[.val (.int p0), .val (.int p1), .val (.int p2), .val (.int p3), .val (.int (p0 &&& (7 : Int32))), .val (.int ((p1 &&& (255 : Int32)).toUInt32.toUInt16.toUInt32.toInt32)), .val (.int ((((p1.toUInt32 >>> ((8 : Int32) &&& 31).toUInt32).toInt32) &&& (255 : Int32)).toUInt32.toUInt16.toUInt32.toInt32)), .val w7, .val (.int z8), .val (.int z9), .val w10, .val w11, .val w12, .val w13, .val w14, .unset, .unset] [w14, (.ref a111), (.ref a109), w10, w11, w12, w7, (.ref b107), (.ref b107)])) rfl (hb hby at_494) (n := 8) (by decide) (by decide) (by decide) (by decide)
    refine own_byH st113 ?_
    have CR114 := CQ113
    have CH114 := CH112.trans CR114
    show own_ComesH Z p e below s _ _ _ (T113.setTop (mkF m 496 #[.val (.int p0), .val (.int p1), .val (.int p2), .val (.int p3), .val (.int (p0 &&& (7 : Int32))), .val (.int ((p1 &&& (255 : Int32)).toUInt32.toUInt16.toUInt32.toInt32)), .val (.int ((((p1.toUInt32 >>> ((8 : Int32) &&& 31).toUInt32).toInt32) &&& (255 : Int32)).toUInt32.toUInt16.toUInt32.toInt32)), .val w7, .val (.int z8), .val (.int z9), .val w10, .val w11, .val w12, .val w13, .val w14, .unset, .unset] [(.ref a113), w14, (.ref a111), (.ref a109), w10, w11, w12, w7, (.ref b107), (.ref b107)]))
    obtain ⟨a115, T115, h115, k115, X115, e115, E115, hS115, hk115, hZ115, hown115, CQ115, Li115, st115⟩ := ldcOH X113 hx hZ113 hown113 (hw _ (List.mem_of_getElem? (i := 38) rfl)) wS e113 hS113 hk113 hEL CH114.1 (g := (mkF m 496 #[.val (.int p0), .val (.int p1), .val (.int p2), .val (.int p3), .val (.int (p0 &&& (7 : Int32))), .val (.int ((p1 &&& (255 : Int32)).toUInt32.toUInt16.toUInt32.toInt32)), .val (.int ((((p1.toUInt32 >>> ((8 : Int32) &&& 31).toUInt32).toInt32) &&& (255 : Int32)).toUInt32.toUInt16.toUInt32.toInt32)), .val w7, .val (.int z8), .val (.int z9), .val w10, .val w11, .val w12, .val w13, .val w14, .unset, .unset] [(.ref a113), w14, (.ref a111), (.ref a109), w10, w11, w12, w7, (.ref b107), (.ref b107)])) rfl (hb hby at_496) (n := 4) (by decide) (by decide) (by decide) (by decide)
    refine own_byH st115 ?_
    have CR116 := CQ115
    have CH116 := CH114.trans CR116
    show own_ComesH Z p e below s _ _ _ (T115.setTop (mkF m 498 #[.val (.int p0), .val (.int p1), .val (.int p2), .val (.int p3), .val (.int (p0 &&& (7 : Int32))), .val (.int ((p1 &&& (255 : Int32)).toUInt32.toUInt16.toUInt32.toInt32)), .val (.int ((((p1.toUInt32 >>> ((8 : Int32) &&& 31).toUInt32).toInt32) &&& (255 : Int32)).toUInt32.toUInt16.toUInt32.toInt32)), .val w7, .val (.int z8), .val (.int z9), .val w10, .val w11, .val w12, .val w13, .val w14, .unset, .unset] [(.ref a115), (.ref a113), w14, (.ref a111), (.ref a109), w10, w11, w12, w7, (.ref b107), (.ref b107)]))
    obtain ⟨a117, T117, h117, k117, X117, e117, E117, hS117, hk117, hZ117, hown117, CQ117, Li117, st117⟩ := ldcOH X115 hx hZ115 hown115 (hw _ (List.mem_of_getElem? (i := 39) rfl)) wS e115 hS115 hk115 hEL CH116.1 (g := (mkF m 498 #[.val (.int p0), .val (.int p1), .val (.int p2), .val (.int p3), .val (.int (p0 &&& (7 : Int32))), .val (.int ((p1 &&& (255 : Int32)).toUInt32.toUInt16.toUInt32.toInt32)), .val (.int ((((p1.toUInt32 >>> ((8 : Int32) &&& 31).toUInt32).toInt32) &&& (255 : Int32)).toUInt32.toUInt16.toUInt32.toInt32)), .val w7, .val (.int z8), .val (.int z9), .val w10, .val w11, .val w12, .val w13, .val w14, .unset, .unset] [(.ref a115), (.ref a113), w14, (.ref a111), (.ref a109), w10, w11, w12, w7, (.ref b107), (.ref b107)])) rfl (hb hby at_498) (n := 4) (by decide) (by decide) (by decide) (by decide)
    refine own_byH st117 ?_
    have CR118 := CQ117
    have CH118 := CH116.trans CR118
    show own_ComesH Z p e below s _ _ _ (T117.setTop (mkF m 500 #[.val (.int p0), .val (.int p1), .val (.int p2), .val (.int p3), .val (.int (p0 &&& (7 : Int32))), .val (.int ((p1 &&& (255 : Int32)).toUInt32.toUInt16.toUInt32.toInt32)), .val (.int ((((p1.toUInt32 >>> ((8 : Int32) &&& 31).toUInt32).toInt32) &&& (255 : Int32)).toUInt32.toUInt16.toUInt32.toInt32)), .val w7, .val (.int z8), .val (.int z9), .val w10, .val w11, .val w12, .val w13, .val w14, .unset, .unset] [(.ref a117), (.ref a115), (.ref a113), w14, (.ref a111), (.ref a109), w10, w11, w12, w7, (.ref b107), (.ref b107)]))
    refine own_byH (fun _ kS => XS.aload X117.here hx rfl (hb hby at_500) rfl i_w13 kS) ?_
    show own_ComesH Z p e below s _ _ _ (T117.setTop (mkF m 502 #[.val (.int p0), .val (.int p1), .val (.int p2), .val (.int p3), .val (.int (p0 &&& (7 : Int32))), .val (.int ((p1 &&& (255 : Int32)).toUInt32.toUInt16.toUInt32.toInt32)), .val (.int ((((p1.toUInt32 >>> ((8 : Int32) &&& 31).toUInt32).toInt32) &&& (255 : Int32)).toUInt32.toUInt16.toUInt32.toInt32)), .val w7, .val (.int z8), .val (.int z9), .val w10, .val w11, .val w12, .val w13, .val w14, .unset, .unset] [w13, (.ref a117), (.ref a115), (.ref a113), w14, (.ref a111), (.ref a109), w10, w11, w12, w7, (.ref b107), (.ref b107)]))
    obtain ⟨a119, T119, h119, k119, X119, e119, E119, hS119, hk119, hZ119, hown119, CQ119, Li119, st119⟩ := ldcOH X117 hx hZ117 hown117 (hw _ (List.mem_of_getElem? (i := 40) rfl)) wS e117 hS117 hk117 hEL CH118.1 (g := (mkF m 502 #[.val (.int p0), .val (.int p1), .val (.int p2), .val (.int p3), .val (.int (p0 &&& (7 : Int32))), .val (.int ((p1 &&& (255 : Int32)).toUInt32.toUInt16.toUInt32.toInt32)), .val (.int ((((p1.toUInt32 >>> ((8 : Int32) &&& 31).toUInt32).toInt32) &&& (255 : Int32)).toUInt32.toUInt16.toUInt32.toInt32)), .val w7, .val (.int z8), .val (.int z9), .val w10, .val w11, .val w12, .val w13, .val w14, .unset, .unset] [w13, (.ref a117), (.ref a115), (.ref a113), w14, (.ref a111), (.ref a109), w10, w11, w12, w7, (.ref b107), (.ref b107)])) rfl (hb hby at_502) (n := 16) (by decide) (by decide) (by decide) (by decide)
    refine own_byH st119 ?_
    have CR120 := CQ119
    have CH120 := CH118.trans CR120
    show own_ComesH Z p e below s _ _ _ (T119.setTop (mkF m 504 #[.val (.int p0), .val (.int p1), .val (.int p2), .val (.int p3), .val (.int (p0 &&& (7 : Int32))), .val (.int ((p1 &&& (255 : Int32)).toUInt32.toUInt16.toUInt32.toInt32)), .val (.int ((((p1.toUInt32 >>> ((8 : Int32) &&& 31).toUInt32).toInt32) &&& (255 : Int32)).toUInt32.toUInt16.toUInt32.toInt32)), .val w7, .val (.int z8), .val (.int z9), .val w10, .val w11, .val w12, .val w13, .val w14, .unset, .unset] [(.ref a119), w13, (.ref a117), (.ref a115), (.ref a113), w14, (.ref a111), (.ref a109), w10, w11, w12, w7, (.ref b107), (.ref b107)]))
    have c121 := ((((((A107.ext E109).ext E111).ext E113).ext E115).ext E117).ext E119)
    have c122 := (((((((D107 (Or.inr (hw _ (List.mem_of_getElem? (i := 51) rfl))) (ty := (.object "java/lang/String")) (by decide)).ext E109).ext E111).ext E113).ext E115).ext E117).ext E119)
    have c123 := (((((((D107 (Or.inr (hw _ (List.mem_of_getElem? (i := 53) rfl))) (ty := (.object "java/lang/String")) (by decide)).ext E109).ext E111).ext E113).ext E115).ext E117).ext E119)
    have c124 := (((((((D107 (Or.inr (hw _ (List.mem_of_getElem? (i := 55) rfl))) (ty := (.object "java/lang/String")) (by decide)).ext E109).ext E111).ext E113).ext E115).ext E117).ext E119)
    have c125 := (((((((D107 (Or.inr (hw _ (List.mem_of_getElem? (i := 57) rfl))) (ty := (.object "java/lang/String")) (by decide)).ext E109).ext E111).ext E113).ext E115).ext E117).ext E119)
    have c126 := (((((((D107 (Or.inr (hw _ (List.mem_of_getElem? (i := 59) rfl))) (ty := (.object "java/lang/String")) (by decide)).ext E109).ext E111).ext E113).ext E115).ext E117).ext E119)
    have c127 := (((((((D107 (Or.inr (hw _ (List.mem_of_getElem? (i := 61) rfl))) (ty := (.object "java/lang/String")) (by decide)).ext E109).ext E111).ext E113).ext E115).ext E117).ext E119)
    have c128 := (((((((D107 (Or.inr (hw _ (List.mem_of_getElem? (i := 63) rfl))) (ty := (.object "java/lang/String")) (by decide)).ext E109).ext E111).ext E113).ext E115).ext E117).ext E119)
    have c129 := (((((((D107 (Or.inr (hw _ (List.mem_of_getElem? (i := 65) rfl))) (ty := (.object "java/lang/String")) (by decide)).ext E109).ext E111).ext E113).ext E115).ext E117).ext E119)
    have c130 := (((((((D107 (Or.inr (hw _ (List.mem_of_getElem? (i := 67) rfl))) (ty := (.object "java/lang/String")) (by decide)).ext E109).ext E111).ext E113).ext E115).ext E117).ext E119)
    have c131 := (((((((D107 (Or.inr (hw _ (List.mem_of_getElem? (i := 69) rfl))) (ty := (.object "java/lang/String")) (by decide)).ext E109).ext E111).ext E113).ext E115).ext E117).ext E119)
    have c132 := (((((((D107 (Or.inr (hw _ (List.mem_of_getElem? (i := 71) rfl))) (ty := (.object "java/lang/String")) (by decide)).ext E109).ext E111).ext E113).ext E115).ext E117).ext E119)
    have c133 := (((((((D107 (Or.inr (hw _ (List.mem_of_getElem? (i := 73) rfl))) (ty := (.object "java/lang/String")) (by decide)).ext E109).ext E111).ext E113).ext E115).ext E117).ext E119)
    obtain ⟨vv134, _, ⟨T134, L134, k134, n134⟩, -, X134, ⟨Lc134, hQ134, l134, y134, z134⟩, st134⟩ := X119.specialBack hx (y := (⟨"com/example/beija_flor/beijaflor/brcode/BrCode", "<init>", "(Ljava/lang/String;Ljava/lang/String;Ljava/lang/String;Ljava/lang/String;Ljava/lang/String;Ljava/lang/String;Ljava/lang/String;Ljava/lang/String;Ljava/lang/String;Ljava/lang/String;Ljava/lang/String;Ljava/lang/String;)V"⟩ : MethodName)) rfl hown119 (mvT hZ119 (hw _ (List.mem_of_getElem? (i := 41) rfl))) (mvT hZ119 (hw _ (List.mem_of_getElem? (i := 42) rfl))) (mvT hZ119 (hw _ (List.mem_of_getElem? (i := 43) rfl))) (by decide) (backOf (W := 1) (rm7 l Z a0 hw [] b107 w7 w12 w11 w10 (.ref a109) (.ref a111) w14 (.ref a113) (.ref a115) (.ref a117) w13 (.ref a119) h119 n0 (Nat.le_trans (Nat.le_trans (Nat.le_trans (Nat.le_trans (Nat.le_trans (Nat.le_trans (Nat.le_trans ZJ476 E107.1) E109.1) E111.1) E113.1) E115.1) E117.1) E119.1) c121 g_b107 c122 c123 c124 c125 c126 c127 c128 c129 c130 c131 c132 c133 i_w7 (own_cat i_w7) i_w12 (own_cat i_w12) i_w11 (own_cat i_w11) i_w10 (own_cat i_w10) rfl rfl rfl rfl i_w14 (own_cat i_w14) rfl rfl rfl rfl rfl rfl i_w13 (own_cat i_w13) rfl rfl) hZ119 (hw _ (List.mem_of_getElem? (i := 43) rfl)) (hw _ (List.mem_of_getElem? (i := 32) rfl)) (by decide) (by decide)) (g := (mkF m 504 #[.val (.int p0), .val (.int p1), .val (.int p2), .val (.int p3), .val (.int (p0 &&& (7 : Int32))), .val (.int ((p1 &&& (255 : Int32)).toUInt32.toUInt16.toUInt32.toInt32)), .val (.int ((((p1.toUInt32 >>> ((8 : Int32) &&& 31).toUInt32).toInt32) &&& (255 : Int32)).toUInt32.toUInt16.toUInt32.toInt32)), .val w7, .val (.int z8), .val (.int z9), .val w10, .val w11, .val w12, .val w13, .val w14, .unset, .unset] [(.ref a119), w13, (.ref a117), (.ref a115), (.ref a113), w14, (.ref a111), (.ref a109), w10, w11, w12, w7, (.ref b107), (.ref b107)])) rfl (by rw [hml]; rfl) (Steps.refl _) (a := b107) (argsL := [w7, w12, w11, w10, (.ref a109), (.ref a111), w14, (.ref a113), (.ref a115), (.ref a117), w13, (.ref a119)]) (rest := [(.ref b107)]) (lenOf pd__Ljava_lang_String_Ljava_lang_String_Ljava_lang_String_Ljava_lang_String_Ljava_lang_String_Ljava_lang_String_Ljava_lang_String_Ljava_lang_String_Ljava_lang_String_Ljava_lang_String_Ljava_lang_String_Ljava_lang_String__V_579 rfl) rfl (by show 2 * 0 + _ ≤ _; exact Nat.le_of_eq rfl) (hb hby at_504) (fun _ _ => ⟨rfl, e119, (by decide : 36 + 0 ≤ _), (by decide : 149 + 0 ≤ _)⟩)
    dsimp only [Pt.U, Pt.locs, Pt.cells, Pt.slots] at X134 l134 y134 z134 st134 hQ134
    subst l134 y134 z134
    obtain ⟨rfl, N134q, K134, Fi134, Fu134⟩ := hQ134
    have N134 := Fr.app NJ476 N134q
    refine own_trH st134 ?_
    have sf136 := (CR110.trans (CR112.trans (CR114.trans (CR116.trans (CR118.trans CR120))))).safe A107.lt sb107
    have CR135 := CHr.keep K134 (sfS sf136 sf0) CH120.1
    have CH135 := CH120.trans CR135
    show own_ComesH Z p e below s _ _ _ (T134.setTop (mkF m 507 #[.val (.int p0), .val (.int p1), .val (.int p2), .val (.int p3), .val (.int (p0 &&& (7 : Int32))), .val (.int ((p1 &&& (255 : Int32)).toUInt32.toUInt16.toUInt32.toInt32)), .val (.int ((((p1.toUInt32 >>> ((8 : Int32) &&& 31).toUInt32).toInt32) &&& (255 : Int32)).toUInt32.toUInt16.toUInt32.toInt32)), .val w7, .val (.int z8), .val (.int z9), .val w10, .val w11, .val w12, .val w13, .val w14, .unset, .unset] [(.ref b107)]))
    refine own_byH (fun _ kS => XS.astore X134.here hx rfl (hb hby at_507) rfl rfl (l' := #[.val (.int p0), .val (.int p1), .val (.int p2), .val (.int p3), .val (.int (p0 &&& (7 : Int32))), .val (.int ((p1 &&& (255 : Int32)).toUInt32.toUInt16.toUInt32.toInt32)), .val (.int ((((p1.toUInt32 >>> ((8 : Int32) &&& 31).toUInt32).toInt32) &&& (255 : Int32)).toUInt32.toUInt16.toUInt32.toInt32)), .val w7, .val (.int z8), .val (.int z9), .val w10, .val w11, .val w12, .val w13, .val w14, .val (.ref b107), .unset]) rfl kS) ?_
    show own_ComesH Z p e below s _ _ _ (T134.setTop (mkF m 509 #[.val (.int p0), .val (.int p1), .val (.int p2), .val (.int p3), .val (.int (p0 &&& (7 : Int32))), .val (.int ((p1 &&& (255 : Int32)).toUInt32.toUInt16.toUInt32.toInt32)), .val (.int ((((p1.toUInt32 >>> ((8 : Int32) &&& 31).toUInt32).toInt32) &&& (255 : Int32)).toUInt32.toUInt16.toUInt32.toInt32)), .val w7, .val (.int z8), .val (.int z9), .val w10, .val w11, .val w12, .val w13, .val w14, .val (.ref b107), .unset] []))
    have c137 := (hIm.ext (own_ext (((((((((Keep.refl _ []).ext E107).ext E109).ext E111).ext E113).ext E115).ext E117).ext E119).trans K134 (allS (Or.inr sz_b107) all0))))
    have hIm2 := c137
    have hEb := (c121.keep K134)
    rcases hIm2 with ⟨rfl, rfl⟩ | ⟨xx, cs, rfl, hYx, ⟨hk2, rfl⟩ | ⟨hk2, rfl⟩⟩
    · rcases hU with ⟨rfl, rfl⟩ | ⟨uu, rfl, rfl⟩
      · show own_ComesH Z p e below s _ _ _ (T134.setTop (mkF m 509 #[.val (.int p0), .val (.int p1), .val (.int p2), .val (.int p3), .val (.int (p0 &&& (7 : Int32))), .val (.int ((p1 &&& (255 : Int32)).toUInt32.toUInt16.toUInt32.toInt32)), .val (.int ((((p1.toUInt32 >>> ((8 : Int32) &&& 31).toUInt32).toInt32) &&& (255 : Int32)).toUInt32.toUInt16.toUInt32.toInt32)), .val .null, .val (.int (0 : Int32)), .val (.int (0 : Int32)), .val .null, .val w11, .val w12, .val w13, .val w14, .val (.ref b107), .unset] []))
        refine own_byH (fun _ kS => XS.iload X134.here hx rfl (hb hby at_509) rfl kS) ?_
        show own_ComesH Z p e below s _ _ _ (T134.setTop (mkF m 511 #[.val (.int p0), .val (.int p1), .val (.int p2), .val (.int p3), .val (.int (p0 &&& (7 : Int32))), .val (.int ((p1 &&& (255 : Int32)).toUInt32.toUInt16.toUInt32.toInt32)), .val (.int ((((p1.toUInt32 >>> ((8 : Int32) &&& 31).toUInt32).toInt32) &&& (255 : Int32)).toUInt32.toUInt16.toUInt32.toInt32)), .val .null, .val (.int (0 : Int32)), .val (.int (0 : Int32)), .val .null, .val w11, .val w12, .val w13, .val w14, .val (.ref b107), .unset] [(.int (0 : Int32))]))
        have hb138 : (0 : Int32) = (0 : Int32) := by decide
        refine own_byH (fun _ kS => XS.ifNo X134.here hx rfl (hb hby at_511) rfl ((if0 _ _).trans (teq hb138).2) kS) ?_
        show own_ComesH Z p e below s _ _ _ (T134.setTop (mkF m 514 #[.val (.int p0), .val (.int p1), .val (.int p2), .val (.int p3), .val (.int (p0 &&& (7 : Int32))), .val (.int ((p1 &&& (255 : Int32)).toUInt32.toUInt16.toUInt32.toInt32)), .val (.int ((((p1.toUInt32 >>> ((8 : Int32) &&& 31).toUInt32).toInt32) &&& (255 : Int32)).toUInt32.toUInt16.toUInt32.toInt32)), .val .null, .val (.int (0 : Int32)), .val (.int (0 : Int32)), .val .null, .val w11, .val w12, .val w13, .val w14, .val (.ref b107), .unset] []))
        refine own_byH (fun _ kS => XS.iload X134.here hx rfl (hb hby at_514) rfl kS) ?_
        show own_ComesH Z p e below s _ _ _ (T134.setTop (mkF m 516 #[.val (.int p0), .val (.int p1), .val (.int p2), .val (.int p3), .val (.int (p0 &&& (7 : Int32))), .val (.int ((p1 &&& (255 : Int32)).toUInt32.toUInt16.toUInt32.toInt32)), .val (.int ((((p1.toUInt32 >>> ((8 : Int32) &&& 31).toUInt32).toInt32) &&& (255 : Int32)).toUInt32.toUInt16.toUInt32.toInt32)), .val .null, .val (.int (0 : Int32)), .val (.int (0 : Int32)), .val .null, .val w11, .val w12, .val w13, .val w14, .val (.ref b107), .unset] [(.int (0 : Int32))]))
        have hb139 : (0 : Int32) = (0 : Int32) := by decide
        refine own_byH (fun _ kS => XS.ifYes X134.here hx rfl (pc0 := 516) (pc' := 523) rfl (hb hby at_516) rfl ((if0 _ _).trans (teq hb139).1) (by decide) (by decide) kS) ?_
        show own_ComesH Z p e below s _ _ _ (T134.setTop (mkF m 523 #[.val (.int p0), .val (.int p1), .val (.int p2), .val (.int p3), .val (.int (p0 &&& (7 : Int32))), .val (.int ((p1 &&& (255 : Int32)).toUInt32.toUInt16.toUInt32.toInt32)), .val (.int ((((p1.toUInt32 >>> ((8 : Int32) &&& 31).toUInt32).toInt32) &&& (255 : Int32)).toUInt32.toUInt16.toUInt32.toInt32)), .val .null, .val (.int (0 : Int32)), .val (.int (0 : Int32)), .val .null, .val w11, .val w12, .val w13, .val w14, .val (.ref b107), .unset] []))
        refine own_byH (fun _ kS => XS.iconst X134.here hx rfl (hb hby at_523) kS) ?_
        show own_ComesH Z p e below s _ _ _ (T134.setTop (mkF m 524 #[.val (.int p0), .val (.int p1), .val (.int p2), .val (.int p3), .val (.int (p0 &&& (7 : Int32))), .val (.int ((p1 &&& (255 : Int32)).toUInt32.toUInt16.toUInt32.toInt32)), .val (.int ((((p1.toUInt32 >>> ((8 : Int32) &&& 31).toUInt32).toInt32) &&& (255 : Int32)).toUInt32.toUInt16.toUInt32.toInt32)), .val .null, .val (.int (0 : Int32)), .val (.int (0 : Int32)), .val .null, .val w11, .val w12, .val w13, .val w14, .val (.ref b107), .unset] [(.int (0 : Int32))]))
        refine own_byH (fun _ kS => XS.istore X134.here hx rfl (hb hby at_524) rfl (l' := #[.val (.int p0), .val (.int p1), .val (.int p2), .val (.int p3), .val (.int (p0 &&& (7 : Int32))), .val (.int ((p1 &&& (255 : Int32)).toUInt32.toUInt16.toUInt32.toInt32)), .val (.int ((((p1.toUInt32 >>> ((8 : Int32) &&& 31).toUInt32).toInt32) &&& (255 : Int32)).toUInt32.toUInt16.toUInt32.toInt32)), .val .null, .val (.int (0 : Int32)), .val (.int (0 : Int32)), .val .null, .val w11, .val w12, .val w13, .val w14, .val (.ref b107), .val (.int (0 : Int32))]) rfl kS) ?_
        show own_ComesH Z p e below s _ _ _ (T134.setTop (mkF m 526 #[.val (.int p0), .val (.int p1), .val (.int p2), .val (.int p3), .val (.int (p0 &&& (7 : Int32))), .val (.int ((p1 &&& (255 : Int32)).toUInt32.toUInt16.toUInt32.toInt32)), .val (.int ((((p1.toUInt32 >>> ((8 : Int32) &&& 31).toUInt32).toInt32) &&& (255 : Int32)).toUInt32.toUInt16.toUInt32.toInt32)), .val .null, .val (.int (0 : Int32)), .val (.int (0 : Int32)), .val .null, .val w11, .val w12, .val w13, .val w14, .val (.ref b107), .val (.int (0 : Int32))] []))
        refine own_byH (fun _ kS => XS.aload X134.here hx rfl (hb hby at_526) rfl rfl kS) ?_
        show own_ComesH Z p e below s _ _ _ (T134.setTop (mkF m 528 #[.val (.int p0), .val (.int p1), .val (.int p2), .val (.int p3), .val (.int (p0 &&& (7 : Int32))), .val (.int ((p1 &&& (255 : Int32)).toUInt32.toUInt16.toUInt32.toInt32)), .val (.int ((((p1.toUInt32 >>> ((8 : Int32) &&& 31).toUInt32).toInt32) &&& (255 : Int32)).toUInt32.toUInt16.toUInt32.toInt32)), .val .null, .val (.int (0 : Int32)), .val (.int (0 : Int32)), .val .null, .val w11, .val w12, .val w13, .val w14, .val (.ref b107), .val (.int (0 : Int32))] [(.ref b107)]))
        have c140 := (OJ476.ext (own_ext (((((((((Keep.refl _ []).ext E107).ext E109).ext E111).ext E113).ext E115).ext E117).ext E119).trans K134 (allS (Or.inr sz_b107) all0))))
        obtain ⟨cq141, kq141, q141a, q141b, q141c⟩ := isOf hZ119 rfl hEb
        obtain ⟨_, _, ⟨T141, L141, k141, n141⟩, -, Xw141, hs141, gr141, ⟨Lc141, hQ141, l141, y141, z141, CQ141⟩, st141⟩ := X134.virtualBackS hx (y := (⟨"com/example/beija_flor/beijaflor/brcode/BrCode", "isDynamic", "()Z"⟩ : MethodName)) (z := (⟨"com/example/beija_flor/beijaflor/brcode/BrCode", "isDynamic", "()Z"⟩ : MethodName)) hown119 (mvT hZ119 (hw _ (List.mem_of_getElem? (i := 74) rfl))) (mvT hZ119 (hw _ (List.mem_of_getElem? (i := 75) rfl))) (notFace_of_selects (args := #[]) (mvT hZ119 (hw _ (List.mem_of_getElem? (i := 77) rfl)))) (mvT hZ119 (hw _ (List.mem_of_getElem? (i := 77) rfl))) (mvT hZ119 (hw _ (List.mem_of_getElem? (i := 76) rfl))) (by decide) (backOfSH (W := 0) (rm9nn l Z a0 hw [] b107 zc T134.heap n0 (Nat.le_trans (Nat.le_trans (Nat.le_trans (Nat.le_trans (Nat.le_trans (Nat.le_trans (Nat.le_trans (Nat.le_trans ZJ476 E107.1) E109.1) E111.1) E113.1) E115.1) E117.1) E119.1) K134.1) c140 Fi134 Fu134 Sz hzc) hZ119 (hw _ (List.mem_of_getElem? (i := 78) rfl)) (hw _ (List.mem_of_getElem? (i := 32) rfl)) (by decide) (by decide) hEL CH135.1) q141a q141c (g := (mkF m 528 #[.val (.int p0), .val (.int p1), .val (.int p2), .val (.int p3), .val (.int (p0 &&& (7 : Int32))), .val (.int ((p1 &&& (255 : Int32)).toUInt32.toUInt16.toUInt32.toInt32)), .val (.int ((((p1.toUInt32 >>> ((8 : Int32) &&& 31).toUInt32).toInt32) &&& (255 : Int32)).toUInt32.toUInt16.toUInt32.toInt32)), .val .null, .val (.int (0 : Int32)), .val (.int (0 : Int32)), .val .null, .val w11, .val w12, .val w13, .val w14, .val (.ref b107), .val (.int (0 : Int32))] [(.ref b107)])) rfl (by rw [hml]; rfl) (Steps.refl _) (argsL := []) (rest := []) (lenOf pd___Z_171 rfl) rfl (by show 2 * 0 + _ ≤ _; exact Nat.le_of_eq rfl) (hb hby at_528) (fun _ _ => ⟨rfl, rfl, (by decide : 36 + 2 ≤ _), (by decide : 149 + 12 ≤ _)⟩)
        dsimp only [Pt.U, Pt.locs, Pt.cells, Pt.slots] at Xw141 l141 y141 z141 st141 hQ141 hs141 gr141 CQ141
        subst l141 y141 z141
        obtain ⟨X141, hS141, hZ141, hown141⟩ := rebS hS119 (Nat.le_trans hk119 K134.1) Xw141 hs141 gr141 hZ119 hown119
        obtain ⟨rfl, N141q⟩ := hQ141
        have N141 := Fr.app N134 N141q
        refine own_trH st141 ?_
        have CR142 := CQ141
        have CH142 := CH135.trans CR142
        show own_ComesH Z p e below s _ _ _ (T141.setTop (mkF m 531 #[.val (.int p0), .val (.int p1), .val (.int p2), .val (.int p3), .val (.int (p0 &&& (7 : Int32))), .val (.int ((p1 &&& (255 : Int32)).toUInt32.toUInt16.toUInt32.toInt32)), .val (.int ((((p1.toUInt32 >>> ((8 : Int32) &&& 31).toUInt32).toInt32) &&& (255 : Int32)).toUInt32.toUInt16.toUInt32.toInt32)), .val .null, .val (.int (0 : Int32)), .val (.int (0 : Int32)), .val .null, .val w11, .val w12, .val w13, .val w14, .val (.ref b107), .val (.int (0 : Int32))] [(.int (0 : Int32))]))
        refine own_byH (fun _ kS => XS.iload X141.here hx rfl (hb hby at_531) rfl kS) ?_
        show own_ComesH Z p e below s _ _ _ (T141.setTop (mkF m 533 #[.val (.int p0), .val (.int p1), .val (.int p2), .val (.int p3), .val (.int (p0 &&& (7 : Int32))), .val (.int ((p1 &&& (255 : Int32)).toUInt32.toUInt16.toUInt32.toInt32)), .val (.int ((((p1.toUInt32 >>> ((8 : Int32) &&& 31).toUInt32).toInt32) &&& (255 : Int32)).toUInt32.toUInt16.toUInt32.toInt32)), .val .null, .val (.int (0 : Int32)), .val (.int (0 : Int32)), .val .null, .val w11, .val w12, .val w13, .val w14, .val (.ref b107), .val (.int (0 : Int32))] [(.int (0 : Int32)), (.int (0 : Int32))]))
        have hb143 : (0 : Int32) = (0 : Int32) := by decide
        refine own_byH (fun _ kS => XS.icmpNo X141.here hx rfl (hb hby at_533) rfl (teq hb143).2 kS) ?_
        show own_ComesH Z p e below s _ _ _ (T141.setTop (mkF m 536 #[.val (.int p0), .val (.int p1), .val (.int p2), .val (.int p3), .val (.int (p0 &&& (7 : Int32))), .val (.int ((p1 &&& (255 : Int32)).toUInt32.toUInt16.toUInt32.toInt32)), .val (.int ((((p1.toUInt32 >>> ((8 : Int32) &&& 31).toUInt32).toInt32) &&& (255 : Int32)).toUInt32.toUInt16.toUInt32.toInt32)), .val .null, .val (.int (0 : Int32)), .val (.int (0 : Int32)), .val .null, .val w11, .val w12, .val w13, .val w14, .val (.ref b107), .val (.int (0 : Int32))] []))
        refine own_byH (fun _ kS => XS.iconst X141.here hx rfl (hb hby at_536) kS) ?_
        show own_ComesH Z p e below s _ _ _ (T141.setTop (mkF m 537 #[.val (.int p0), .val (.int p1), .val (.int p2), .val (.int p3), .val (.int (p0 &&& (7 : Int32))), .val (.int ((p1 &&& (255 : Int32)).toUInt32.toUInt16.toUInt32.toInt32)), .val (.int ((((p1.toUInt32 >>> ((8 : Int32) &&& 31).toUInt32).toInt32) &&& (255 : Int32)).toUInt32.toUInt16.toUInt32.toInt32)), .val .null, .val (.int (0 : Int32)), .val (.int (0 : Int32)), .val .null, .val w11, .val w12, .val w13, .val w14, .val (.ref b107), .val (.int (0 : Int32))] [(.int (1 : Int32))]))
        refine own_byH (fun _ kS => XS.goto X141.here hx rfl (pc0 := 537) (pc' := 541) rfl (hb hby at_537) (by decide) (by decide) kS) ?_
        show own_ComesH Z p e below s _ _ _ (T141.setTop (mkF m 541 #[.val (.int p0), .val (.int p1), .val (.int p2), .val (.int p3), .val (.int (p0 &&& (7 : Int32))), .val (.int ((p1 &&& (255 : Int32)).toUInt32.toUInt16.toUInt32.toInt32)), .val (.int ((((p1.toUInt32 >>> ((8 : Int32) &&& 31).toUInt32).toInt32) &&& (255 : Int32)).toUInt32.toUInt16.toUInt32.toInt32)), .val .null, .val (.int (0 : Int32)), .val (.int (0 : Int32)), .val .null, .val w11, .val w12, .val w13, .val w14, .val (.ref b107), .val (.int (0 : Int32))] [(.int (1 : Int32))]))
        have hkr144 := (Nat.le_refl (Array.size T141.heap))
        have hcr144 := CH142.trans (CHv.at X141 hZ141 hEL CH142.1)
        refine own_retH X141 hS141 (by exact hkr144) (by rw [hh]; exact hcr144) (v := some (.int (1 : Int32))) (fun h => by rw [Bd.returns] at h; cases h) Bd.notSynchronized (by decide) (by decide) ?_ (fun fs hr => retN X141 hx (t := .boolean) Bd.returns (by simp) (hb hby at_541) hr)
        exact ⟨rfl, N141⟩
      · show own_ComesH Z p e below s _ _ _ (T134.setTop (mkF m 509 #[.val (.int p0), .val (.int p1), .val (.int p2), .val (.int p3), .val (.int (p0 &&& (7 : Int32))), .val (.int ((p1 &&& (255 : Int32)).toUInt32.toUInt16.toUInt32.toInt32)), .val (.int ((((p1.toUInt32 >>> ((8 : Int32) &&& 31).toUInt32).toInt32) &&& (255 : Int32)).toUInt32.toUInt16.toUInt32.toInt32)), .val .null, .val (.int (0 : Int32)), .val (.int (1 : Int32)), .val (.ref uu), .val w11, .val w12, .val w13, .val w14, .val (.ref b107), .unset] []))
        refine own_byH (fun _ kS => XS.iload X134.here hx rfl (hb hby at_509) rfl kS) ?_
        show own_ComesH Z p e below s _ _ _ (T134.setTop (mkF m 511 #[.val (.int p0), .val (.int p1), .val (.int p2), .val (.int p3), .val (.int (p0 &&& (7 : Int32))), .val (.int ((p1 &&& (255 : Int32)).toUInt32.toUInt16.toUInt32.toInt32)), .val (.int ((((p1.toUInt32 >>> ((8 : Int32) &&& 31).toUInt32).toInt32) &&& (255 : Int32)).toUInt32.toUInt16.toUInt32.toInt32)), .val .null, .val (.int (0 : Int32)), .val (.int (1 : Int32)), .val (.ref uu), .val w11, .val w12, .val w13, .val w14, .val (.ref b107), .unset] [(.int (0 : Int32))]))
        have hb145 : (0 : Int32) = (0 : Int32) := by decide
        refine own_byH (fun _ kS => XS.ifNo X134.here hx rfl (hb hby at_511) rfl ((if0 _ _).trans (teq hb145).2) kS) ?_
        show own_ComesH Z p e below s _ _ _ (T134.setTop (mkF m 514 #[.val (.int p0), .val (.int p1), .val (.int p2), .val (.int p3), .val (.int (p0 &&& (7 : Int32))), .val (.int ((p1 &&& (255 : Int32)).toUInt32.toUInt16.toUInt32.toInt32)), .val (.int ((((p1.toUInt32 >>> ((8 : Int32) &&& 31).toUInt32).toInt32) &&& (255 : Int32)).toUInt32.toUInt16.toUInt32.toInt32)), .val .null, .val (.int (0 : Int32)), .val (.int (1 : Int32)), .val (.ref uu), .val w11, .val w12, .val w13, .val w14, .val (.ref b107), .unset] []))
        refine own_byH (fun _ kS => XS.iload X134.here hx rfl (hb hby at_514) rfl kS) ?_
        show own_ComesH Z p e below s _ _ _ (T134.setTop (mkF m 516 #[.val (.int p0), .val (.int p1), .val (.int p2), .val (.int p3), .val (.int (p0 &&& (7 : Int32))), .val (.int ((p1 &&& (255 : Int32)).toUInt32.toUInt16.toUInt32.toInt32)), .val (.int ((((p1.toUInt32 >>> ((8 : Int32) &&& 31).toUInt32).toInt32) &&& (255 : Int32)).toUInt32.toUInt16.toUInt32.toInt32)), .val .null, .val (.int (0 : Int32)), .val (.int (1 : Int32)), .val (.ref uu), .val w11, .val w12, .val w13, .val w14, .val (.ref b107), .unset] [(.int (1 : Int32))]))
        have hb146 : ¬ ((1 : Int32) = (0 : Int32)) := by decide
        refine own_byH (fun _ kS => XS.ifNo X134.here hx rfl (hb hby at_516) rfl ((if0 _ _).trans (feq hb146).1) kS) ?_
        show own_ComesH Z p e below s _ _ _ (T134.setTop (mkF m 519 #[.val (.int p0), .val (.int p1), .val (.int p2), .val (.int p3), .val (.int (p0 &&& (7 : Int32))), .val (.int ((p1 &&& (255 : Int32)).toUInt32.toUInt16.toUInt32.toInt32)), .val (.int ((((p1.toUInt32 >>> ((8 : Int32) &&& 31).toUInt32).toInt32) &&& (255 : Int32)).toUInt32.toUInt16.toUInt32.toInt32)), .val .null, .val (.int (0 : Int32)), .val (.int (1 : Int32)), .val (.ref uu), .val w11, .val w12, .val w13, .val w14, .val (.ref b107), .unset] []))
        refine own_byH (fun _ kS => XS.iconst X134.here hx rfl (hb hby at_519) kS) ?_
        show own_ComesH Z p e below s _ _ _ (T134.setTop (mkF m 520 #[.val (.int p0), .val (.int p1), .val (.int p2), .val (.int p3), .val (.int (p0 &&& (7 : Int32))), .val (.int ((p1 &&& (255 : Int32)).toUInt32.toUInt16.toUInt32.toInt32)), .val (.int ((((p1.toUInt32 >>> ((8 : Int32) &&& 31).toUInt32).toInt32) &&& (255 : Int32)).toUInt32.toUInt16.toUInt32.toInt32)), .val .null, .val (.int (0 : Int32)), .val (.int (1 : Int32)), .val (.ref uu), .val w11, .val w12, .val w13, .val w14, .val (.ref b107), .unset] [(.int (1 : Int32))]))
        refine own_byH (fun _ kS => XS.goto X134.here hx rfl (pc0 := 520) (pc' := 524) rfl (hb hby at_520) (by decide) (by decide) kS) ?_
        show own_ComesH Z p e below s _ _ _ (T134.setTop (mkF m 524 #[.val (.int p0), .val (.int p1), .val (.int p2), .val (.int p3), .val (.int (p0 &&& (7 : Int32))), .val (.int ((p1 &&& (255 : Int32)).toUInt32.toUInt16.toUInt32.toInt32)), .val (.int ((((p1.toUInt32 >>> ((8 : Int32) &&& 31).toUInt32).toInt32) &&& (255 : Int32)).toUInt32.toUInt16.toUInt32.toInt32)), .val .null, .val (.int (0 : Int32)), .val (.int (1 : Int32)), .val (.ref uu), .val w11, .val w12, .val w13, .val w14, .val (.ref b107), .unset] [(.int (1 : Int32))]))
        refine own_byH (fun _ kS => XS.istore X134.here hx rfl (hb hby at_524) rfl (l' := #[.val (.int p0), .val (.int p1), .val (.int p2), .val (.int p3), .val (.int (p0 &&& (7 : Int32))), .val (.int ((p1 &&& (255 : Int32)).toUInt32.toUInt16.toUInt32.toInt32)), .val (.int ((((p1.toUInt32 >>> ((8 : Int32) &&& 31).toUInt32).toInt32) &&& (255 : Int32)).toUInt32.toUInt16.toUInt32.toInt32)), .val .null, .val (.int (0 : Int32)), .val (.int (1 : Int32)), .val (.ref uu), .val w11, .val w12, .val w13, .val w14, .val (.ref b107), .val (.int (1 : Int32))]) rfl kS) ?_
        show own_ComesH Z p e below s _ _ _ (T134.setTop (mkF m 526 #[.val (.int p0), .val (.int p1), .val (.int p2), .val (.int p3), .val (.int (p0 &&& (7 : Int32))), .val (.int ((p1 &&& (255 : Int32)).toUInt32.toUInt16.toUInt32.toInt32)), .val (.int ((((p1.toUInt32 >>> ((8 : Int32) &&& 31).toUInt32).toInt32) &&& (255 : Int32)).toUInt32.toUInt16.toUInt32.toInt32)), .val .null, .val (.int (0 : Int32)), .val (.int (1 : Int32)), .val (.ref uu), .val w11, .val w12, .val w13, .val w14, .val (.ref b107), .val (.int (1 : Int32))] []))
        refine own_byH (fun _ kS => XS.aload X134.here hx rfl (hb hby at_526) rfl rfl kS) ?_
        show own_ComesH Z p e below s _ _ _ (T134.setTop (mkF m 528 #[.val (.int p0), .val (.int p1), .val (.int p2), .val (.int p3), .val (.int (p0 &&& (7 : Int32))), .val (.int ((p1 &&& (255 : Int32)).toUInt32.toUInt16.toUInt32.toInt32)), .val (.int ((((p1.toUInt32 >>> ((8 : Int32) &&& 31).toUInt32).toInt32) &&& (255 : Int32)).toUInt32.toUInt16.toUInt32.toInt32)), .val .null, .val (.int (0 : Int32)), .val (.int (1 : Int32)), .val (.ref uu), .val w11, .val w12, .val w13, .val w14, .val (.ref b107), .val (.int (1 : Int32))] [(.ref b107)]))
        have c147 := (OJ476.ext (own_ext (((((((((Keep.refl _ []).ext E107).ext E109).ext E111).ext E113).ext E115).ext E117).ext E119).trans K134 (allS (Or.inr sz_b107) all0))))
        obtain ⟨cq148, kq148, q148a, q148b, q148c⟩ := isOf hZ119 rfl hEb
        obtain ⟨_, _, ⟨T148, L148, k148, n148⟩, -, Xw148, hs148, gr148, ⟨Lc148, hQ148, l148, y148, z148, CQ148⟩, st148⟩ := X134.virtualBackS hx (y := (⟨"com/example/beija_flor/beijaflor/brcode/BrCode", "isDynamic", "()Z"⟩ : MethodName)) (z := (⟨"com/example/beija_flor/beijaflor/brcode/BrCode", "isDynamic", "()Z"⟩ : MethodName)) hown119 (mvT hZ119 (hw _ (List.mem_of_getElem? (i := 74) rfl))) (mvT hZ119 (hw _ (List.mem_of_getElem? (i := 75) rfl))) (notFace_of_selects (args := #[]) (mvT hZ119 (hw _ (List.mem_of_getElem? (i := 77) rfl)))) (mvT hZ119 (hw _ (List.mem_of_getElem? (i := 77) rfl))) (mvT hZ119 (hw _ (List.mem_of_getElem? (i := 76) rfl))) (by decide) (backOfSH (W := 0) (rm9nr l Z a0 hw [] b107 uu zc T134.heap n0 (Nat.le_trans (Nat.le_trans (Nat.le_trans (Nat.le_trans (Nat.le_trans (Nat.le_trans (Nat.le_trans (Nat.le_trans ZJ476 E107.1) E109.1) E111.1) E113.1) E115.1) E117.1) E119.1) K134.1) c147 Fi134 Fu134 Sz hzc) hZ119 (hw _ (List.mem_of_getElem? (i := 78) rfl)) (hw _ (List.mem_of_getElem? (i := 32) rfl)) (by decide) (by decide) hEL CH135.1) q148a q148c (g := (mkF m 528 #[.val (.int p0), .val (.int p1), .val (.int p2), .val (.int p3), .val (.int (p0 &&& (7 : Int32))), .val (.int ((p1 &&& (255 : Int32)).toUInt32.toUInt16.toUInt32.toInt32)), .val (.int ((((p1.toUInt32 >>> ((8 : Int32) &&& 31).toUInt32).toInt32) &&& (255 : Int32)).toUInt32.toUInt16.toUInt32.toInt32)), .val .null, .val (.int (0 : Int32)), .val (.int (1 : Int32)), .val (.ref uu), .val w11, .val w12, .val w13, .val w14, .val (.ref b107), .val (.int (1 : Int32))] [(.ref b107)])) rfl (by rw [hml]; rfl) (Steps.refl _) (argsL := []) (rest := []) (lenOf pd___Z_171 rfl) rfl (by show 2 * 0 + _ ≤ _; exact Nat.le_of_eq rfl) (hb hby at_528) (fun _ _ => ⟨rfl, rfl, (by decide : 36 + 2 ≤ _), (by decide : 149 + 12 ≤ _)⟩)
        dsimp only [Pt.U, Pt.locs, Pt.cells, Pt.slots] at Xw148 l148 y148 z148 st148 hQ148 hs148 gr148 CQ148
        subst l148 y148 z148
        obtain ⟨X148, hS148, hZ148, hown148⟩ := rebS hS119 (Nat.le_trans hk119 K134.1) Xw148 hs148 gr148 hZ119 hown119
        obtain ⟨rfl, N148q⟩ := hQ148
        have N148 := Fr.app N134 N148q
        refine own_trH st148 ?_
        have CR149 := CQ148
        have CH149 := CH135.trans CR149
        show own_ComesH Z p e below s _ _ _ (T148.setTop (mkF m 531 #[.val (.int p0), .val (.int p1), .val (.int p2), .val (.int p3), .val (.int (p0 &&& (7 : Int32))), .val (.int ((p1 &&& (255 : Int32)).toUInt32.toUInt16.toUInt32.toInt32)), .val (.int ((((p1.toUInt32 >>> ((8 : Int32) &&& 31).toUInt32).toInt32) &&& (255 : Int32)).toUInt32.toUInt16.toUInt32.toInt32)), .val .null, .val (.int (0 : Int32)), .val (.int (1 : Int32)), .val (.ref uu), .val w11, .val w12, .val w13, .val w14, .val (.ref b107), .val (.int (1 : Int32))] [(.int (1 : Int32))]))
        refine own_byH (fun _ kS => XS.iload X148.here hx rfl (hb hby at_531) rfl kS) ?_
        show own_ComesH Z p e below s _ _ _ (T148.setTop (mkF m 533 #[.val (.int p0), .val (.int p1), .val (.int p2), .val (.int p3), .val (.int (p0 &&& (7 : Int32))), .val (.int ((p1 &&& (255 : Int32)).toUInt32.toUInt16.toUInt32.toInt32)), .val (.int ((((p1.toUInt32 >>> ((8 : Int32) &&& 31).toUInt32).toInt32) &&& (255 : Int32)).toUInt32.toUInt16.toUInt32.toInt32)), .val .null, .val (.int (0 : Int32)), .val (.int (1 : Int32)), .val (.ref uu), .val w11, .val w12, .val w13, .val w14, .val (.ref b107), .val (.int (1 : Int32))] [(.int (1 : Int32)), (.int (1 : Int32))]))
        have hb150 : (1 : Int32) = (1 : Int32) := by decide
        refine own_byH (fun _ kS => XS.icmpNo X148.here hx rfl (hb hby at_533) rfl (teq hb150).2 kS) ?_
        show own_ComesH Z p e below s _ _ _ (T148.setTop (mkF m 536 #[.val (.int p0), .val (.int p1), .val (.int p2), .val (.int p3), .val (.int (p0 &&& (7 : Int32))), .val (.int ((p1 &&& (255 : Int32)).toUInt32.toUInt16.toUInt32.toInt32)), .val (.int ((((p1.toUInt32 >>> ((8 : Int32) &&& 31).toUInt32).toInt32) &&& (255 : Int32)).toUInt32.toUInt16.toUInt32.toInt32)), .val .null, .val (.int (0 : Int32)), .val (.int (1 : Int32)), .val (.ref uu), .val w11, .val w12, .val w13, .val w14, .val (.ref b107), .val (.int (1 : Int32))] []))
        refine own_byH (fun _ kS => XS.iconst X148.here hx rfl (hb hby at_536) kS) ?_
        show own_ComesH Z p e below s _ _ _ (T148.setTop (mkF m 537 #[.val (.int p0), .val (.int p1), .val (.int p2), .val (.int p3), .val (.int (p0 &&& (7 : Int32))), .val (.int ((p1 &&& (255 : Int32)).toUInt32.toUInt16.toUInt32.toInt32)), .val (.int ((((p1.toUInt32 >>> ((8 : Int32) &&& 31).toUInt32).toInt32) &&& (255 : Int32)).toUInt32.toUInt16.toUInt32.toInt32)), .val .null, .val (.int (0 : Int32)), .val (.int (1 : Int32)), .val (.ref uu), .val w11, .val w12, .val w13, .val w14, .val (.ref b107), .val (.int (1 : Int32))] [(.int (1 : Int32))]))
        refine own_byH (fun _ kS => XS.goto X148.here hx rfl (pc0 := 537) (pc' := 541) rfl (hb hby at_537) (by decide) (by decide) kS) ?_
        show own_ComesH Z p e below s _ _ _ (T148.setTop (mkF m 541 #[.val (.int p0), .val (.int p1), .val (.int p2), .val (.int p3), .val (.int (p0 &&& (7 : Int32))), .val (.int ((p1 &&& (255 : Int32)).toUInt32.toUInt16.toUInt32.toInt32)), .val (.int ((((p1.toUInt32 >>> ((8 : Int32) &&& 31).toUInt32).toInt32) &&& (255 : Int32)).toUInt32.toUInt16.toUInt32.toInt32)), .val .null, .val (.int (0 : Int32)), .val (.int (1 : Int32)), .val (.ref uu), .val w11, .val w12, .val w13, .val w14, .val (.ref b107), .val (.int (1 : Int32))] [(.int (1 : Int32))]))
        have hkr151 := (Nat.le_refl (Array.size T148.heap))
        have hcr151 := CH149.trans (CHv.at X148 hZ148 hEL CH149.1)
        refine own_retH X148 hS148 (by exact hkr151) (by rw [hh]; exact hcr151) (v := some (.int (1 : Int32))) (fun h => by rw [Bd.returns] at h; cases h) Bd.notSynchronized (by decide) (by decide) ?_ (fun fs hr => retN X148 hx (t := .boolean) Bd.returns (by simp) (hb hby at_541) hr)
        exact ⟨rfl, N148⟩
    · rcases hU with ⟨rfl, rfl⟩ | ⟨uu, rfl, rfl⟩
      · show own_ComesH Z p e below s _ _ _ (T134.setTop (mkF m 509 #[.val (.int p0), .val (.int p1), .val (.int p2), .val (.int p3), .val (.int (p0 &&& (7 : Int32))), .val (.int ((p1 &&& (255 : Int32)).toUInt32.toUInt16.toUInt32.toInt32)), .val (.int ((((p1.toUInt32 >>> ((8 : Int32) &&& 31).toUInt32).toInt32) &&& (255 : Int32)).toUInt32.toUInt16.toUInt32.toInt32)), .val (.ref xx), .val (.int (1 : Int32)), .val (.int (0 : Int32)), .val .null, .val w11, .val w12, .val w13, .val w14, .val (.ref b107), .unset] []))
        refine own_byH (fun _ kS => XS.iload X134.here hx rfl (hb hby at_509) rfl kS) ?_
        show own_ComesH Z p e below s _ _ _ (T134.setTop (mkF m 511 #[.val (.int p0), .val (.int p1), .val (.int p2), .val (.int p3), .val (.int (p0 &&& (7 : Int32))), .val (.int ((p1 &&& (255 : Int32)).toUInt32.toUInt16.toUInt32.toInt32)), .val (.int ((((p1.toUInt32 >>> ((8 : Int32) &&& 31).toUInt32).toInt32) &&& (255 : Int32)).toUInt32.toUInt16.toUInt32.toInt32)), .val (.ref xx), .val (.int (1 : Int32)), .val (.int (0 : Int32)), .val .null, .val w11, .val w12, .val w13, .val w14, .val (.ref b107), .unset] [(.int (1 : Int32))]))
        have hb152 : ¬ ((1 : Int32) = (0 : Int32)) := by decide
        refine own_byH (fun _ kS => XS.ifYes X134.here hx rfl (pc0 := 511) (pc' := 519) rfl (hb hby at_511) rfl ((if0 _ _).trans (feq hb152).2) (by decide) (by decide) kS) ?_
        show own_ComesH Z p e below s _ _ _ (T134.setTop (mkF m 519 #[.val (.int p0), .val (.int p1), .val (.int p2), .val (.int p3), .val (.int (p0 &&& (7 : Int32))), .val (.int ((p1 &&& (255 : Int32)).toUInt32.toUInt16.toUInt32.toInt32)), .val (.int ((((p1.toUInt32 >>> ((8 : Int32) &&& 31).toUInt32).toInt32) &&& (255 : Int32)).toUInt32.toUInt16.toUInt32.toInt32)), .val (.ref xx), .val (.int (1 : Int32)), .val (.int (0 : Int32)), .val .null, .val w11, .val w12, .val w13, .val w14, .val (.ref b107), .unset] []))
        refine own_byH (fun _ kS => XS.iconst X134.here hx rfl (hb hby at_519) kS) ?_
        show own_ComesH Z p e below s _ _ _ (T134.setTop (mkF m 520 #[.val (.int p0), .val (.int p1), .val (.int p2), .val (.int p3), .val (.int (p0 &&& (7 : Int32))), .val (.int ((p1 &&& (255 : Int32)).toUInt32.toUInt16.toUInt32.toInt32)), .val (.int ((((p1.toUInt32 >>> ((8 : Int32) &&& 31).toUInt32).toInt32) &&& (255 : Int32)).toUInt32.toUInt16.toUInt32.toInt32)), .val (.ref xx), .val (.int (1 : Int32)), .val (.int (0 : Int32)), .val .null, .val w11, .val w12, .val w13, .val w14, .val (.ref b107), .unset] [(.int (1 : Int32))]))
        refine own_byH (fun _ kS => XS.goto X134.here hx rfl (pc0 := 520) (pc' := 524) rfl (hb hby at_520) (by decide) (by decide) kS) ?_
        show own_ComesH Z p e below s _ _ _ (T134.setTop (mkF m 524 #[.val (.int p0), .val (.int p1), .val (.int p2), .val (.int p3), .val (.int (p0 &&& (7 : Int32))), .val (.int ((p1 &&& (255 : Int32)).toUInt32.toUInt16.toUInt32.toInt32)), .val (.int ((((p1.toUInt32 >>> ((8 : Int32) &&& 31).toUInt32).toInt32) &&& (255 : Int32)).toUInt32.toUInt16.toUInt32.toInt32)), .val (.ref xx), .val (.int (1 : Int32)), .val (.int (0 : Int32)), .val .null, .val w11, .val w12, .val w13, .val w14, .val (.ref b107), .unset] [(.int (1 : Int32))]))
        refine own_byH (fun _ kS => XS.istore X134.here hx rfl (hb hby at_524) rfl (l' := #[.val (.int p0), .val (.int p1), .val (.int p2), .val (.int p3), .val (.int (p0 &&& (7 : Int32))), .val (.int ((p1 &&& (255 : Int32)).toUInt32.toUInt16.toUInt32.toInt32)), .val (.int ((((p1.toUInt32 >>> ((8 : Int32) &&& 31).toUInt32).toInt32) &&& (255 : Int32)).toUInt32.toUInt16.toUInt32.toInt32)), .val (.ref xx), .val (.int (1 : Int32)), .val (.int (0 : Int32)), .val .null, .val w11, .val w12, .val w13, .val w14, .val (.ref b107), .val (.int (1 : Int32))]) rfl kS) ?_
        show own_ComesH Z p e below s _ _ _ (T134.setTop (mkF m 526 #[.val (.int p0), .val (.int p1), .val (.int p2), .val (.int p3), .val (.int (p0 &&& (7 : Int32))), .val (.int ((p1 &&& (255 : Int32)).toUInt32.toUInt16.toUInt32.toInt32)), .val (.int ((((p1.toUInt32 >>> ((8 : Int32) &&& 31).toUInt32).toInt32) &&& (255 : Int32)).toUInt32.toUInt16.toUInt32.toInt32)), .val (.ref xx), .val (.int (1 : Int32)), .val (.int (0 : Int32)), .val .null, .val w11, .val w12, .val w13, .val w14, .val (.ref b107), .val (.int (1 : Int32))] []))
        refine own_byH (fun _ kS => XS.aload X134.here hx rfl (hb hby at_526) rfl rfl kS) ?_
        show own_ComesH Z p e below s _ _ _ (T134.setTop (mkF m 528 #[.val (.int p0), .val (.int p1), .val (.int p2), .val (.int p3), .val (.int (p0 &&& (7 : Int32))), .val (.int ((p1 &&& (255 : Int32)).toUInt32.toUInt16.toUInt32.toInt32)), .val (.int ((((p1.toUInt32 >>> ((8 : Int32) &&& 31).toUInt32).toInt32) &&& (255 : Int32)).toUInt32.toUInt16.toUInt32.toInt32)), .val (.ref xx), .val (.int (1 : Int32)), .val (.int (0 : Int32)), .val .null, .val w11, .val w12, .val w13, .val w14, .val (.ref b107), .val (.int (1 : Int32))] [(.ref b107)]))
        have c153 := (OJ476.ext (own_ext (((((((((Keep.refl _ []).ext E107).ext E109).ext E111).ext E113).ext E115).ext E117).ext E119).trans K134 (allS (Or.inr sz_b107) all0))))
        obtain ⟨cq154, kq154, q154a, q154b, q154c⟩ := isOf hZ119 rfl hEb
        obtain ⟨_, _, ⟨T154, L154, k154, n154⟩, -, Xw154, hs154, gr154, ⟨Lc154, hQ154, l154, y154, z154, CQ154⟩, st154⟩ := X134.virtualBackS hx (y := (⟨"com/example/beija_flor/beijaflor/brcode/BrCode", "isDynamic", "()Z"⟩ : MethodName)) (z := (⟨"com/example/beija_flor/beijaflor/brcode/BrCode", "isDynamic", "()Z"⟩ : MethodName)) hown119 (mvT hZ119 (hw _ (List.mem_of_getElem? (i := 74) rfl))) (mvT hZ119 (hw _ (List.mem_of_getElem? (i := 75) rfl))) (notFace_of_selects (args := #[]) (mvT hZ119 (hw _ (List.mem_of_getElem? (i := 77) rfl)))) (mvT hZ119 (hw _ (List.mem_of_getElem? (i := 77) rfl))) (mvT hZ119 (hw _ (List.mem_of_getElem? (i := 76) rfl))) (by decide) (backOfSH (W := 0) (rm9yn l Z a0 hw [] b107 xx cs zc T134.heap n0 (Nat.le_trans (Nat.le_trans (Nat.le_trans (Nat.le_trans (Nat.le_trans (Nat.le_trans (Nat.le_trans (Nat.le_trans ZJ476 E107.1) E109.1) E111.1) E113.1) E115.1) E117.1) E119.1) K134.1) c153 Fi134 Fu134 Sz hzc hYx hk2) hZ119 (hw _ (List.mem_of_getElem? (i := 78) rfl)) (hw _ (List.mem_of_getElem? (i := 32) rfl)) (by decide) (by decide) hEL CH135.1) q154a q154c (g := (mkF m 528 #[.val (.int p0), .val (.int p1), .val (.int p2), .val (.int p3), .val (.int (p0 &&& (7 : Int32))), .val (.int ((p1 &&& (255 : Int32)).toUInt32.toUInt16.toUInt32.toInt32)), .val (.int ((((p1.toUInt32 >>> ((8 : Int32) &&& 31).toUInt32).toInt32) &&& (255 : Int32)).toUInt32.toUInt16.toUInt32.toInt32)), .val (.ref xx), .val (.int (1 : Int32)), .val (.int (0 : Int32)), .val .null, .val w11, .val w12, .val w13, .val w14, .val (.ref b107), .val (.int (1 : Int32))] [(.ref b107)])) rfl (by rw [hml]; rfl) (Steps.refl _) (argsL := []) (rest := []) (lenOf pd___Z_171 rfl) rfl (by show 2 * 0 + _ ≤ _; exact Nat.le_of_eq rfl) (hb hby at_528) (fun _ _ => ⟨rfl, rfl, (by decide : 36 + 2 ≤ _), (by decide : 149 + 12 ≤ _)⟩)
        dsimp only [Pt.U, Pt.locs, Pt.cells, Pt.slots] at Xw154 l154 y154 z154 st154 hQ154 hs154 gr154 CQ154
        subst l154 y154 z154
        obtain ⟨X154, hS154, hZ154, hown154⟩ := rebS hS119 (Nat.le_trans hk119 K134.1) Xw154 hs154 gr154 hZ119 hown119
        obtain ⟨rfl, N154q⟩ := hQ154
        have N154 := Fr.app N134 N154q
        refine own_trH st154 ?_
        have CR155 := CQ154
        have CH155 := CH135.trans CR155
        show own_ComesH Z p e below s _ _ _ (T154.setTop (mkF m 531 #[.val (.int p0), .val (.int p1), .val (.int p2), .val (.int p3), .val (.int (p0 &&& (7 : Int32))), .val (.int ((p1 &&& (255 : Int32)).toUInt32.toUInt16.toUInt32.toInt32)), .val (.int ((((p1.toUInt32 >>> ((8 : Int32) &&& 31).toUInt32).toInt32) &&& (255 : Int32)).toUInt32.toUInt16.toUInt32.toInt32)), .val (.ref xx), .val (.int (1 : Int32)), .val (.int (0 : Int32)), .val .null, .val w11, .val w12, .val w13, .val w14, .val (.ref b107), .val (.int (1 : Int32))] [(.int (1 : Int32))]))
        refine own_byH (fun _ kS => XS.iload X154.here hx rfl (hb hby at_531) rfl kS) ?_
        show own_ComesH Z p e below s _ _ _ (T154.setTop (mkF m 533 #[.val (.int p0), .val (.int p1), .val (.int p2), .val (.int p3), .val (.int (p0 &&& (7 : Int32))), .val (.int ((p1 &&& (255 : Int32)).toUInt32.toUInt16.toUInt32.toInt32)), .val (.int ((((p1.toUInt32 >>> ((8 : Int32) &&& 31).toUInt32).toInt32) &&& (255 : Int32)).toUInt32.toUInt16.toUInt32.toInt32)), .val (.ref xx), .val (.int (1 : Int32)), .val (.int (0 : Int32)), .val .null, .val w11, .val w12, .val w13, .val w14, .val (.ref b107), .val (.int (1 : Int32))] [(.int (1 : Int32)), (.int (1 : Int32))]))
        have hb156 : (1 : Int32) = (1 : Int32) := by decide
        refine own_byH (fun _ kS => XS.icmpNo X154.here hx rfl (hb hby at_533) rfl (teq hb156).2 kS) ?_
        show own_ComesH Z p e below s _ _ _ (T154.setTop (mkF m 536 #[.val (.int p0), .val (.int p1), .val (.int p2), .val (.int p3), .val (.int (p0 &&& (7 : Int32))), .val (.int ((p1 &&& (255 : Int32)).toUInt32.toUInt16.toUInt32.toInt32)), .val (.int ((((p1.toUInt32 >>> ((8 : Int32) &&& 31).toUInt32).toInt32) &&& (255 : Int32)).toUInt32.toUInt16.toUInt32.toInt32)), .val (.ref xx), .val (.int (1 : Int32)), .val (.int (0 : Int32)), .val .null, .val w11, .val w12, .val w13, .val w14, .val (.ref b107), .val (.int (1 : Int32))] []))
        refine own_byH (fun _ kS => XS.iconst X154.here hx rfl (hb hby at_536) kS) ?_
        show own_ComesH Z p e below s _ _ _ (T154.setTop (mkF m 537 #[.val (.int p0), .val (.int p1), .val (.int p2), .val (.int p3), .val (.int (p0 &&& (7 : Int32))), .val (.int ((p1 &&& (255 : Int32)).toUInt32.toUInt16.toUInt32.toInt32)), .val (.int ((((p1.toUInt32 >>> ((8 : Int32) &&& 31).toUInt32).toInt32) &&& (255 : Int32)).toUInt32.toUInt16.toUInt32.toInt32)), .val (.ref xx), .val (.int (1 : Int32)), .val (.int (0 : Int32)), .val .null, .val w11, .val w12, .val w13, .val w14, .val (.ref b107), .val (.int (1 : Int32))] [(.int (1 : Int32))]))
        refine own_byH (fun _ kS => XS.goto X154.here hx rfl (pc0 := 537) (pc' := 541) rfl (hb hby at_537) (by decide) (by decide) kS) ?_
        show own_ComesH Z p e below s _ _ _ (T154.setTop (mkF m 541 #[.val (.int p0), .val (.int p1), .val (.int p2), .val (.int p3), .val (.int (p0 &&& (7 : Int32))), .val (.int ((p1 &&& (255 : Int32)).toUInt32.toUInt16.toUInt32.toInt32)), .val (.int ((((p1.toUInt32 >>> ((8 : Int32) &&& 31).toUInt32).toInt32) &&& (255 : Int32)).toUInt32.toUInt16.toUInt32.toInt32)), .val (.ref xx), .val (.int (1 : Int32)), .val (.int (0 : Int32)), .val .null, .val w11, .val w12, .val w13, .val w14, .val (.ref b107), .val (.int (1 : Int32))] [(.int (1 : Int32))]))
        have hkr157 := (Nat.le_refl (Array.size T154.heap))
        have hcr157 := CH155.trans (CHv.at X154 hZ154 hEL CH155.1)
        refine own_retH X154 hS154 (by exact hkr157) (by rw [hh]; exact hcr157) (v := some (.int (1 : Int32))) (fun h => by rw [Bd.returns] at h; cases h) Bd.notSynchronized (by decide) (by decide) ?_ (fun fs hr => retN X154 hx (t := .boolean) Bd.returns (by simp) (hb hby at_541) hr)
        exact ⟨rfl, N154⟩
      · show own_ComesH Z p e below s _ _ _ (T134.setTop (mkF m 509 #[.val (.int p0), .val (.int p1), .val (.int p2), .val (.int p3), .val (.int (p0 &&& (7 : Int32))), .val (.int ((p1 &&& (255 : Int32)).toUInt32.toUInt16.toUInt32.toInt32)), .val (.int ((((p1.toUInt32 >>> ((8 : Int32) &&& 31).toUInt32).toInt32) &&& (255 : Int32)).toUInt32.toUInt16.toUInt32.toInt32)), .val (.ref xx), .val (.int (1 : Int32)), .val (.int (1 : Int32)), .val (.ref uu), .val w11, .val w12, .val w13, .val w14, .val (.ref b107), .unset] []))
        refine own_byH (fun _ kS => XS.iload X134.here hx rfl (hb hby at_509) rfl kS) ?_
        show own_ComesH Z p e below s _ _ _ (T134.setTop (mkF m 511 #[.val (.int p0), .val (.int p1), .val (.int p2), .val (.int p3), .val (.int (p0 &&& (7 : Int32))), .val (.int ((p1 &&& (255 : Int32)).toUInt32.toUInt16.toUInt32.toInt32)), .val (.int ((((p1.toUInt32 >>> ((8 : Int32) &&& 31).toUInt32).toInt32) &&& (255 : Int32)).toUInt32.toUInt16.toUInt32.toInt32)), .val (.ref xx), .val (.int (1 : Int32)), .val (.int (1 : Int32)), .val (.ref uu), .val w11, .val w12, .val w13, .val w14, .val (.ref b107), .unset] [(.int (1 : Int32))]))
        have hb158 : ¬ ((1 : Int32) = (0 : Int32)) := by decide
        refine own_byH (fun _ kS => XS.ifYes X134.here hx rfl (pc0 := 511) (pc' := 519) rfl (hb hby at_511) rfl ((if0 _ _).trans (feq hb158).2) (by decide) (by decide) kS) ?_
        show own_ComesH Z p e below s _ _ _ (T134.setTop (mkF m 519 #[.val (.int p0), .val (.int p1), .val (.int p2), .val (.int p3), .val (.int (p0 &&& (7 : Int32))), .val (.int ((p1 &&& (255 : Int32)).toUInt32.toUInt16.toUInt32.toInt32)), .val (.int ((((p1.toUInt32 >>> ((8 : Int32) &&& 31).toUInt32).toInt32) &&& (255 : Int32)).toUInt32.toUInt16.toUInt32.toInt32)), .val (.ref xx), .val (.int (1 : Int32)), .val (.int (1 : Int32)), .val (.ref uu), .val w11, .val w12, .val w13, .val w14, .val (.ref b107), .unset] []))
        refine own_byH (fun _ kS => XS.iconst X134.here hx rfl (hb hby at_519) kS) ?_
        show own_ComesH Z p e below s _ _ _ (T134.setTop (mkF m 520 #[.val (.int p0), .val (.int p1), .val (.int p2), .val (.int p3), .val (.int (p0 &&& (7 : Int32))), .val (.int ((p1 &&& (255 : Int32)).toUInt32.toUInt16.toUInt32.toInt32)), .val (.int ((((p1.toUInt32 >>> ((8 : Int32) &&& 31).toUInt32).toInt32) &&& (255 : Int32)).toUInt32.toUInt16.toUInt32.toInt32)), .val (.ref xx), .val (.int (1 : Int32)), .val (.int (1 : Int32)), .val (.ref uu), .val w11, .val w12, .val w13, .val w14, .val (.ref b107), .unset] [(.int (1 : Int32))]))
        refine own_byH (fun _ kS => XS.goto X134.here hx rfl (pc0 := 520) (pc' := 524) rfl (hb hby at_520) (by decide) (by decide) kS) ?_
        show own_ComesH Z p e below s _ _ _ (T134.setTop (mkF m 524 #[.val (.int p0), .val (.int p1), .val (.int p2), .val (.int p3), .val (.int (p0 &&& (7 : Int32))), .val (.int ((p1 &&& (255 : Int32)).toUInt32.toUInt16.toUInt32.toInt32)), .val (.int ((((p1.toUInt32 >>> ((8 : Int32) &&& 31).toUInt32).toInt32) &&& (255 : Int32)).toUInt32.toUInt16.toUInt32.toInt32)), .val (.ref xx), .val (.int (1 : Int32)), .val (.int (1 : Int32)), .val (.ref uu), .val w11, .val w12, .val w13, .val w14, .val (.ref b107), .unset] [(.int (1 : Int32))]))
        refine own_byH (fun _ kS => XS.istore X134.here hx rfl (hb hby at_524) rfl (l' := #[.val (.int p0), .val (.int p1), .val (.int p2), .val (.int p3), .val (.int (p0 &&& (7 : Int32))), .val (.int ((p1 &&& (255 : Int32)).toUInt32.toUInt16.toUInt32.toInt32)), .val (.int ((((p1.toUInt32 >>> ((8 : Int32) &&& 31).toUInt32).toInt32) &&& (255 : Int32)).toUInt32.toUInt16.toUInt32.toInt32)), .val (.ref xx), .val (.int (1 : Int32)), .val (.int (1 : Int32)), .val (.ref uu), .val w11, .val w12, .val w13, .val w14, .val (.ref b107), .val (.int (1 : Int32))]) rfl kS) ?_
        show own_ComesH Z p e below s _ _ _ (T134.setTop (mkF m 526 #[.val (.int p0), .val (.int p1), .val (.int p2), .val (.int p3), .val (.int (p0 &&& (7 : Int32))), .val (.int ((p1 &&& (255 : Int32)).toUInt32.toUInt16.toUInt32.toInt32)), .val (.int ((((p1.toUInt32 >>> ((8 : Int32) &&& 31).toUInt32).toInt32) &&& (255 : Int32)).toUInt32.toUInt16.toUInt32.toInt32)), .val (.ref xx), .val (.int (1 : Int32)), .val (.int (1 : Int32)), .val (.ref uu), .val w11, .val w12, .val w13, .val w14, .val (.ref b107), .val (.int (1 : Int32))] []))
        refine own_byH (fun _ kS => XS.aload X134.here hx rfl (hb hby at_526) rfl rfl kS) ?_
        show own_ComesH Z p e below s _ _ _ (T134.setTop (mkF m 528 #[.val (.int p0), .val (.int p1), .val (.int p2), .val (.int p3), .val (.int (p0 &&& (7 : Int32))), .val (.int ((p1 &&& (255 : Int32)).toUInt32.toUInt16.toUInt32.toInt32)), .val (.int ((((p1.toUInt32 >>> ((8 : Int32) &&& 31).toUInt32).toInt32) &&& (255 : Int32)).toUInt32.toUInt16.toUInt32.toInt32)), .val (.ref xx), .val (.int (1 : Int32)), .val (.int (1 : Int32)), .val (.ref uu), .val w11, .val w12, .val w13, .val w14, .val (.ref b107), .val (.int (1 : Int32))] [(.ref b107)]))
        have c159 := (OJ476.ext (own_ext (((((((((Keep.refl _ []).ext E107).ext E109).ext E111).ext E113).ext E115).ext E117).ext E119).trans K134 (allS (Or.inr sz_b107) all0))))
        obtain ⟨cq160, kq160, q160a, q160b, q160c⟩ := isOf hZ119 rfl hEb
        obtain ⟨_, _, ⟨T160, L160, k160, n160⟩, -, Xw160, hs160, gr160, ⟨Lc160, hQ160, l160, y160, z160, CQ160⟩, st160⟩ := X134.virtualBackS hx (y := (⟨"com/example/beija_flor/beijaflor/brcode/BrCode", "isDynamic", "()Z"⟩ : MethodName)) (z := (⟨"com/example/beija_flor/beijaflor/brcode/BrCode", "isDynamic", "()Z"⟩ : MethodName)) hown119 (mvT hZ119 (hw _ (List.mem_of_getElem? (i := 74) rfl))) (mvT hZ119 (hw _ (List.mem_of_getElem? (i := 75) rfl))) (notFace_of_selects (args := #[]) (mvT hZ119 (hw _ (List.mem_of_getElem? (i := 77) rfl)))) (mvT hZ119 (hw _ (List.mem_of_getElem? (i := 77) rfl))) (mvT hZ119 (hw _ (List.mem_of_getElem? (i := 76) rfl))) (by decide) (backOfSH (W := 0) (rm9yr l Z a0 hw [] b107 xx cs uu zc T134.heap n0 (Nat.le_trans (Nat.le_trans (Nat.le_trans (Nat.le_trans (Nat.le_trans (Nat.le_trans (Nat.le_trans (Nat.le_trans ZJ476 E107.1) E109.1) E111.1) E113.1) E115.1) E117.1) E119.1) K134.1) c159 Fi134 Fu134 Sz hzc hYx hk2) hZ119 (hw _ (List.mem_of_getElem? (i := 78) rfl)) (hw _ (List.mem_of_getElem? (i := 32) rfl)) (by decide) (by decide) hEL CH135.1) q160a q160c (g := (mkF m 528 #[.val (.int p0), .val (.int p1), .val (.int p2), .val (.int p3), .val (.int (p0 &&& (7 : Int32))), .val (.int ((p1 &&& (255 : Int32)).toUInt32.toUInt16.toUInt32.toInt32)), .val (.int ((((p1.toUInt32 >>> ((8 : Int32) &&& 31).toUInt32).toInt32) &&& (255 : Int32)).toUInt32.toUInt16.toUInt32.toInt32)), .val (.ref xx), .val (.int (1 : Int32)), .val (.int (1 : Int32)), .val (.ref uu), .val w11, .val w12, .val w13, .val w14, .val (.ref b107), .val (.int (1 : Int32))] [(.ref b107)])) rfl (by rw [hml]; rfl) (Steps.refl _) (argsL := []) (rest := []) (lenOf pd___Z_171 rfl) rfl (by show 2 * 0 + _ ≤ _; exact Nat.le_of_eq rfl) (hb hby at_528) (fun _ _ => ⟨rfl, rfl, (by decide : 36 + 2 ≤ _), (by decide : 149 + 12 ≤ _)⟩)
        dsimp only [Pt.U, Pt.locs, Pt.cells, Pt.slots] at Xw160 l160 y160 z160 st160 hQ160 hs160 gr160 CQ160
        subst l160 y160 z160
        obtain ⟨X160, hS160, hZ160, hown160⟩ := rebS hS119 (Nat.le_trans hk119 K134.1) Xw160 hs160 gr160 hZ119 hown119
        obtain ⟨rfl, N160q⟩ := hQ160
        have N160 := Fr.app N134 N160q
        refine own_trH st160 ?_
        have CR161 := CQ160
        have CH161 := CH135.trans CR161
        show own_ComesH Z p e below s _ _ _ (T160.setTop (mkF m 531 #[.val (.int p0), .val (.int p1), .val (.int p2), .val (.int p3), .val (.int (p0 &&& (7 : Int32))), .val (.int ((p1 &&& (255 : Int32)).toUInt32.toUInt16.toUInt32.toInt32)), .val (.int ((((p1.toUInt32 >>> ((8 : Int32) &&& 31).toUInt32).toInt32) &&& (255 : Int32)).toUInt32.toUInt16.toUInt32.toInt32)), .val (.ref xx), .val (.int (1 : Int32)), .val (.int (1 : Int32)), .val (.ref uu), .val w11, .val w12, .val w13, .val w14, .val (.ref b107), .val (.int (1 : Int32))] [(.int (1 : Int32))]))
        refine own_byH (fun _ kS => XS.iload X160.here hx rfl (hb hby at_531) rfl kS) ?_
        show own_ComesH Z p e below s _ _ _ (T160.setTop (mkF m 533 #[.val (.int p0), .val (.int p1), .val (.int p2), .val (.int p3), .val (.int (p0 &&& (7 : Int32))), .val (.int ((p1 &&& (255 : Int32)).toUInt32.toUInt16.toUInt32.toInt32)), .val (.int ((((p1.toUInt32 >>> ((8 : Int32) &&& 31).toUInt32).toInt32) &&& (255 : Int32)).toUInt32.toUInt16.toUInt32.toInt32)), .val (.ref xx), .val (.int (1 : Int32)), .val (.int (1 : Int32)), .val (.ref uu), .val w11, .val w12, .val w13, .val w14, .val (.ref b107), .val (.int (1 : Int32))] [(.int (1 : Int32)), (.int (1 : Int32))]))
        have hb162 : (1 : Int32) = (1 : Int32) := by decide
        refine own_byH (fun _ kS => XS.icmpNo X160.here hx rfl (hb hby at_533) rfl (teq hb162).2 kS) ?_
        show own_ComesH Z p e below s _ _ _ (T160.setTop (mkF m 536 #[.val (.int p0), .val (.int p1), .val (.int p2), .val (.int p3), .val (.int (p0 &&& (7 : Int32))), .val (.int ((p1 &&& (255 : Int32)).toUInt32.toUInt16.toUInt32.toInt32)), .val (.int ((((p1.toUInt32 >>> ((8 : Int32) &&& 31).toUInt32).toInt32) &&& (255 : Int32)).toUInt32.toUInt16.toUInt32.toInt32)), .val (.ref xx), .val (.int (1 : Int32)), .val (.int (1 : Int32)), .val (.ref uu), .val w11, .val w12, .val w13, .val w14, .val (.ref b107), .val (.int (1 : Int32))] []))
        refine own_byH (fun _ kS => XS.iconst X160.here hx rfl (hb hby at_536) kS) ?_
        show own_ComesH Z p e below s _ _ _ (T160.setTop (mkF m 537 #[.val (.int p0), .val (.int p1), .val (.int p2), .val (.int p3), .val (.int (p0 &&& (7 : Int32))), .val (.int ((p1 &&& (255 : Int32)).toUInt32.toUInt16.toUInt32.toInt32)), .val (.int ((((p1.toUInt32 >>> ((8 : Int32) &&& 31).toUInt32).toInt32) &&& (255 : Int32)).toUInt32.toUInt16.toUInt32.toInt32)), .val (.ref xx), .val (.int (1 : Int32)), .val (.int (1 : Int32)), .val (.ref uu), .val w11, .val w12, .val w13, .val w14, .val (.ref b107), .val (.int (1 : Int32))] [(.int (1 : Int32))]))
        refine own_byH (fun _ kS => XS.goto X160.here hx rfl (pc0 := 537) (pc' := 541) rfl (hb hby at_537) (by decide) (by decide) kS) ?_
        show own_ComesH Z p e below s _ _ _ (T160.setTop (mkF m 541 #[.val (.int p0), .val (.int p1), .val (.int p2), .val (.int p3), .val (.int (p0 &&& (7 : Int32))), .val (.int ((p1 &&& (255 : Int32)).toUInt32.toUInt16.toUInt32.toInt32)), .val (.int ((((p1.toUInt32 >>> ((8 : Int32) &&& 31).toUInt32).toInt32) &&& (255 : Int32)).toUInt32.toUInt16.toUInt32.toInt32)), .val (.ref xx), .val (.int (1 : Int32)), .val (.int (1 : Int32)), .val (.ref uu), .val w11, .val w12, .val w13, .val w14, .val (.ref b107), .val (.int (1 : Int32))] [(.int (1 : Int32))]))
        have hkr163 := (Nat.le_refl (Array.size T160.heap))
        have hcr163 := CH161.trans (CHv.at X160 hZ160 hEL CH161.1)
        refine own_retH X160 hS160 (by exact hkr163) (by rw [hh]; exact hcr163) (v := some (.int (1 : Int32))) (fun h => by rw [Bd.returns] at h; cases h) Bd.notSynchronized (by decide) (by decide) ?_ (fun fs hr => retN X160 hx (t := .boolean) Bd.returns (by simp) (hb hby at_541) hr)
        exact ⟨rfl, N160⟩
    · rcases hU with ⟨rfl, rfl⟩ | ⟨uu, rfl, rfl⟩
      · show own_ComesH Z p e below s _ _ _ (T134.setTop (mkF m 509 #[.val (.int p0), .val (.int p1), .val (.int p2), .val (.int p3), .val (.int (p0 &&& (7 : Int32))), .val (.int ((p1 &&& (255 : Int32)).toUInt32.toUInt16.toUInt32.toInt32)), .val (.int ((((p1.toUInt32 >>> ((8 : Int32) &&& 31).toUInt32).toInt32) &&& (255 : Int32)).toUInt32.toUInt16.toUInt32.toInt32)), .val (.ref xx), .val (.int (0 : Int32)), .val (.int (0 : Int32)), .val .null, .val w11, .val w12, .val w13, .val w14, .val (.ref b107), .unset] []))
        refine own_byH (fun _ kS => XS.iload X134.here hx rfl (hb hby at_509) rfl kS) ?_
        show own_ComesH Z p e below s _ _ _ (T134.setTop (mkF m 511 #[.val (.int p0), .val (.int p1), .val (.int p2), .val (.int p3), .val (.int (p0 &&& (7 : Int32))), .val (.int ((p1 &&& (255 : Int32)).toUInt32.toUInt16.toUInt32.toInt32)), .val (.int ((((p1.toUInt32 >>> ((8 : Int32) &&& 31).toUInt32).toInt32) &&& (255 : Int32)).toUInt32.toUInt16.toUInt32.toInt32)), .val (.ref xx), .val (.int (0 : Int32)), .val (.int (0 : Int32)), .val .null, .val w11, .val w12, .val w13, .val w14, .val (.ref b107), .unset] [(.int (0 : Int32))]))
        have hb164 : (0 : Int32) = (0 : Int32) := by decide
        refine own_byH (fun _ kS => XS.ifNo X134.here hx rfl (hb hby at_511) rfl ((if0 _ _).trans (teq hb164).2) kS) ?_
        show own_ComesH Z p e below s _ _ _ (T134.setTop (mkF m 514 #[.val (.int p0), .val (.int p1), .val (.int p2), .val (.int p3), .val (.int (p0 &&& (7 : Int32))), .val (.int ((p1 &&& (255 : Int32)).toUInt32.toUInt16.toUInt32.toInt32)), .val (.int ((((p1.toUInt32 >>> ((8 : Int32) &&& 31).toUInt32).toInt32) &&& (255 : Int32)).toUInt32.toUInt16.toUInt32.toInt32)), .val (.ref xx), .val (.int (0 : Int32)), .val (.int (0 : Int32)), .val .null, .val w11, .val w12, .val w13, .val w14, .val (.ref b107), .unset] []))
        refine own_byH (fun _ kS => XS.iload X134.here hx rfl (hb hby at_514) rfl kS) ?_
        show own_ComesH Z p e below s _ _ _ (T134.setTop (mkF m 516 #[.val (.int p0), .val (.int p1), .val (.int p2), .val (.int p3), .val (.int (p0 &&& (7 : Int32))), .val (.int ((p1 &&& (255 : Int32)).toUInt32.toUInt16.toUInt32.toInt32)), .val (.int ((((p1.toUInt32 >>> ((8 : Int32) &&& 31).toUInt32).toInt32) &&& (255 : Int32)).toUInt32.toUInt16.toUInt32.toInt32)), .val (.ref xx), .val (.int (0 : Int32)), .val (.int (0 : Int32)), .val .null, .val w11, .val w12, .val w13, .val w14, .val (.ref b107), .unset] [(.int (0 : Int32))]))
        have hb165 : (0 : Int32) = (0 : Int32) := by decide
        refine own_byH (fun _ kS => XS.ifYes X134.here hx rfl (pc0 := 516) (pc' := 523) rfl (hb hby at_516) rfl ((if0 _ _).trans (teq hb165).1) (by decide) (by decide) kS) ?_
        show own_ComesH Z p e below s _ _ _ (T134.setTop (mkF m 523 #[.val (.int p0), .val (.int p1), .val (.int p2), .val (.int p3), .val (.int (p0 &&& (7 : Int32))), .val (.int ((p1 &&& (255 : Int32)).toUInt32.toUInt16.toUInt32.toInt32)), .val (.int ((((p1.toUInt32 >>> ((8 : Int32) &&& 31).toUInt32).toInt32) &&& (255 : Int32)).toUInt32.toUInt16.toUInt32.toInt32)), .val (.ref xx), .val (.int (0 : Int32)), .val (.int (0 : Int32)), .val .null, .val w11, .val w12, .val w13, .val w14, .val (.ref b107), .unset] []))
        refine own_byH (fun _ kS => XS.iconst X134.here hx rfl (hb hby at_523) kS) ?_
        show own_ComesH Z p e below s _ _ _ (T134.setTop (mkF m 524 #[.val (.int p0), .val (.int p1), .val (.int p2), .val (.int p3), .val (.int (p0 &&& (7 : Int32))), .val (.int ((p1 &&& (255 : Int32)).toUInt32.toUInt16.toUInt32.toInt32)), .val (.int ((((p1.toUInt32 >>> ((8 : Int32) &&& 31).toUInt32).toInt32) &&& (255 : Int32)).toUInt32.toUInt16.toUInt32.toInt32)), .val (.ref xx), .val (.int (0 : Int32)), .val (.int (0 : Int32)), .val .null, .val w11, .val w12, .val w13, .val w14, .val (.ref b107), .unset] [(.int (0 : Int32))]))
        refine own_byH (fun _ kS => XS.istore X134.here hx rfl (hb hby at_524) rfl (l' := #[.val (.int p0), .val (.int p1), .val (.int p2), .val (.int p3), .val (.int (p0 &&& (7 : Int32))), .val (.int ((p1 &&& (255 : Int32)).toUInt32.toUInt16.toUInt32.toInt32)), .val (.int ((((p1.toUInt32 >>> ((8 : Int32) &&& 31).toUInt32).toInt32) &&& (255 : Int32)).toUInt32.toUInt16.toUInt32.toInt32)), .val (.ref xx), .val (.int (0 : Int32)), .val (.int (0 : Int32)), .val .null, .val w11, .val w12, .val w13, .val w14, .val (.ref b107), .val (.int (0 : Int32))]) rfl kS) ?_
        show own_ComesH Z p e below s _ _ _ (T134.setTop (mkF m 526 #[.val (.int p0), .val (.int p1), .val (.int p2), .val (.int p3), .val (.int (p0 &&& (7 : Int32))), .val (.int ((p1 &&& (255 : Int32)).toUInt32.toUInt16.toUInt32.toInt32)), .val (.int ((((p1.toUInt32 >>> ((8 : Int32) &&& 31).toUInt32).toInt32) &&& (255 : Int32)).toUInt32.toUInt16.toUInt32.toInt32)), .val (.ref xx), .val (.int (0 : Int32)), .val (.int (0 : Int32)), .val .null, .val w11, .val w12, .val w13, .val w14, .val (.ref b107), .val (.int (0 : Int32))] []))
        refine own_byH (fun _ kS => XS.aload X134.here hx rfl (hb hby at_526) rfl rfl kS) ?_
        show own_ComesH Z p e below s _ _ _ (T134.setTop (mkF m 528 #[.val (.int p0), .val (.int p1), .val (.int p2), .val (.int p3), .val (.int (p0 &&& (7 : Int32))), .val (.int ((p1 &&& (255 : Int32)).toUInt32.toUInt16.toUInt32.toInt32)), .val (.int ((((p1.toUInt32 >>> ((8 : Int32) &&& 31).toUInt32).toInt32) &&& (255 : Int32)).toUInt32.toUInt16.toUInt32.toInt32)), .val (.ref xx), .val (.int (0 : Int32)), .val (.int (0 : Int32)), .val .null, .val w11, .val w12, .val w13, .val w14, .val (.ref b107), .val (.int (0 : Int32))] [(.ref b107)]))
        have c166 := (OJ476.ext (own_ext (((((((((Keep.refl _ []).ext E107).ext E109).ext E111).ext E113).ext E115).ext E117).ext E119).trans K134 (allS (Or.inr sz_b107) all0))))
        obtain ⟨cq167, kq167, q167a, q167b, q167c⟩ := isOf hZ119 rfl hEb
        obtain ⟨_, _, ⟨T167, L167, k167, n167⟩, -, Xw167, hs167, gr167, ⟨Lc167, hQ167, l167, y167, z167, CQ167⟩, st167⟩ := X134.virtualBackS hx (y := (⟨"com/example/beija_flor/beijaflor/brcode/BrCode", "isDynamic", "()Z"⟩ : MethodName)) (z := (⟨"com/example/beija_flor/beijaflor/brcode/BrCode", "isDynamic", "()Z"⟩ : MethodName)) hown119 (mvT hZ119 (hw _ (List.mem_of_getElem? (i := 74) rfl))) (mvT hZ119 (hw _ (List.mem_of_getElem? (i := 75) rfl))) (notFace_of_selects (args := #[]) (mvT hZ119 (hw _ (List.mem_of_getElem? (i := 77) rfl)))) (mvT hZ119 (hw _ (List.mem_of_getElem? (i := 77) rfl))) (mvT hZ119 (hw _ (List.mem_of_getElem? (i := 76) rfl))) (by decide) (backOfSH (W := 0) (rm9on l Z a0 hw [] b107 xx cs zc T134.heap n0 (Nat.le_trans (Nat.le_trans (Nat.le_trans (Nat.le_trans (Nat.le_trans (Nat.le_trans (Nat.le_trans (Nat.le_trans ZJ476 E107.1) E109.1) E111.1) E113.1) E115.1) E117.1) E119.1) K134.1) c166 Fi134 Fu134 Sz hzc hYx hk2) hZ119 (hw _ (List.mem_of_getElem? (i := 78) rfl)) (hw _ (List.mem_of_getElem? (i := 32) rfl)) (by decide) (by decide) hEL CH135.1) q167a q167c (g := (mkF m 528 #[.val (.int p0), .val (.int p1), .val (.int p2), .val (.int p3), .val (.int (p0 &&& (7 : Int32))), .val (.int ((p1 &&& (255 : Int32)).toUInt32.toUInt16.toUInt32.toInt32)), .val (.int ((((p1.toUInt32 >>> ((8 : Int32) &&& 31).toUInt32).toInt32) &&& (255 : Int32)).toUInt32.toUInt16.toUInt32.toInt32)), .val (.ref xx), .val (.int (0 : Int32)), .val (.int (0 : Int32)), .val .null, .val w11, .val w12, .val w13, .val w14, .val (.ref b107), .val (.int (0 : Int32))] [(.ref b107)])) rfl (by rw [hml]; rfl) (Steps.refl _) (argsL := []) (rest := []) (lenOf pd___Z_171 rfl) rfl (by show 2 * 0 + _ ≤ _; exact Nat.le_of_eq rfl) (hb hby at_528) (fun _ _ => ⟨rfl, rfl, (by decide : 36 + 2 ≤ _), (by decide : 149 + 12 ≤ _)⟩)
        dsimp only [Pt.U, Pt.locs, Pt.cells, Pt.slots] at Xw167 l167 y167 z167 st167 hQ167 hs167 gr167 CQ167
        subst l167 y167 z167
        obtain ⟨X167, hS167, hZ167, hown167⟩ := rebS hS119 (Nat.le_trans hk119 K134.1) Xw167 hs167 gr167 hZ119 hown119
        obtain ⟨rfl, N167q⟩ := hQ167
        have N167 := Fr.app N134 N167q
        refine own_trH st167 ?_
        have CR168 := CQ167
        have CH168 := CH135.trans CR168
        show own_ComesH Z p e below s _ _ _ (T167.setTop (mkF m 531 #[.val (.int p0), .val (.int p1), .val (.int p2), .val (.int p3), .val (.int (p0 &&& (7 : Int32))), .val (.int ((p1 &&& (255 : Int32)).toUInt32.toUInt16.toUInt32.toInt32)), .val (.int ((((p1.toUInt32 >>> ((8 : Int32) &&& 31).toUInt32).toInt32) &&& (255 : Int32)).toUInt32.toUInt16.toUInt32.toInt32)), .val (.ref xx), .val (.int (0 : Int32)), .val (.int (0 : Int32)), .val .null, .val w11, .val w12, .val w13, .val w14, .val (.ref b107), .val (.int (0 : Int32))] [(.int (0 : Int32))]))
        refine own_byH (fun _ kS => XS.iload X167.here hx rfl (hb hby at_531) rfl kS) ?_
        show own_ComesH Z p e below s _ _ _ (T167.setTop (mkF m 533 #[.val (.int p0), .val (.int p1), .val (.int p2), .val (.int p3), .val (.int (p0 &&& (7 : Int32))), .val (.int ((p1 &&& (255 : Int32)).toUInt32.toUInt16.toUInt32.toInt32)), .val (.int ((((p1.toUInt32 >>> ((8 : Int32) &&& 31).toUInt32).toInt32) &&& (255 : Int32)).toUInt32.toUInt16.toUInt32.toInt32)), .val (.ref xx), .val (.int (0 : Int32)), .val (.int (0 : Int32)), .val .null, .val w11, .val w12, .val w13, .val w14, .val (.ref b107), .val (.int (0 : Int32))] [(.int (0 : Int32)), (.int (0 : Int32))]))
        have hb169 : (0 : Int32) = (0 : Int32) := by decide
        refine own_byH (fun _ kS => XS.icmpNo X167.here hx rfl (hb hby at_533) rfl (teq hb169).2 kS) ?_
        show own_ComesH Z p e below s _ _ _ (T167.setTop (mkF m 536 #[.val (.int p0), .val (.int p1), .val (.int p2), .val (.int p3), .val (.int (p0 &&& (7 : Int32))), .val (.int ((p1 &&& (255 : Int32)).toUInt32.toUInt16.toUInt32.toInt32)), .val (.int ((((p1.toUInt32 >>> ((8 : Int32) &&& 31).toUInt32).toInt32) &&& (255 : Int32)).toUInt32.toUInt16.toUInt32.toInt32)), .val (.ref xx), .val (.int (0 : Int32)), .val (.int (0 : Int32)), .val .null, .val w11, .val w12, .val w13, .val w14, .val (.ref b107), .val (.int (0 : Int32))] []))
        refine own_byH (fun _ kS => XS.iconst X167.here hx rfl (hb hby at_536) kS) ?_
        show own_ComesH Z p e below s _ _ _ (T167.setTop (mkF m 537 #[.val (.int p0), .val (.int p1), .val (.int p2), .val (.int p3), .val (.int (p0 &&& (7 : Int32))), .val (.int ((p1 &&& (255 : Int32)).toUInt32.toUInt16.toUInt32.toInt32)), .val (.int ((((p1.toUInt32 >>> ((8 : Int32) &&& 31).toUInt32).toInt32) &&& (255 : Int32)).toUInt32.toUInt16.toUInt32.toInt32)), .val (.ref xx), .val (.int (0 : Int32)), .val (.int (0 : Int32)), .val .null, .val w11, .val w12, .val w13, .val w14, .val (.ref b107), .val (.int (0 : Int32))] [(.int (1 : Int32))]))
        refine own_byH (fun _ kS => XS.goto X167.here hx rfl (pc0 := 537) (pc' := 541) rfl (hb hby at_537) (by decide) (by decide) kS) ?_
        show own_ComesH Z p e below s _ _ _ (T167.setTop (mkF m 541 #[.val (.int p0), .val (.int p1), .val (.int p2), .val (.int p3), .val (.int (p0 &&& (7 : Int32))), .val (.int ((p1 &&& (255 : Int32)).toUInt32.toUInt16.toUInt32.toInt32)), .val (.int ((((p1.toUInt32 >>> ((8 : Int32) &&& 31).toUInt32).toInt32) &&& (255 : Int32)).toUInt32.toUInt16.toUInt32.toInt32)), .val (.ref xx), .val (.int (0 : Int32)), .val (.int (0 : Int32)), .val .null, .val w11, .val w12, .val w13, .val w14, .val (.ref b107), .val (.int (0 : Int32))] [(.int (1 : Int32))]))
        have hkr170 := (Nat.le_refl (Array.size T167.heap))
        have hcr170 := CH168.trans (CHv.at X167 hZ167 hEL CH168.1)
        refine own_retH X167 hS167 (by exact hkr170) (by rw [hh]; exact hcr170) (v := some (.int (1 : Int32))) (fun h => by rw [Bd.returns] at h; cases h) Bd.notSynchronized (by decide) (by decide) ?_ (fun fs hr => retN X167 hx (t := .boolean) Bd.returns (by simp) (hb hby at_541) hr)
        exact ⟨rfl, N167⟩
      · show own_ComesH Z p e below s _ _ _ (T134.setTop (mkF m 509 #[.val (.int p0), .val (.int p1), .val (.int p2), .val (.int p3), .val (.int (p0 &&& (7 : Int32))), .val (.int ((p1 &&& (255 : Int32)).toUInt32.toUInt16.toUInt32.toInt32)), .val (.int ((((p1.toUInt32 >>> ((8 : Int32) &&& 31).toUInt32).toInt32) &&& (255 : Int32)).toUInt32.toUInt16.toUInt32.toInt32)), .val (.ref xx), .val (.int (0 : Int32)), .val (.int (1 : Int32)), .val (.ref uu), .val w11, .val w12, .val w13, .val w14, .val (.ref b107), .unset] []))
        refine own_byH (fun _ kS => XS.iload X134.here hx rfl (hb hby at_509) rfl kS) ?_
        show own_ComesH Z p e below s _ _ _ (T134.setTop (mkF m 511 #[.val (.int p0), .val (.int p1), .val (.int p2), .val (.int p3), .val (.int (p0 &&& (7 : Int32))), .val (.int ((p1 &&& (255 : Int32)).toUInt32.toUInt16.toUInt32.toInt32)), .val (.int ((((p1.toUInt32 >>> ((8 : Int32) &&& 31).toUInt32).toInt32) &&& (255 : Int32)).toUInt32.toUInt16.toUInt32.toInt32)), .val (.ref xx), .val (.int (0 : Int32)), .val (.int (1 : Int32)), .val (.ref uu), .val w11, .val w12, .val w13, .val w14, .val (.ref b107), .unset] [(.int (0 : Int32))]))
        have hb171 : (0 : Int32) = (0 : Int32) := by decide
        refine own_byH (fun _ kS => XS.ifNo X134.here hx rfl (hb hby at_511) rfl ((if0 _ _).trans (teq hb171).2) kS) ?_
        show own_ComesH Z p e below s _ _ _ (T134.setTop (mkF m 514 #[.val (.int p0), .val (.int p1), .val (.int p2), .val (.int p3), .val (.int (p0 &&& (7 : Int32))), .val (.int ((p1 &&& (255 : Int32)).toUInt32.toUInt16.toUInt32.toInt32)), .val (.int ((((p1.toUInt32 >>> ((8 : Int32) &&& 31).toUInt32).toInt32) &&& (255 : Int32)).toUInt32.toUInt16.toUInt32.toInt32)), .val (.ref xx), .val (.int (0 : Int32)), .val (.int (1 : Int32)), .val (.ref uu), .val w11, .val w12, .val w13, .val w14, .val (.ref b107), .unset] []))
        refine own_byH (fun _ kS => XS.iload X134.here hx rfl (hb hby at_514) rfl kS) ?_
        show own_ComesH Z p e below s _ _ _ (T134.setTop (mkF m 516 #[.val (.int p0), .val (.int p1), .val (.int p2), .val (.int p3), .val (.int (p0 &&& (7 : Int32))), .val (.int ((p1 &&& (255 : Int32)).toUInt32.toUInt16.toUInt32.toInt32)), .val (.int ((((p1.toUInt32 >>> ((8 : Int32) &&& 31).toUInt32).toInt32) &&& (255 : Int32)).toUInt32.toUInt16.toUInt32.toInt32)), .val (.ref xx), .val (.int (0 : Int32)), .val (.int (1 : Int32)), .val (.ref uu), .val w11, .val w12, .val w13, .val w14, .val (.ref b107), .unset] [(.int (1 : Int32))]))
        have hb172 : ¬ ((1 : Int32) = (0 : Int32)) := by decide
        refine own_byH (fun _ kS => XS.ifNo X134.here hx rfl (hb hby at_516) rfl ((if0 _ _).trans (feq hb172).1) kS) ?_
        show own_ComesH Z p e below s _ _ _ (T134.setTop (mkF m 519 #[.val (.int p0), .val (.int p1), .val (.int p2), .val (.int p3), .val (.int (p0 &&& (7 : Int32))), .val (.int ((p1 &&& (255 : Int32)).toUInt32.toUInt16.toUInt32.toInt32)), .val (.int ((((p1.toUInt32 >>> ((8 : Int32) &&& 31).toUInt32).toInt32) &&& (255 : Int32)).toUInt32.toUInt16.toUInt32.toInt32)), .val (.ref xx), .val (.int (0 : Int32)), .val (.int (1 : Int32)), .val (.ref uu), .val w11, .val w12, .val w13, .val w14, .val (.ref b107), .unset] []))
        refine own_byH (fun _ kS => XS.iconst X134.here hx rfl (hb hby at_519) kS) ?_
        show own_ComesH Z p e below s _ _ _ (T134.setTop (mkF m 520 #[.val (.int p0), .val (.int p1), .val (.int p2), .val (.int p3), .val (.int (p0 &&& (7 : Int32))), .val (.int ((p1 &&& (255 : Int32)).toUInt32.toUInt16.toUInt32.toInt32)), .val (.int ((((p1.toUInt32 >>> ((8 : Int32) &&& 31).toUInt32).toInt32) &&& (255 : Int32)).toUInt32.toUInt16.toUInt32.toInt32)), .val (.ref xx), .val (.int (0 : Int32)), .val (.int (1 : Int32)), .val (.ref uu), .val w11, .val w12, .val w13, .val w14, .val (.ref b107), .unset] [(.int (1 : Int32))]))
        refine own_byH (fun _ kS => XS.goto X134.here hx rfl (pc0 := 520) (pc' := 524) rfl (hb hby at_520) (by decide) (by decide) kS) ?_
        show own_ComesH Z p e below s _ _ _ (T134.setTop (mkF m 524 #[.val (.int p0), .val (.int p1), .val (.int p2), .val (.int p3), .val (.int (p0 &&& (7 : Int32))), .val (.int ((p1 &&& (255 : Int32)).toUInt32.toUInt16.toUInt32.toInt32)), .val (.int ((((p1.toUInt32 >>> ((8 : Int32) &&& 31).toUInt32).toInt32) &&& (255 : Int32)).toUInt32.toUInt16.toUInt32.toInt32)), .val (.ref xx), .val (.int (0 : Int32)), .val (.int (1 : Int32)), .val (.ref uu), .val w11, .val w12, .val w13, .val w14, .val (.ref b107), .unset] [(.int (1 : Int32))]))
        refine own_byH (fun _ kS => XS.istore X134.here hx rfl (hb hby at_524) rfl (l' := #[.val (.int p0), .val (.int p1), .val (.int p2), .val (.int p3), .val (.int (p0 &&& (7 : Int32))), .val (.int ((p1 &&& (255 : Int32)).toUInt32.toUInt16.toUInt32.toInt32)), .val (.int ((((p1.toUInt32 >>> ((8 : Int32) &&& 31).toUInt32).toInt32) &&& (255 : Int32)).toUInt32.toUInt16.toUInt32.toInt32)), .val (.ref xx), .val (.int (0 : Int32)), .val (.int (1 : Int32)), .val (.ref uu), .val w11, .val w12, .val w13, .val w14, .val (.ref b107), .val (.int (1 : Int32))]) rfl kS) ?_
        show own_ComesH Z p e below s _ _ _ (T134.setTop (mkF m 526 #[.val (.int p0), .val (.int p1), .val (.int p2), .val (.int p3), .val (.int (p0 &&& (7 : Int32))), .val (.int ((p1 &&& (255 : Int32)).toUInt32.toUInt16.toUInt32.toInt32)), .val (.int ((((p1.toUInt32 >>> ((8 : Int32) &&& 31).toUInt32).toInt32) &&& (255 : Int32)).toUInt32.toUInt16.toUInt32.toInt32)), .val (.ref xx), .val (.int (0 : Int32)), .val (.int (1 : Int32)), .val (.ref uu), .val w11, .val w12, .val w13, .val w14, .val (.ref b107), .val (.int (1 : Int32))] []))
        refine own_byH (fun _ kS => XS.aload X134.here hx rfl (hb hby at_526) rfl rfl kS) ?_
        show own_ComesH Z p e below s _ _ _ (T134.setTop (mkF m 528 #[.val (.int p0), .val (.int p1), .val (.int p2), .val (.int p3), .val (.int (p0 &&& (7 : Int32))), .val (.int ((p1 &&& (255 : Int32)).toUInt32.toUInt16.toUInt32.toInt32)), .val (.int ((((p1.toUInt32 >>> ((8 : Int32) &&& 31).toUInt32).toInt32) &&& (255 : Int32)).toUInt32.toUInt16.toUInt32.toInt32)), .val (.ref xx), .val (.int (0 : Int32)), .val (.int (1 : Int32)), .val (.ref uu), .val w11, .val w12, .val w13, .val w14, .val (.ref b107), .val (.int (1 : Int32))] [(.ref b107)]))
        have c173 := (OJ476.ext (own_ext (((((((((Keep.refl _ []).ext E107).ext E109).ext E111).ext E113).ext E115).ext E117).ext E119).trans K134 (allS (Or.inr sz_b107) all0))))
        obtain ⟨cq174, kq174, q174a, q174b, q174c⟩ := isOf hZ119 rfl hEb
        obtain ⟨_, _, ⟨T174, L174, k174, n174⟩, -, Xw174, hs174, gr174, ⟨Lc174, hQ174, l174, y174, z174, CQ174⟩, st174⟩ := X134.virtualBackS hx (y := (⟨"com/example/beija_flor/beijaflor/brcode/BrCode", "isDynamic", "()Z"⟩ : MethodName)) (z := (⟨"com/example/beija_flor/beijaflor/brcode/BrCode", "isDynamic", "()Z"⟩ : MethodName)) hown119 (mvT hZ119 (hw _ (List.mem_of_getElem? (i := 74) rfl))) (mvT hZ119 (hw _ (List.mem_of_getElem? (i := 75) rfl))) (notFace_of_selects (args := #[]) (mvT hZ119 (hw _ (List.mem_of_getElem? (i := 77) rfl)))) (mvT hZ119 (hw _ (List.mem_of_getElem? (i := 77) rfl))) (mvT hZ119 (hw _ (List.mem_of_getElem? (i := 76) rfl))) (by decide) (backOfSH (W := 0) (rm9or l Z a0 hw [] b107 xx cs uu zc T134.heap n0 (Nat.le_trans (Nat.le_trans (Nat.le_trans (Nat.le_trans (Nat.le_trans (Nat.le_trans (Nat.le_trans (Nat.le_trans ZJ476 E107.1) E109.1) E111.1) E113.1) E115.1) E117.1) E119.1) K134.1) c173 Fi134 Fu134 Sz hzc hYx hk2) hZ119 (hw _ (List.mem_of_getElem? (i := 78) rfl)) (hw _ (List.mem_of_getElem? (i := 32) rfl)) (by decide) (by decide) hEL CH135.1) q174a q174c (g := (mkF m 528 #[.val (.int p0), .val (.int p1), .val (.int p2), .val (.int p3), .val (.int (p0 &&& (7 : Int32))), .val (.int ((p1 &&& (255 : Int32)).toUInt32.toUInt16.toUInt32.toInt32)), .val (.int ((((p1.toUInt32 >>> ((8 : Int32) &&& 31).toUInt32).toInt32) &&& (255 : Int32)).toUInt32.toUInt16.toUInt32.toInt32)), .val (.ref xx), .val (.int (0 : Int32)), .val (.int (1 : Int32)), .val (.ref uu), .val w11, .val w12, .val w13, .val w14, .val (.ref b107), .val (.int (1 : Int32))] [(.ref b107)])) rfl (by rw [hml]; rfl) (Steps.refl _) (argsL := []) (rest := []) (lenOf pd___Z_171 rfl) rfl (by show 2 * 0 + _ ≤ _; exact Nat.le_of_eq rfl) (hb hby at_528) (fun _ _ => ⟨rfl, rfl, (by decide : 36 + 2 ≤ _), (by decide : 149 + 12 ≤ _)⟩)
        dsimp only [Pt.U, Pt.locs, Pt.cells, Pt.slots] at Xw174 l174 y174 z174 st174 hQ174 hs174 gr174 CQ174
        subst l174 y174 z174
        obtain ⟨X174, hS174, hZ174, hown174⟩ := rebS hS119 (Nat.le_trans hk119 K134.1) Xw174 hs174 gr174 hZ119 hown119
        obtain ⟨rfl, N174q⟩ := hQ174
        have N174 := Fr.app N134 N174q
        refine own_trH st174 ?_
        have CR175 := CQ174
        have CH175 := CH135.trans CR175
        show own_ComesH Z p e below s _ _ _ (T174.setTop (mkF m 531 #[.val (.int p0), .val (.int p1), .val (.int p2), .val (.int p3), .val (.int (p0 &&& (7 : Int32))), .val (.int ((p1 &&& (255 : Int32)).toUInt32.toUInt16.toUInt32.toInt32)), .val (.int ((((p1.toUInt32 >>> ((8 : Int32) &&& 31).toUInt32).toInt32) &&& (255 : Int32)).toUInt32.toUInt16.toUInt32.toInt32)), .val (.ref xx), .val (.int (0 : Int32)), .val (.int (1 : Int32)), .val (.ref uu), .val w11, .val w12, .val w13, .val w14, .val (.ref b107), .val (.int (1 : Int32))] [(.int (1 : Int32))]))
        refine own_byH (fun _ kS => XS.iload X174.here hx rfl (hb hby at_531) rfl kS) ?_
        show own_ComesH Z p e below s _ _ _ (T174.setTop (mkF m 533 #[.val (.int p0), .val (.int p1), .val (.int p2), .val (.int p3), .val (.int (p0 &&& (7 : Int32))), .val (.int ((p1 &&& (255 : Int32)).toUInt32.toUInt16.toUInt32.toInt32)), .val (.int ((((p1.toUInt32 >>> ((8 : Int32) &&& 31).toUInt32).toInt32) &&& (255 : Int32)).toUInt32.toUInt16.toUInt32.toInt32)), .val (.ref xx), .val (.int (0 : Int32)), .val (.int (1 : Int32)), .val (.ref uu), .val w11, .val w12, .val w13, .val w14, .val (.ref b107), .val (.int (1 : Int32))] [(.int (1 : Int32)), (.int (1 : Int32))]))
        have hb176 : (1 : Int32) = (1 : Int32) := by decide
        refine own_byH (fun _ kS => XS.icmpNo X174.here hx rfl (hb hby at_533) rfl (teq hb176).2 kS) ?_
        show own_ComesH Z p e below s _ _ _ (T174.setTop (mkF m 536 #[.val (.int p0), .val (.int p1), .val (.int p2), .val (.int p3), .val (.int (p0 &&& (7 : Int32))), .val (.int ((p1 &&& (255 : Int32)).toUInt32.toUInt16.toUInt32.toInt32)), .val (.int ((((p1.toUInt32 >>> ((8 : Int32) &&& 31).toUInt32).toInt32) &&& (255 : Int32)).toUInt32.toUInt16.toUInt32.toInt32)), .val (.ref xx), .val (.int (0 : Int32)), .val (.int (1 : Int32)), .val (.ref uu), .val w11, .val w12, .val w13, .val w14, .val (.ref b107), .val (.int (1 : Int32))] []))
        refine own_byH (fun _ kS => XS.iconst X174.here hx rfl (hb hby at_536) kS) ?_
        show own_ComesH Z p e below s _ _ _ (T174.setTop (mkF m 537 #[.val (.int p0), .val (.int p1), .val (.int p2), .val (.int p3), .val (.int (p0 &&& (7 : Int32))), .val (.int ((p1 &&& (255 : Int32)).toUInt32.toUInt16.toUInt32.toInt32)), .val (.int ((((p1.toUInt32 >>> ((8 : Int32) &&& 31).toUInt32).toInt32) &&& (255 : Int32)).toUInt32.toUInt16.toUInt32.toInt32)), .val (.ref xx), .val (.int (0 : Int32)), .val (.int (1 : Int32)), .val (.ref uu), .val w11, .val w12, .val w13, .val w14, .val (.ref b107), .val (.int (1 : Int32))] [(.int (1 : Int32))]))
        refine own_byH (fun _ kS => XS.goto X174.here hx rfl (pc0 := 537) (pc' := 541) rfl (hb hby at_537) (by decide) (by decide) kS) ?_
        show own_ComesH Z p e below s _ _ _ (T174.setTop (mkF m 541 #[.val (.int p0), .val (.int p1), .val (.int p2), .val (.int p3), .val (.int (p0 &&& (7 : Int32))), .val (.int ((p1 &&& (255 : Int32)).toUInt32.toUInt16.toUInt32.toInt32)), .val (.int ((((p1.toUInt32 >>> ((8 : Int32) &&& 31).toUInt32).toInt32) &&& (255 : Int32)).toUInt32.toUInt16.toUInt32.toInt32)), .val (.ref xx), .val (.int (0 : Int32)), .val (.int (1 : Int32)), .val (.ref uu), .val w11, .val w12, .val w13, .val w14, .val (.ref b107), .val (.int (1 : Int32))] [(.int (1 : Int32))]))
        have hkr177 := (Nat.le_refl (Array.size T174.heap))
        have hcr177 := CH175.trans (CHv.at X174 hZ174 hEL CH175.1)
        refine own_retH X174 hS174 (by exact hkr177) (by rw [hh]; exact hcr177) (v := some (.int (1 : Int32))) (fun h => by rw [Bd.returns] at h; cases h) Bd.notSynchronized (by decide) (by decide) ?_ (fun fs hr => retN X174 hx (t := .boolean) Bd.returns (by simp) (hb hby at_541) hr)
        exact ⟨rfl, N174⟩
  have J452 : ∀ (vJ452 : Vm) (TJ452 : State) (hJ452 : Heap) (LJ452 : List Loc) (kJ452 : Nat) (w7 : Value) (z8 : Int32) (z9 : Int32) (w10 : Value) (w11 : Value) (w12 : Value) (w13 : Value), Stand p l e room_1 (s.setVm vJ452) m #[(.int p0), (.int p1), (.int p2), (.int p3)] below meth c TJ452 LJ452 21 48 → TJ452.heap = hJ452 → Z.Warmed39 (s.setVm vJ452).vm → (s.setVm vJ452).vm.findClass "com/example/beija_flor/beijaflor/brcode/BrCodeIsDynamicPinLaw" = some m.cls → s.Since vJ452 kJ452 → kJ452 ≤ hJ452.size → CHr Z own_EL (s.setVm s.vm).vm h0 (s.setVm vJ452).vm hJ452 → Fr n0 LJ452 → Old Z n0 hJ452 → n0 ≤ hJ452.size → (own_im Z hJ452 w7 z8) → (own_url w10 z9) → (w11.isRef = true) → (w12.isRef = true) → (w13.isRef = true) → own_ComesH Z p e below s room_1.cells room_1.slots (Q0 Z h0 n0) (TJ452.setTop (mkF m 452 #[.val (.int p0), .val (.int p1), .val (.int p2), .val (.int p3), .val (.int (p0 &&& (7 : Int32))), .val (.int ((p1 &&& (255 : Int32)).toUInt32.toUInt16.toUInt32.toInt32)), .val (.int ((((p1.toUInt32 >>> ((8 : Int32) &&& 31).toUInt32).toInt32) &&& (255 : Int32)).toUInt32.toUInt16.toUInt32.toInt32)), .val w7, .val (.int z8), .val (.int z9), .val w10, .val w11, .val w12, .val w13, .unset, .unset, .unset] [])) := by
    intro vJ452 TJ452 hJ452 LJ452 kJ452 w7 z8 z9 w10 w11 w12 w13 XJ452 eJ452 hZJ452 hownJ452 hSJ452 hkJ452 CHJ452 NJ452 OJ452 ZJ452 hIm hU i_w11 i_w12 i_w13
    show own_ComesH Z p e below s _ _ _ (TJ452.setTop (mkF m 452 #[.val (.int p0), .val (.int p1), .val (.int p2), .val (.int p3), .val (.int (p0 &&& (7 : Int32))), .val (.int ((p1 &&& (255 : Int32)).toUInt32.toUInt16.toUInt32.toInt32)), .val (.int ((((p1.toUInt32 >>> ((8 : Int32) &&& 31).toUInt32).toInt32) &&& (255 : Int32)).toUInt32.toUInt16.toUInt32.toInt32)), .val w7, .val (.int z8), .val (.int z9), .val w10, .val w11, .val w12, .val w13, .unset, .unset, .unset] []))
    refine own_byH (fun _ kS => XS.iloadN XJ452.here hx rfl (hb hby at_452) rfl kS) ?_
    show own_ComesH Z p e below s _ _ _ (TJ452.setTop (mkF m 453 #[.val (.int p0), .val (.int p1), .val (.int p2), .val (.int p3), .val (.int (p0 &&& (7 : Int32))), .val (.int ((p1 &&& (255 : Int32)).toUInt32.toUInt16.toUInt32.toInt32)), .val (.int ((((p1.toUInt32 >>> ((8 : Int32) &&& 31).toUInt32).toInt32) &&& (255 : Int32)).toUInt32.toUInt16.toUInt32.toInt32)), .val w7, .val (.int z8), .val (.int z9), .val w10, .val w11, .val w12, .val w13, .unset, .unset, .unset] [(.int p3)]))
    refine own_byH (fun _ kS => XS.bipush XJ452.here hx rfl (hb hby at_453) kS) ?_
    show own_ComesH Z p e below s _ _ _ (TJ452.setTop (mkF m 455 #[.val (.int p0), .val (.int p1), .val (.int p2), .val (.int p3), .val (.int (p0 &&& (7 : Int32))), .val (.int ((p1 &&& (255 : Int32)).toUInt32.toUInt16.toUInt32.toInt32)), .val (.int ((((p1.toUInt32 >>> ((8 : Int32) &&& 31).toUInt32).toInt32) &&& (255 : Int32)).toUInt32.toUInt16.toUInt32.toInt32)), .val w7, .val (.int z8), .val (.int z9), .val w10, .val w11, .val w12, .val w13, .unset, .unset, .unset] [(.int (8 : Int32)), (.int p3)]))
    refine own_byH (fun _ kS => XS.iand XJ452.here hx rfl (hb hby at_455) rfl kS) ?_
    show own_ComesH Z p e below s _ _ _ (TJ452.setTop (mkF m 456 #[.val (.int p0), .val (.int p1), .val (.int p2), .val (.int p3), .val (.int (p0 &&& (7 : Int32))), .val (.int ((p1 &&& (255 : Int32)).toUInt32.toUInt16.toUInt32.toInt32)), .val (.int ((((p1.toUInt32 >>> ((8 : Int32) &&& 31).toUInt32).toInt32) &&& (255 : Int32)).toUInt32.toUInt16.toUInt32.toInt32)), .val w7, .val (.int z8), .val (.int z9), .val w10, .val w11, .val w12, .val w13, .unset, .unset, .unset] [(.int (p3 &&& (8 : Int32)))]))
    by_cases hd8 : (p3 &&& (8 : Int32)) = (0 : Int32)
    · refine own_byH (fun _ kS => XS.ifYes XJ452.here hx rfl (pc0 := 456) (pc' := 473) rfl (hb hby at_456) rfl ((if0 _ _).trans (teq hd8).1) (by decide) (by decide) kS) ?_
      show own_ComesH Z p e below s _ _ _ (TJ452.setTop (mkF m 473 #[.val (.int p0), .val (.int p1), .val (.int p2), .val (.int p3), .val (.int (p0 &&& (7 : Int32))), .val (.int ((p1 &&& (255 : Int32)).toUInt32.toUInt16.toUInt32.toInt32)), .val (.int ((((p1.toUInt32 >>> ((8 : Int32) &&& 31).toUInt32).toInt32) &&& (255 : Int32)).toUInt32.toUInt16.toUInt32.toInt32)), .val w7, .val (.int z8), .val (.int z9), .val w10, .val w11, .val w12, .val w13, .unset, .unset, .unset] []))
      refine own_byH (fun _ kS => XS.aconstNull XJ452.here hx rfl (hb hby at_473) kS) ?_
      show own_ComesH Z p e below s _ _ _ (TJ452.setTop (mkF m 474 #[.val (.int p0), .val (.int p1), .val (.int p2), .val (.int p3), .val (.int (p0 &&& (7 : Int32))), .val (.int ((p1 &&& (255 : Int32)).toUInt32.toUInt16.toUInt32.toInt32)), .val (.int ((((p1.toUInt32 >>> ((8 : Int32) &&& 31).toUInt32).toInt32) &&& (255 : Int32)).toUInt32.toUInt16.toUInt32.toInt32)), .val w7, .val (.int z8), .val (.int z9), .val w10, .val w11, .val w12, .val w13, .unset, .unset, .unset] [.null]))
      refine own_byH (fun _ kS => XS.astore XJ452.here hx rfl (hb hby at_474) rfl rfl (l' := #[.val (.int p0), .val (.int p1), .val (.int p2), .val (.int p3), .val (.int (p0 &&& (7 : Int32))), .val (.int ((p1 &&& (255 : Int32)).toUInt32.toUInt16.toUInt32.toInt32)), .val (.int ((((p1.toUInt32 >>> ((8 : Int32) &&& 31).toUInt32).toInt32) &&& (255 : Int32)).toUInt32.toUInt16.toUInt32.toInt32)), .val w7, .val (.int z8), .val (.int z9), .val w10, .val w11, .val w12, .val w13, .val .null, .unset, .unset]) rfl kS) ?_
      show own_ComesH Z p e below s _ _ _ (TJ452.setTop (mkF m 476 #[.val (.int p0), .val (.int p1), .val (.int p2), .val (.int p3), .val (.int (p0 &&& (7 : Int32))), .val (.int ((p1 &&& (255 : Int32)).toUInt32.toUInt16.toUInt32.toInt32)), .val (.int ((((p1.toUInt32 >>> ((8 : Int32) &&& 31).toUInt32).toInt32) &&& (255 : Int32)).toUInt32.toUInt16.toUInt32.toInt32)), .val w7, .val (.int z8), .val (.int z9), .val w10, .val w11, .val w12, .val w13, .val .null, .unset, .unset] []))
      exact J476 _ _ _ _ _ w7 z8 z9 w10 w11 w12 w13 .null (XJ452.more (by decide) (by decide)) eJ452 hZJ452 hownJ452 hSJ452 hkJ452 CHJ452 NJ452 OJ452 ZJ452 hIm hU i_w11 i_w12 i_w13 rfl
    · refine own_byH (fun _ kS => XS.ifNo XJ452.here hx rfl (hb hby at_456) rfl ((if0 _ _).trans (feq hd8).1) kS) ?_
      show own_ComesH Z p e below s _ _ _ (TJ452.setTop (mkF m 459 #[.val (.int p0), .val (.int p1), .val (.int p2), .val (.int p3), .val (.int (p0 &&& (7 : Int32))), .val (.int ((p1 &&& (255 : Int32)).toUInt32.toUInt16.toUInt32.toInt32)), .val (.int ((((p1.toUInt32 >>> ((8 : Int32) &&& 31).toUInt32).toInt32) &&& (255 : Int32)).toUInt32.toUInt16.toUInt32.toInt32)), .val w7, .val (.int z8), .val (.int z9), .val w10, .val w11, .val w12, .val w13, .unset, .unset, .unset] []))
      refine own_byH (fun _ kS => XS.iloadN XJ452.here hx rfl (hb hby at_459) rfl kS) ?_
      show own_ComesH Z p e below s _ _ _ (TJ452.setTop (mkF m 460 #[.val (.int p0), .val (.int p1), .val (.int p2), .val (.int p3), .val (.int (p0 &&& (7 : Int32))), .val (.int ((p1 &&& (255 : Int32)).toUInt32.toUInt16.toUInt32.toInt32)), .val (.int ((((p1.toUInt32 >>> ((8 : Int32) &&& 31).toUInt32).toInt32) &&& (255 : Int32)).toUInt32.toUInt16.toUInt32.toInt32)), .val w7, .val (.int z8), .val (.int z9), .val w10, .val w11, .val w12, .val w13, .unset, .unset, .unset] [(.int p3)]))
      refine own_byH (fun _ kS => XS.iconst XJ452.here hx rfl (hb hby at_460) kS) ?_
      show own_ComesH Z p e below s _ _ _ (TJ452.setTop (mkF m 461 #[.val (.int p0), .val (.int p1), .val (.int p2), .val (.int p3), .val (.int (p0 &&& (7 : Int32))), .val (.int ((p1 &&& (255 : Int32)).toUInt32.toUInt16.toUInt32.toInt32)), .val (.int ((((p1.toUInt32 >>> ((8 : Int32) &&& 31).toUInt32).toInt32) &&& (255 : Int32)).toUInt32.toUInt16.toUInt32.toInt32)), .val w7, .val (.int z8), .val (.int z9), .val w10, .val w11, .val w12, .val w13, .unset, .unset, .unset] [(.int (4 : Int32)), (.int p3)]))
      refine own_byH (fun _ kS => XS.iushr XJ452.here hx rfl (hb hby at_461) rfl kS) ?_
      show own_ComesH Z p e below s _ _ _ (TJ452.setTop (mkF m 462 #[.val (.int p0), .val (.int p1), .val (.int p2), .val (.int p3), .val (.int (p0 &&& (7 : Int32))), .val (.int ((p1 &&& (255 : Int32)).toUInt32.toUInt16.toUInt32.toInt32)), .val (.int ((((p1.toUInt32 >>> ((8 : Int32) &&& 31).toUInt32).toInt32) &&& (255 : Int32)).toUInt32.toUInt16.toUInt32.toInt32)), .val w7, .val (.int z8), .val (.int z9), .val w10, .val w11, .val w12, .val w13, .unset, .unset, .unset] [(.int ((p3.toUInt32 >>> ((4 : Int32) &&& 31).toUInt32).toInt32))]))
      refine own_byH (fun _ kS => XS.sipush XJ452.here hx rfl (hb hby at_462) kS) ?_
      show own_ComesH Z p e below s _ _ _ (TJ452.setTop (mkF m 465 #[.val (.int p0), .val (.int p1), .val (.int p2), .val (.int p3), .val (.int (p0 &&& (7 : Int32))), .val (.int ((p1 &&& (255 : Int32)).toUInt32.toUInt16.toUInt32.toInt32)), .val (.int ((((p1.toUInt32 >>> ((8 : Int32) &&& 31).toUInt32).toInt32) &&& (255 : Int32)).toUInt32.toUInt16.toUInt32.toInt32)), .val w7, .val (.int z8), .val (.int z9), .val w10, .val w11, .val w12, .val w13, .unset, .unset, .unset] [(.int (255 : Int32)), (.int ((p3.toUInt32 >>> ((4 : Int32) &&& 31).toUInt32).toInt32))]))
      refine own_byH (fun _ kS => XS.iand XJ452.here hx rfl (hb hby at_465) rfl kS) ?_
      show own_ComesH Z p e below s _ _ _ (TJ452.setTop (mkF m 466 #[.val (.int p0), .val (.int p1), .val (.int p2), .val (.int p3), .val (.int (p0 &&& (7 : Int32))), .val (.int ((p1 &&& (255 : Int32)).toUInt32.toUInt16.toUInt32.toInt32)), .val (.int ((((p1.toUInt32 >>> ((8 : Int32) &&& 31).toUInt32).toInt32) &&& (255 : Int32)).toUInt32.toUInt16.toUInt32.toInt32)), .val w7, .val (.int z8), .val (.int z9), .val w10, .val w11, .val w12, .val w13, .unset, .unset, .unset] [(.int (((p3.toUInt32 >>> ((4 : Int32) &&& 31).toUInt32).toInt32) &&& (255 : Int32)))]))
      refine own_byH (fun _ kS => XS.i2c XJ452.here hx rfl (hb hby at_466) rfl kS) ?_
      show own_ComesH Z p e below s _ _ _ (TJ452.setTop (mkF m 467 #[.val (.int p0), .val (.int p1), .val (.int p2), .val (.int p3), .val (.int (p0 &&& (7 : Int32))), .val (.int ((p1 &&& (255 : Int32)).toUInt32.toUInt16.toUInt32.toInt32)), .val (.int ((((p1.toUInt32 >>> ((8 : Int32) &&& 31).toUInt32).toInt32) &&& (255 : Int32)).toUInt32.toUInt16.toUInt32.toInt32)), .val w7, .val (.int z8), .val (.int z9), .val w10, .val w11, .val w12, .val w13, .unset, .unset, .unset] [(.int ((((p3.toUInt32 >>> ((4 : Int32) &&& 31).toUInt32).toInt32) &&& (255 : Int32)).toUInt32.toUInt16.toUInt32.toInt32))]))
      obtain ⟨vv178, _, ⟨T178, L178, k178, n178⟩, -, X178, ⟨Lc178, hQ178, l178, y178, z178⟩, st178⟩ := Jvm.LawKit.callS XJ452 hx (y := (⟨"java/lang/String", "valueOf", "(C)Ljava/lang/String;"⟩ : MethodName)) hownJ452 (mvT hZJ452 (hw _ (List.mem_of_getElem? (i := 85) rfl))) (mvT hZJ452 (hw _ (List.mem_of_getElem? (i := 86) rfl))) (mvT hZJ452 (hw _ (List.mem_of_getElem? (i := 2) rfl))) (mvT hZJ452 (hw _ (List.mem_of_getElem? (i := 87) rfl))) (by decide) (backOf (W := 0) (rm11 l Z a0 hw [] ((((p3.toUInt32 >>> ((4 : Int32) &&& 31).toUInt32).toInt32) &&& (255 : Int32)).toUInt32.toUInt16.toUInt32.toInt32) zc hJ452 n0 ZJ452 (own_and255 _).2 OJ452 Sz hzc) hZJ452 (hw _ (List.mem_of_getElem? (i := 87) rfl)) (hw _ (List.mem_of_getElem? (i := 2) rfl)) (by decide) (by decide)) (g := (mkF m 467 #[.val (.int p0), .val (.int p1), .val (.int p2), .val (.int p3), .val (.int (p0 &&& (7 : Int32))), .val (.int ((p1 &&& (255 : Int32)).toUInt32.toUInt16.toUInt32.toInt32)), .val (.int ((((p1.toUInt32 >>> ((8 : Int32) &&& 31).toUInt32).toInt32) &&& (255 : Int32)).toUInt32.toUInt16.toUInt32.toInt32)), .val w7, .val (.int z8), .val (.int z9), .val w10, .val w11, .val w12, .val w13, .unset, .unset, .unset] [(.int ((((p3.toUInt32 >>> ((4 : Int32) &&& 31).toUInt32).toInt32) &&& (255 : Int32)).toUInt32.toUInt16.toUInt32.toInt32))])) rfl (by rw [hml]; rfl) (argsL := [(.int ((((p3.toUInt32 >>> ((4 : Int32) &&& 31).toUInt32).toInt32) &&& (255 : Int32)).toUInt32.toUInt16.toUInt32.toInt32))]) (rest := []) (lenOf pd__C_Ljava_lang_String__847 rfl) rfl (by show 2 * 0 + _ ≤ _; exact Nat.le_of_eq rfl) (hb hby at_467) (fun _ _ => ⟨rfl, eJ452, (by decide : 21 + 2 ≤ _), (by decide : 48 + 5 ≤ _)⟩)
      dsimp only [Pt.U, Pt.locs, Pt.cells, Pt.slots] at X178 l178 y178 z178 st178 hQ178
      subst l178 y178 z178
      obtain ⟨a178, rfl, N178q, E178⟩ := hQ178
      have N178 := Fr.app NJ452 N178q
      refine own_byH st178 ?_
      have CR179 := CHr.ext E178 CHJ452.1
      have CH179 := CHJ452.trans CR179
      show own_ComesH Z p e below s _ _ _ (T178.setTop (mkF m 470 #[.val (.int p0), .val (.int p1), .val (.int p2), .val (.int p3), .val (.int (p0 &&& (7 : Int32))), .val (.int ((p1 &&& (255 : Int32)).toUInt32.toUInt16.toUInt32.toInt32)), .val (.int ((((p1.toUInt32 >>> ((8 : Int32) &&& 31).toUInt32).toInt32) &&& (255 : Int32)).toUInt32.toUInt16.toUInt32.toInt32)), .val w7, .val (.int z8), .val (.int z9), .val w10, .val w11, .val w12, .val w13, .unset, .unset, .unset] [(.ref a178)]))
      refine own_byH (fun _ kS => XS.goto X178.here hx rfl (pc0 := 470) (pc' := 474) rfl (hb hby at_470) (by decide) (by decide) kS) ?_
      show own_ComesH Z p e below s _ _ _ (T178.setTop (mkF m 474 #[.val (.int p0), .val (.int p1), .val (.int p2), .val (.int p3), .val (.int (p0 &&& (7 : Int32))), .val (.int ((p1 &&& (255 : Int32)).toUInt32.toUInt16.toUInt32.toInt32)), .val (.int ((((p1.toUInt32 >>> ((8 : Int32) &&& 31).toUInt32).toInt32) &&& (255 : Int32)).toUInt32.toUInt16.toUInt32.toInt32)), .val w7, .val (.int z8), .val (.int z9), .val w10, .val w11, .val w12, .val w13, .unset, .unset, .unset] [(.ref a178)]))
      refine own_byH (fun _ kS => XS.astore X178.here hx rfl (hb hby at_474) rfl rfl (l' := #[.val (.int p0), .val (.int p1), .val (.int p2), .val (.int p3), .val (.int (p0 &&& (7 : Int32))), .val (.int ((p1 &&& (255 : Int32)).toUInt32.toUInt16.toUInt32.toInt32)), .val (.int ((((p1.toUInt32 >>> ((8 : Int32) &&& 31).toUInt32).toInt32) &&& (255 : Int32)).toUInt32.toUInt16.toUInt32.toInt32)), .val w7, .val (.int z8), .val (.int z9), .val w10, .val w11, .val w12, .val w13, .val (.ref a178), .unset, .unset]) rfl kS) ?_
      show own_ComesH Z p e below s _ _ _ (T178.setTop (mkF m 476 #[.val (.int p0), .val (.int p1), .val (.int p2), .val (.int p3), .val (.int (p0 &&& (7 : Int32))), .val (.int ((p1 &&& (255 : Int32)).toUInt32.toUInt16.toUInt32.toInt32)), .val (.int ((((p1.toUInt32 >>> ((8 : Int32) &&& 31).toUInt32).toInt32) &&& (255 : Int32)).toUInt32.toUInt16.toUInt32.toInt32)), .val w7, .val (.int z8), .val (.int z9), .val w10, .val w11, .val w12, .val w13, .val (.ref a178), .unset, .unset] []))
      exact J476 _ _ _ _ _ w7 z8 z9 w10 w11 w12 w13 (.ref a178) (X178.more (by decide) (by decide)) rfl hZJ452 hownJ452 hSJ452 (Nat.le_trans hkJ452 E178.1) CH179 N178 (OJ452.ext E178) (Nat.le_trans ZJ452 E178.1) (hIm.ext E178) hU i_w11 i_w12 i_w13 rfl
  have J420 : ∀ (vJ420 : Vm) (TJ420 : State) (hJ420 : Heap) (LJ420 : List Loc) (kJ420 : Nat) (w7 : Value) (z8 : Int32) (z9 : Int32) (w10 : Value) (w11 : Value) (w12 : Value), Stand p l e room_1 (s.setVm vJ420) m #[(.int p0), (.int p1), (.int p2), (.int p3)] below meth c TJ420 LJ420 18 40 → TJ420.heap = hJ420 → Z.Warmed39 (s.setVm vJ420).vm → (s.setVm vJ420).vm.findClass "com/example/beija_flor/beijaflor/brcode/BrCodeIsDynamicPinLaw" = some m.cls → s.Since vJ420 kJ420 → kJ420 ≤ hJ420.size → CHr Z own_EL (s.setVm s.vm).vm h0 (s.setVm vJ420).vm hJ420 → Fr n0 LJ420 → Old Z n0 hJ420 → n0 ≤ hJ420.size → (own_im Z hJ420 w7 z8) → (own_url w10 z9) → (w11.isRef = true) → (w12.isRef = true) → own_ComesH Z p e below s room_1.cells room_1.slots (Q0 Z h0 n0) (TJ420.setTop (mkF m 420 #[.val (.int p0), .val (.int p1), .val (.int p2), .val (.int p3), .val (.int (p0 &&& (7 : Int32))), .val (.int ((p1 &&& (255 : Int32)).toUInt32.toUInt16.toUInt32.toInt32)), .val (.int ((((p1.toUInt32 >>> ((8 : Int32) &&& 31).toUInt32).toInt32) &&& (255 : Int32)).toUInt32.toUInt16.toUInt32.toInt32)), .val w7, .val (.int z8), .val (.int z9), .val w10, .val w11, .val w12, .unset, .unset, .unset, .unset] [])) := by
    intro vJ420 TJ420 hJ420 LJ420 kJ420 w7 z8 z9 w10 w11 w12 XJ420 eJ420 hZJ420 hownJ420 hSJ420 hkJ420 CHJ420 NJ420 OJ420 ZJ420 hIm hU i_w11 i_w12
    show own_ComesH Z p e below s _ _ _ (TJ420.setTop (mkF m 420 #[.val (.int p0), .val (.int p1), .val (.int p2), .val (.int p3), .val (.int (p0 &&& (7 : Int32))), .val (.int ((p1 &&& (255 : Int32)).toUInt32.toUInt16.toUInt32.toInt32)), .val (.int ((((p1.toUInt32 >>> ((8 : Int32) &&& 31).toUInt32).toInt32) &&& (255 : Int32)).toUInt32.toUInt16.toUInt32.toInt32)), .val w7, .val (.int z8), .val (.int z9), .val w10, .val w11, .val w12, .unset, .unset, .unset, .unset] []))
    refine own_byH (fun _ kS => XS.iloadN XJ420.here hx rfl (hb hby at_420) rfl kS) ?_
    show own_ComesH Z p e below s _ _ _ (TJ420.setTop (mkF m 421 #[.val (.int p0), .val (.int p1), .val (.int p2), .val (.int p3), .val (.int (p0 &&& (7 : Int32))), .val (.int ((p1 &&& (255 : Int32)).toUInt32.toUInt16.toUInt32.toInt32)), .val (.int ((((p1.toUInt32 >>> ((8 : Int32) &&& 31).toUInt32).toInt32) &&& (255 : Int32)).toUInt32.toUInt16.toUInt32.toInt32)), .val w7, .val (.int z8), .val (.int z9), .val w10, .val w11, .val w12, .unset, .unset, .unset, .unset] [(.int p3)]))
    refine own_byH (fun _ kS => XS.iconst XJ420.here hx rfl (hb hby at_421) kS) ?_
    show own_ComesH Z p e below s _ _ _ (TJ420.setTop (mkF m 422 #[.val (.int p0), .val (.int p1), .val (.int p2), .val (.int p3), .val (.int (p0 &&& (7 : Int32))), .val (.int ((p1 &&& (255 : Int32)).toUInt32.toUInt16.toUInt32.toInt32)), .val (.int ((((p1.toUInt32 >>> ((8 : Int32) &&& 31).toUInt32).toInt32) &&& (255 : Int32)).toUInt32.toUInt16.toUInt32.toInt32)), .val w7, .val (.int z8), .val (.int z9), .val w10, .val w11, .val w12, .unset, .unset, .unset, .unset] [(.int (4 : Int32)), (.int p3)]))
    refine own_byH (fun _ kS => XS.iand XJ420.here hx rfl (hb hby at_422) rfl kS) ?_
    show own_ComesH Z p e below s _ _ _ (TJ420.setTop (mkF m 423 #[.val (.int p0), .val (.int p1), .val (.int p2), .val (.int p3), .val (.int (p0 &&& (7 : Int32))), .val (.int ((p1 &&& (255 : Int32)).toUInt32.toUInt16.toUInt32.toInt32)), .val (.int ((((p1.toUInt32 >>> ((8 : Int32) &&& 31).toUInt32).toInt32) &&& (255 : Int32)).toUInt32.toUInt16.toUInt32.toInt32)), .val w7, .val (.int z8), .val (.int z9), .val w10, .val w11, .val w12, .unset, .unset, .unset, .unset] [(.int (p3 &&& (4 : Int32)))]))
    by_cases hd420 : (p3 &&& (4 : Int32)) = (0 : Int32)
    · refine own_byH (fun _ kS => XS.ifYes XJ420.here hx rfl (pc0 := 423) (pc' := 449) rfl (hb hby at_423) rfl ((if0 _ _).trans (teq hd420).1) (by decide) (by decide) kS) ?_
      show own_ComesH Z p e below s _ _ _ (TJ420.setTop (mkF m 449 #[.val (.int p0), .val (.int p1), .val (.int p2), .val (.int p3), .val (.int (p0 &&& (7 : Int32))), .val (.int ((p1 &&& (255 : Int32)).toUInt32.toUInt16.toUInt32.toInt32)), .val (.int ((((p1.toUInt32 >>> ((8 : Int32) &&& 31).toUInt32).toInt32) &&& (255 : Int32)).toUInt32.toUInt16.toUInt32.toInt32)), .val w7, .val (.int z8), .val (.int z9), .val w10, .val w11, .val w12, .unset, .unset, .unset, .unset] []))
      refine own_byH (fun _ kS => XS.aconstNull XJ420.here hx rfl (hb hby at_449) kS) ?_
      show own_ComesH Z p e below s _ _ _ (TJ420.setTop (mkF m 450 #[.val (.int p0), .val (.int p1), .val (.int p2), .val (.int p3), .val (.int (p0 &&& (7 : Int32))), .val (.int ((p1 &&& (255 : Int32)).toUInt32.toUInt16.toUInt32.toInt32)), .val (.int ((((p1.toUInt32 >>> ((8 : Int32) &&& 31).toUInt32).toInt32) &&& (255 : Int32)).toUInt32.toUInt16.toUInt32.toInt32)), .val w7, .val (.int z8), .val (.int z9), .val w10, .val w11, .val w12, .unset, .unset, .unset, .unset] [.null]))
      refine own_byH (fun _ kS => XS.astore XJ420.here hx rfl (hb hby at_450) rfl rfl (l' := #[.val (.int p0), .val (.int p1), .val (.int p2), .val (.int p3), .val (.int (p0 &&& (7 : Int32))), .val (.int ((p1 &&& (255 : Int32)).toUInt32.toUInt16.toUInt32.toInt32)), .val (.int ((((p1.toUInt32 >>> ((8 : Int32) &&& 31).toUInt32).toInt32) &&& (255 : Int32)).toUInt32.toUInt16.toUInt32.toInt32)), .val w7, .val (.int z8), .val (.int z9), .val w10, .val w11, .val w12, .val .null, .unset, .unset, .unset]) rfl kS) ?_
      show own_ComesH Z p e below s _ _ _ (TJ420.setTop (mkF m 452 #[.val (.int p0), .val (.int p1), .val (.int p2), .val (.int p3), .val (.int (p0 &&& (7 : Int32))), .val (.int ((p1 &&& (255 : Int32)).toUInt32.toUInt16.toUInt32.toInt32)), .val (.int ((((p1.toUInt32 >>> ((8 : Int32) &&& 31).toUInt32).toInt32) &&& (255 : Int32)).toUInt32.toUInt16.toUInt32.toInt32)), .val w7, .val (.int z8), .val (.int z9), .val w10, .val w11, .val w12, .val .null, .unset, .unset, .unset] []))
      exact J452 _ _ _ _ _ w7 z8 z9 w10 w11 w12 .null (XJ420.more (by decide) (by decide)) eJ420 hZJ420 hownJ420 hSJ420 hkJ420 CHJ420 NJ420 OJ420 ZJ420 hIm hU i_w11 i_w12 rfl
    · refine own_byH (fun _ kS => XS.ifNo XJ420.here hx rfl (hb hby at_423) rfl ((if0 _ _).trans (feq hd420).1) kS) ?_
      show own_ComesH Z p e below s _ _ _ (TJ420.setTop (mkF m 426 #[.val (.int p0), .val (.int p1), .val (.int p2), .val (.int p3), .val (.int (p0 &&& (7 : Int32))), .val (.int ((p1 &&& (255 : Int32)).toUInt32.toUInt16.toUInt32.toInt32)), .val (.int ((((p1.toUInt32 >>> ((8 : Int32) &&& 31).toUInt32).toInt32) &&& (255 : Int32)).toUInt32.toUInt16.toUInt32.toInt32)), .val w7, .val (.int z8), .val (.int z9), .val w10, .val w11, .val w12, .unset, .unset, .unset, .unset] []))
      obtain ⟨T180, h180, X180, e180, E180, A180, D180, -, st180⟩ := newO XJ420 hx hZJ420 hownJ420 (hw _ (List.mem_of_getElem? (i := 0) rfl)) (hw _ (List.mem_of_getElem? (i := 1) rfl)) (hw _ (List.mem_of_getElem? (i := 2) rfl)) eJ420 (g := (mkF m 426 #[.val (.int p0), .val (.int p1), .val (.int p2), .val (.int p3), .val (.int (p0 &&& (7 : Int32))), .val (.int ((p1 &&& (255 : Int32)).toUInt32.toUInt16.toUInt32.toInt32)), .val (.int ((((p1.toUInt32 >>> ((8 : Int32) &&& 31).toUInt32).toInt32) &&& (255 : Int32)).toUInt32.toUInt16.toUInt32.toInt32)), .val w7, .val (.int z8), .val (.int z9), .val w10, .val w11, .val w12, .unset, .unset, .unset, .unset] [])) rfl (hb hby at_426) (by decide) (by decide)
      obtain ⟨b180, g180⟩ : ∃ z, z = hJ420.size := ⟨_, rfl⟩
      rw [← g180] at A180 D180 st180
      have g_b180 : n0 ≤ b180 := Nat.le_trans ZJ420 (Nat.le_of_eq g180.symm)
      refine own_byH st180 ?_
      have CR181 := CHr.ext E180 CHJ420.1
      have CH181 := CHJ420.trans CR181
      have sb180 := Safe.ext E180 CHJ420.1 (Safe.new (Nat.le_of_eq g180.symm))
      show own_ComesH Z p e below s _ _ _ (T180.setTop (mkF m 429 #[.val (.int p0), .val (.int p1), .val (.int p2), .val (.int p3), .val (.int (p0 &&& (7 : Int32))), .val (.int ((p1 &&& (255 : Int32)).toUInt32.toUInt16.toUInt32.toInt32)), .val (.int ((((p1.toUInt32 >>> ((8 : Int32) &&& 31).toUInt32).toInt32) &&& (255 : Int32)).toUInt32.toUInt16.toUInt32.toInt32)), .val w7, .val (.int z8), .val (.int z9), .val w10, .val w11, .val w12, .unset, .unset, .unset, .unset] [(.ref b180)]))
      refine own_byH (fun _ kS => XS.dup X180.here hx rfl (hb hby at_429) rfl rfl kS) ?_
      show own_ComesH Z p e below s _ _ _ (T180.setTop (mkF m 430 #[.val (.int p0), .val (.int p1), .val (.int p2), .val (.int p3), .val (.int (p0 &&& (7 : Int32))), .val (.int ((p1 &&& (255 : Int32)).toUInt32.toUInt16.toUInt32.toInt32)), .val (.int ((((p1.toUInt32 >>> ((8 : Int32) &&& 31).toUInt32).toInt32) &&& (255 : Int32)).toUInt32.toUInt16.toUInt32.toInt32)), .val w7, .val (.int z8), .val (.int z9), .val w10, .val w11, .val w12, .unset, .unset, .unset, .unset] [(.ref b180), (.ref b180)]))
      refine own_byH (fun _ kS => XS.iconst X180.here hx rfl (hb hby at_430) kS) ?_
      show own_ComesH Z p e below s _ _ _ (T180.setTop (mkF m 431 #[.val (.int p0), .val (.int p1), .val (.int p2), .val (.int p3), .val (.int (p0 &&& (7 : Int32))), .val (.int ((p1 &&& (255 : Int32)).toUInt32.toUInt16.toUInt32.toInt32)), .val (.int ((((p1.toUInt32 >>> ((8 : Int32) &&& 31).toUInt32).toInt32) &&& (255 : Int32)).toUInt32.toUInt16.toUInt32.toInt32)), .val w7, .val (.int z8), .val (.int z9), .val w10, .val w11, .val w12, .unset, .unset, .unset, .unset] [(.int (2 : Int32)), (.ref b180), (.ref b180)]))
      obtain ⟨T182, h182, k182, X182, e182, E182, A182, st182⟩ := newP X180 hx hZJ420 (hw _ (List.mem_of_getElem? (i := 3) rfl)) e180 (g := (mkF m 431 #[.val (.int p0), .val (.int p1), .val (.int p2), .val (.int p3), .val (.int (p0 &&& (7 : Int32))), .val (.int ((p1 &&& (255 : Int32)).toUInt32.toUInt16.toUInt32.toInt32)), .val (.int ((((p1.toUInt32 >>> ((8 : Int32) &&& 31).toUInt32).toInt32) &&& (255 : Int32)).toUInt32.toUInt16.toUInt32.toInt32)), .val w7, .val (.int z8), .val (.int z9), .val w10, .val w11, .val w12, .unset, .unset, .unset, .unset] [(.int (2 : Int32)), (.ref b180), (.ref b180)])) rfl (hb hby at_431) rfl (by decide) (cap := 2) (by decide) (by decide) (by decide) (by decide)
      obtain ⟨b182, g182⟩ : ∃ z, z = h180.size := ⟨_, rfl⟩
      rw [← g182] at A182 st182
      have g_b182 : n0 ≤ b182 := Nat.le_trans (Nat.le_trans ZJ420 E180.1) (Nat.le_of_eq g182.symm)
      refine own_byH st182 ?_
      have CR183 := CHr.ext E182 CH181.1
      have CH183 := CH181.trans CR183
      have sb182 := Safe.ext E182 CH181.1 (Safe.new (Nat.le_of_eq g182.symm))
      have V_b182 : Arv Z h182 b182 k182 .char (2 : Int32) [(.int (0 : Int32)), (.int (0 : Int32))] (.int (0 : Int32)) := (Arv.new A182 (by decide)).pad (pad_rep [] (.int (0 : Int32)) 2)
      show own_ComesH Z p e below s _ _ _ (T182.setTop (mkF m 433 #[.val (.int p0), .val (.int p1), .val (.int p2), .val (.int p3), .val (.int (p0 &&& (7 : Int32))), .val (.int ((p1 &&& (255 : Int32)).toUInt32.toUInt16.toUInt32.toInt32)), .val (.int ((((p1.toUInt32 >>> ((8 : Int32) &&& 31).toUInt32).toInt32) &&& (255 : Int32)).toUInt32.toUInt16.toUInt32.toInt32)), .val w7, .val (.int z8), .val (.int z9), .val w10, .val w11, .val w12, .unset, .unset, .unset, .unset] [(.ref b182), (.ref b180), (.ref b180)]))
      have sz_b182 : hJ420.size ≤ b182 := Nat.le_trans ((Keep.refl _ []).ext E180).1 (Nat.le_of_eq g182.symm)
      have nA182 : b180 ≠ b182 := Nat.ne_of_lt (Nat.lt_of_lt_of_le A180.lt (Nat.le_of_eq g182.symm))
      have sz_b180 : hJ420.size ≤ b180 := Nat.le_of_eq g180.symm
      refine own_byH (fun _ kS => XS.dup X182.here hx rfl (hb hby at_433) rfl rfl kS) ?_
      show own_ComesH Z p e below s _ _ _ (T182.setTop (mkF m 434 #[.val (.int p0), .val (.int p1), .val (.int p2), .val (.int p3), .val (.int (p0 &&& (7 : Int32))), .val (.int ((p1 &&& (255 : Int32)).toUInt32.toUInt16.toUInt32.toInt32)), .val (.int ((((p1.toUInt32 >>> ((8 : Int32) &&& 31).toUInt32).toInt32) &&& (255 : Int32)).toUInt32.toUInt16.toUInt32.toInt32)), .val w7, .val (.int z8), .val (.int z9), .val w10, .val w11, .val w12, .unset, .unset, .unset, .unset] [(.ref b182), (.ref b182), (.ref b180), (.ref b180)]))
      refine own_byH (fun _ kS => XS.iconst X182.here hx rfl (hb hby at_434) kS) ?_
      show own_ComesH Z p e below s _ _ _ (T182.setTop (mkF m 435 #[.val (.int p0), .val (.int p1), .val (.int p2), .val (.int p3), .val (.int (p0 &&& (7 : Int32))), .val (.int ((p1 &&& (255 : Int32)).toUInt32.toUInt16.toUInt32.toInt32)), .val (.int ((((p1.toUInt32 >>> ((8 : Int32) &&& 31).toUInt32).toInt32) &&& (255 : Int32)).toUInt32.toUInt16.toUInt32.toInt32)), .val w7, .val (.int z8), .val (.int z9), .val w10, .val w11, .val w12, .unset, .unset, .unset, .unset] [(.int (0 : Int32)), (.ref b182), (.ref b182), (.ref b180), (.ref b180)]))
      refine own_byH (fun _ kS => XS.bipush X182.here hx rfl (hb hby at_435) kS) ?_
      show own_ComesH Z p e below s _ _ _ (T182.setTop (mkF m 437 #[.val (.int p0), .val (.int p1), .val (.int p2), .val (.int p3), .val (.int (p0 &&& (7 : Int32))), .val (.int ((p1 &&& (255 : Int32)).toUInt32.toUInt16.toUInt32.toInt32)), .val (.int ((((p1.toUInt32 >>> ((8 : Int32) &&& 31).toUInt32).toInt32) &&& (255 : Int32)).toUInt32.toUInt16.toUInt32.toInt32)), .val w7, .val (.int z8), .val (.int z9), .val w10, .val w11, .val w12, .unset, .unset, .unset, .unset] [(.int (49 : Int32)), (.int (0 : Int32)), (.ref b182), (.ref b182), (.ref b180), (.ref b180)]))
      have Vo184 := V_b182
      obtain ⟨cl184, Ar184, qA184, SA184, NA184, HA184, GA184⟩ := Vo184
      have hin184 : ¬ ((0 : Int32) < 0 ∨ cl184.slots.size ≤ ((0 : Int32)).toNatClampNeg) := inb_of SA184 ⟨by decide, by decide⟩
      obtain ⟨T185, h185, X185, e185, W185, st185⟩ := stC X182 hx hZJ420 e182 Ar184 (j := (0 : Int32)) hin184 (g := (mkF m 437 #[.val (.int p0), .val (.int p1), .val (.int p2), .val (.int p3), .val (.int (p0 &&& (7 : Int32))), .val (.int ((p1 &&& (255 : Int32)).toUInt32.toUInt16.toUInt32.toInt32)), .val (.int ((((p1.toUInt32 >>> ((8 : Int32) &&& 31).toUInt32).toInt32) &&& (255 : Int32)).toUInt32.toUInt16.toUInt32.toInt32)), .val w7, .val (.int z8), .val (.int z9), .val w10, .val w11, .val w12, .unset, .unset, .unset, .unset] [(.int (49 : Int32)), (.int (0 : Int32)), (.ref b182), (.ref b182), (.ref b180), (.ref b180)])) rfl rfl (hb hby at_437)
      refine own_byH st185 ?_
      have V185 : Arv Z h185 b182 k182 .char (2 : Int32) [(.int (nar .char (49 : Int32))), (.int (0 : Int32))] (.int (0 : Int32)) := Arv.set Ar184 qA184 SA184 NA184 HA184 GA184 (by first | rfl | exact fits_nar_char _) W185 0 rfl (Nat.le_of_ble_eq_true rfl)
      have CR186 := CHr.wr W185 sb182 CH183.1
      have CH186 := CH183.trans CR186
      have N185 := Fr.snoc X185 NJ420 g_b182
      show own_ComesH Z p e below s _ _ _ (T185.setTop (mkF m 438 #[.val (.int p0), .val (.int p1), .val (.int p2), .val (.int p3), .val (.int (p0 &&& (7 : Int32))), .val (.int ((p1 &&& (255 : Int32)).toUInt32.toUInt16.toUInt32.toInt32)), .val (.int ((((p1.toUInt32 >>> ((8 : Int32) &&& 31).toUInt32).toInt32) &&& (255 : Int32)).toUInt32.toUInt16.toUInt32.toInt32)), .val w7, .val (.int z8), .val (.int z9), .val w10, .val w11, .val w12, .unset, .unset, .unset, .unset] [(.ref b182), (.ref b180), (.ref b180)]))
      refine own_byH (fun _ kS => XS.dup X185.here hx rfl (hb hby at_438) rfl rfl kS) ?_
      show own_ComesH Z p e below s _ _ _ (T185.setTop (mkF m 439 #[.val (.int p0), .val (.int p1), .val (.int p2), .val (.int p3), .val (.int (p0 &&& (7 : Int32))), .val (.int ((p1 &&& (255 : Int32)).toUInt32.toUInt16.toUInt32.toInt32)), .val (.int ((((p1.toUInt32 >>> ((8 : Int32) &&& 31).toUInt32).toInt32) &&& (255 : Int32)).toUInt32.toUInt16.toUInt32.toInt32)), .val w7, .val (.int z8), .val (.int z9), .val w10, .val w11, .val w12, .unset, .unset, .unset, .unset] [(.ref b182), (.ref b182), (.ref b180), (.ref b180)]))
      refine own_byH (fun _ kS => XS.iconst X185.here hx rfl (hb hby at_439) kS) ?_
      show own_ComesH Z p e below s _ _ _ (T185.setTop (mkF m 440 #[.val (.int p0), .val (.int p1), .val (.int p2), .val (.int p3), .val (.int (p0 &&& (7 : Int32))), .val (.int ((p1 &&& (255 : Int32)).toUInt32.toUInt16.toUInt32.toInt32)), .val (.int ((((p1.toUInt32 >>> ((8 : Int32) &&& 31).toUInt32).toInt32) &&& (255 : Int32)).toUInt32.toUInt16.toUInt32.toInt32)), .val w7, .val (.int z8), .val (.int z9), .val w10, .val w11, .val w12, .unset, .unset, .unset, .unset] [(.int (1 : Int32)), (.ref b182), (.ref b182), (.ref b180), (.ref b180)]))
      refine own_byH (fun _ kS => XS.bipush X185.here hx rfl (hb hby at_440) kS) ?_
      show own_ComesH Z p e below s _ _ _ (T185.setTop (mkF m 442 #[.val (.int p0), .val (.int p1), .val (.int p2), .val (.int p3), .val (.int (p0 &&& (7 : Int32))), .val (.int ((p1 &&& (255 : Int32)).toUInt32.toUInt16.toUInt32.toInt32)), .val (.int ((((p1.toUInt32 >>> ((8 : Int32) &&& 31).toUInt32).toInt32) &&& (255 : Int32)).toUInt32.toUInt16.toUInt32.toInt32)), .val w7, .val (.int z8), .val (.int z9), .val w10, .val w11, .val w12, .unset, .unset, .unset, .unset] [(.int (50 : Int32)), (.int (1 : Int32)), (.ref b182), (.ref b182), (.ref b180), (.ref b180)]))
      have Vo187 := V185
      obtain ⟨cl187, Ar187, qA187, SA187, NA187, HA187, GA187⟩ := Vo187
      have hin187 : ¬ ((1 : Int32) < 0 ∨ cl187.slots.size ≤ ((1 : Int32)).toNatClampNeg) := inb_of SA187 ⟨by decide, by decide⟩
      obtain ⟨T188, h188, X188, e188, W188, st188⟩ := stC X185 hx hZJ420 e185 Ar187 (j := (1 : Int32)) hin187 (g := (mkF m 442 #[.val (.int p0), .val (.int p1), .val (.int p2), .val (.int p3), .val (.int (p0 &&& (7 : Int32))), .val (.int ((p1 &&& (255 : Int32)).toUInt32.toUInt16.toUInt32.toInt32)), .val (.int ((((p1.toUInt32 >>> ((8 : Int32) &&& 31).toUInt32).toInt32) &&& (255 : Int32)).toUInt32.toUInt16.toUInt32.toInt32)), .val w7, .val (.int z8), .val (.int z9), .val w10, .val w11, .val w12, .unset, .unset, .unset, .unset] [(.int (50 : Int32)), (.int (1 : Int32)), (.ref b182), (.ref b182), (.ref b180), (.ref b180)])) rfl rfl (hb hby at_442)
      refine own_byH st188 ?_
      have V188 : Arv Z h188 b182 k182 .char (2 : Int32) [(.int (nar .char (49 : Int32))), (.int (nar .char (50 : Int32)))] (.int (0 : Int32)) := Arv.set Ar187 qA187 SA187 NA187 HA187 GA187 (by first | rfl | exact fits_nar_char _) W188 1 rfl (Nat.le_of_ble_eq_true rfl)
      have sf190 := CR186.safe A182.lt sb182
      have CR189 := CHr.wr W188 sf190 CH186.1
      have CH189 := CH186.trans CR189
      have N188 := Fr.snoc X188 N185 g_b182
      show own_ComesH Z p e below s _ _ _ (T188.setTop (mkF m 443 #[.val (.int p0), .val (.int p1), .val (.int p2), .val (.int p3), .val (.int (p0 &&& (7 : Int32))), .val (.int ((p1 &&& (255 : Int32)).toUInt32.toUInt16.toUInt32.toInt32)), .val (.int ((((p1.toUInt32 >>> ((8 : Int32) &&& 31).toUInt32).toInt32) &&& (255 : Int32)).toUInt32.toUInt16.toUInt32.toInt32)), .val w7, .val (.int z8), .val (.int z9), .val w10, .val w11, .val w12, .unset, .unset, .unset, .unset] [(.ref b182), (.ref b180), (.ref b180)]))
      have Vc := V188
      simp only [own_narc own_49, own_narc own_50] at Vc
      have hpb180 : ∀ c ∈ [(49 : Int32), (50 : Int32)], ¬ c < 0 ∧ ¬ (255 : Int32) < c := fun c hc => by
        simp only [List.mem_cons, List.not_mem_nil, or_false] at hc
        rcases hc with rfl | rfl
        · exact own_49
        · exact own_50
      have c191 := ((((D180 (Or.inr (hw _ (List.mem_of_getElem? (i := 29) rfl))) (ty := (.array .byte)) (by decide)).ext E182).other W185 (Or.inl nA182)).other W188 (Or.inl nA182))
      have c192 := ((((D180 (Or.inr (hw _ (List.mem_of_getElem? (i := 27) rfl))) (ty := .byte) (by decide)).ext E182).other W185 (Or.inl nA182)).other W188 (Or.inl nA182))
      have c193 := ((((OJ420.ext E180).ext E182).wr W185 g_b182).wr W188 g_b182)
      obtain ⟨vv194, _, ⟨T194, L194, k194, n194⟩, -, X194, ⟨Lc194, hQ194, l194, y194, z194⟩, st194⟩ := X188.specialBack hx (y := (⟨"java/lang/String", "<init>", "([C)V"⟩ : MethodName)) rfl hownJ420 (mvT hZJ420 (hw _ (List.mem_of_getElem? (i := 4) rfl))) (mvT hZJ420 (hw _ (List.mem_of_getElem? (i := 5) rfl))) (mvT hZJ420 (hw _ (List.mem_of_getElem? (i := 6) rfl))) (by decide) (StrChars.Road.backV (W := 1) hZJ420 hws (kI := 4) (hw _ (List.mem_of_getElem? (i := 1) rfl)) (cs := [(49 : Int32), (50 : Int32)]) (bs := [(49 : Int32), (50 : Int32)].map (fun c => c.toInt8.toInt32)) (n := 2) (n0 := n0) g_b180 (Nat.le_trans (Nat.le_trans (Nat.le_trans (Nat.le_trans ZJ420 E180.1) E182.1) (Keep.of_wr W185).1) (Keep.of_wr W188).1) (((A180.ext E182).wr W185).wr W188) c191 c192 Vc (Sz.ext c193.2) hzc rfl rfl (by decide) (by decide) hpb180 rfl (by decide) (by decide)) (g := (mkF m 443 #[.val (.int p0), .val (.int p1), .val (.int p2), .val (.int p3), .val (.int (p0 &&& (7 : Int32))), .val (.int ((p1 &&& (255 : Int32)).toUInt32.toUInt16.toUInt32.toInt32)), .val (.int ((((p1.toUInt32 >>> ((8 : Int32) &&& 31).toUInt32).toInt32) &&& (255 : Int32)).toUInt32.toUInt16.toUInt32.toInt32)), .val w7, .val (.int z8), .val (.int z9), .val w10, .val w11, .val w12, .unset, .unset, .unset, .unset] [(.ref b182), (.ref b180), (.ref b180)])) rfl (by rw [hml]; rfl) (Steps.refl _) (a := b180) (argsL := [(.ref b182)]) (rest := [(.ref b180)]) (lenOf pd___C_V_325 rfl) rfl (by show 2 * 0 + _ ≤ _; exact Nat.le_of_eq rfl) (hb hby at_443) (fun _ _ => ⟨rfl, e188, (by decide : 20 + 1 ≤ _), (by decide : 46 + 2 ≤ _)⟩)
      dsimp only [Pt.U, Pt.locs, Pt.cells, Pt.slots] at X194 l194 y194 z194 st194 hQ194
      subst l194 y194 z194
      obtain ⟨rfl, N194q, K194, Eb194, Cb194, t194, kb194, _, _, _, Vb194, Ab194⟩ := hQ194
      have N194 := Fr.app N188 N194q
      refine own_trH st194 ?_
      have sf196 := (CR183.trans (CR186.trans CR189)).safe A180.lt sb180
      have CR195 := CHr.keep K194 (sfS sf196 sf0) CH189.1
      have CH195 := CH189.trans CR195
      show own_ComesH Z p e below s _ _ _ (T194.setTop (mkF m 446 #[.val (.int p0), .val (.int p1), .val (.int p2), .val (.int p3), .val (.int (p0 &&& (7 : Int32))), .val (.int ((p1 &&& (255 : Int32)).toUInt32.toUInt16.toUInt32.toInt32)), .val (.int ((((p1.toUInt32 >>> ((8 : Int32) &&& 31).toUInt32).toInt32) &&& (255 : Int32)).toUInt32.toUInt16.toUInt32.toInt32)), .val w7, .val (.int z8), .val (.int z9), .val w10, .val w11, .val w12, .unset, .unset, .unset, .unset] [(.ref b180)]))
      have hSb180 : own_Str Z T194.heap b180 [(49 : Int32), (50 : Int32)] := ⟨Eb194, t194, kb194, _, _, Vb194, Cb194, Ab194, StrChars.Road.codOf rfl (fun c hc => (hpb180 c hc).2), fun c hc => own_up (hpb180 c hc), Nat.le_of_ble_eq_true rfl⟩
      have c197 := (hIm.ext (own_ext ((((((Keep.refl _ []).ext E180).ext E182).wr W185 (Or.inr sz_b182)).wr W188 (Or.inr sz_b182)).trans K194 (allS (Or.inr sz_b180) all0))))
      refine own_byH (fun _ kS => XS.goto X194.here hx rfl (pc0 := 446) (pc' := 450) rfl (hb hby at_446) (by decide) (by decide) kS) ?_
      show own_ComesH Z p e below s _ _ _ (T194.setTop (mkF m 450 #[.val (.int p0), .val (.int p1), .val (.int p2), .val (.int p3), .val (.int (p0 &&& (7 : Int32))), .val (.int ((p1 &&& (255 : Int32)).toUInt32.toUInt16.toUInt32.toInt32)), .val (.int ((((p1.toUInt32 >>> ((8 : Int32) &&& 31).toUInt32).toInt32) &&& (255 : Int32)).toUInt32.toUInt16.toUInt32.toInt32)), .val w7, .val (.int z8), .val (.int z9), .val w10, .val w11, .val w12, .unset, .unset, .unset, .unset] [(.ref b180)]))
      refine own_byH (fun _ kS => XS.astore X194.here hx rfl (hb hby at_450) rfl rfl (l' := #[.val (.int p0), .val (.int p1), .val (.int p2), .val (.int p3), .val (.int (p0 &&& (7 : Int32))), .val (.int ((p1 &&& (255 : Int32)).toUInt32.toUInt16.toUInt32.toInt32)), .val (.int ((((p1.toUInt32 >>> ((8 : Int32) &&& 31).toUInt32).toInt32) &&& (255 : Int32)).toUInt32.toUInt16.toUInt32.toInt32)), .val w7, .val (.int z8), .val (.int z9), .val w10, .val w11, .val w12, .val (.ref b180), .unset, .unset, .unset]) rfl kS) ?_
      show own_ComesH Z p e below s _ _ _ (T194.setTop (mkF m 452 #[.val (.int p0), .val (.int p1), .val (.int p2), .val (.int p3), .val (.int (p0 &&& (7 : Int32))), .val (.int ((p1 &&& (255 : Int32)).toUInt32.toUInt16.toUInt32.toInt32)), .val (.int ((((p1.toUInt32 >>> ((8 : Int32) &&& 31).toUInt32).toInt32) &&& (255 : Int32)).toUInt32.toUInt16.toUInt32.toInt32)), .val w7, .val (.int z8), .val (.int z9), .val w10, .val w11, .val w12, .val (.ref b180), .unset, .unset, .unset] []))
      exact J452 _ _ _ _ _ w7 z8 z9 w10 w11 w12 (.ref b180) (X194.more (by decide) (by decide)) rfl hZJ420 hownJ420 hSJ420 (Nat.le_trans (Nat.le_trans (Nat.le_trans (Nat.le_trans (Nat.le_trans hkJ420 E180.1) E182.1) (Keep.of_wr W185).1) (Keep.of_wr W188).1) K194.1) CH195 N194 (c193.keep K194 (allS g_b180 all0)) (Nat.le_trans (Nat.le_trans (Nat.le_trans (Nat.le_trans (Nat.le_trans ZJ420 E180.1) E182.1) (Keep.of_wr W185).1) (Keep.of_wr W188).1) K194.1) c197 hU i_w11 i_w12 rfl
  have J388 : ∀ (vJ388 : Vm) (TJ388 : State) (hJ388 : Heap) (LJ388 : List Loc) (kJ388 : Nat) (w7 : Value) (z8 : Int32) (z9 : Int32) (w10 : Value) (w11 : Value), Stand p l e room_1 (s.setVm vJ388) m #[(.int p0), (.int p1), (.int p2), (.int p3)] below meth c TJ388 LJ388 15 32 → TJ388.heap = hJ388 → Z.Warmed39 (s.setVm vJ388).vm → (s.setVm vJ388).vm.findClass "com/example/beija_flor/beijaflor/brcode/BrCodeIsDynamicPinLaw" = some m.cls → s.Since vJ388 kJ388 → kJ388 ≤ hJ388.size → CHr Z own_EL (s.setVm s.vm).vm h0 (s.setVm vJ388).vm hJ388 → Fr n0 LJ388 → Old Z n0 hJ388 → n0 ≤ hJ388.size → (own_im Z hJ388 w7 z8) → (own_url w10 z9) → (w11.isRef = true) → own_ComesH Z p e below s room_1.cells room_1.slots (Q0 Z h0 n0) (TJ388.setTop (mkF m 388 #[.val (.int p0), .val (.int p1), .val (.int p2), .val (.int p3), .val (.int (p0 &&& (7 : Int32))), .val (.int ((p1 &&& (255 : Int32)).toUInt32.toUInt16.toUInt32.toInt32)), .val (.int ((((p1.toUInt32 >>> ((8 : Int32) &&& 31).toUInt32).toInt32) &&& (255 : Int32)).toUInt32.toUInt16.toUInt32.toInt32)), .val w7, .val (.int z8), .val (.int z9), .val w10, .val w11, .unset, .unset, .unset, .unset, .unset] [])) := by
    intro vJ388 TJ388 hJ388 LJ388 kJ388 w7 z8 z9 w10 w11 XJ388 eJ388 hZJ388 hownJ388 hSJ388 hkJ388 CHJ388 NJ388 OJ388 ZJ388 hIm hU i_w11
    show own_ComesH Z p e below s _ _ _ (TJ388.setTop (mkF m 388 #[.val (.int p0), .val (.int p1), .val (.int p2), .val (.int p3), .val (.int (p0 &&& (7 : Int32))), .val (.int ((p1 &&& (255 : Int32)).toUInt32.toUInt16.toUInt32.toInt32)), .val (.int ((((p1.toUInt32 >>> ((8 : Int32) &&& 31).toUInt32).toInt32) &&& (255 : Int32)).toUInt32.toUInt16.toUInt32.toInt32)), .val w7, .val (.int z8), .val (.int z9), .val w10, .val w11, .unset, .unset, .unset, .unset, .unset] []))
    refine own_byH (fun _ kS => XS.iloadN XJ388.here hx rfl (hb hby at_388) rfl kS) ?_
    show own_ComesH Z p e below s _ _ _ (TJ388.setTop (mkF m 389 #[.val (.int p0), .val (.int p1), .val (.int p2), .val (.int p3), .val (.int (p0 &&& (7 : Int32))), .val (.int ((p1 &&& (255 : Int32)).toUInt32.toUInt16.toUInt32.toInt32)), .val (.int ((((p1.toUInt32 >>> ((8 : Int32) &&& 31).toUInt32).toInt32) &&& (255 : Int32)).toUInt32.toUInt16.toUInt32.toInt32)), .val w7, .val (.int z8), .val (.int z9), .val w10, .val w11, .unset, .unset, .unset, .unset, .unset] [(.int p3)]))
    refine own_byH (fun _ kS => XS.iconst XJ388.here hx rfl (hb hby at_389) kS) ?_
    show own_ComesH Z p e below s _ _ _ (TJ388.setTop (mkF m 390 #[.val (.int p0), .val (.int p1), .val (.int p2), .val (.int p3), .val (.int (p0 &&& (7 : Int32))), .val (.int ((p1 &&& (255 : Int32)).toUInt32.toUInt16.toUInt32.toInt32)), .val (.int ((((p1.toUInt32 >>> ((8 : Int32) &&& 31).toUInt32).toInt32) &&& (255 : Int32)).toUInt32.toUInt16.toUInt32.toInt32)), .val w7, .val (.int z8), .val (.int z9), .val w10, .val w11, .unset, .unset, .unset, .unset, .unset] [(.int (2 : Int32)), (.int p3)]))
    refine own_byH (fun _ kS => XS.iand XJ388.here hx rfl (hb hby at_390) rfl kS) ?_
    show own_ComesH Z p e below s _ _ _ (TJ388.setTop (mkF m 391 #[.val (.int p0), .val (.int p1), .val (.int p2), .val (.int p3), .val (.int (p0 &&& (7 : Int32))), .val (.int ((p1 &&& (255 : Int32)).toUInt32.toUInt16.toUInt32.toInt32)), .val (.int ((((p1.toUInt32 >>> ((8 : Int32) &&& 31).toUInt32).toInt32) &&& (255 : Int32)).toUInt32.toUInt16.toUInt32.toInt32)), .val w7, .val (.int z8), .val (.int z9), .val w10, .val w11, .unset, .unset, .unset, .unset, .unset] [(.int (p3 &&& (2 : Int32)))]))
    by_cases hd388 : (p3 &&& (2 : Int32)) = (0 : Int32)
    · refine own_byH (fun _ kS => XS.ifYes XJ388.here hx rfl (pc0 := 391) (pc' := 417) rfl (hb hby at_391) rfl ((if0 _ _).trans (teq hd388).1) (by decide) (by decide) kS) ?_
      show own_ComesH Z p e below s _ _ _ (TJ388.setTop (mkF m 417 #[.val (.int p0), .val (.int p1), .val (.int p2), .val (.int p3), .val (.int (p0 &&& (7 : Int32))), .val (.int ((p1 &&& (255 : Int32)).toUInt32.toUInt16.toUInt32.toInt32)), .val (.int ((((p1.toUInt32 >>> ((8 : Int32) &&& 31).toUInt32).toInt32) &&& (255 : Int32)).toUInt32.toUInt16.toUInt32.toInt32)), .val w7, .val (.int z8), .val (.int z9), .val w10, .val w11, .unset, .unset, .unset, .unset, .unset] []))
      refine own_byH (fun _ kS => XS.aconstNull XJ388.here hx rfl (hb hby at_417) kS) ?_
      show own_ComesH Z p e below s _ _ _ (TJ388.setTop (mkF m 418 #[.val (.int p0), .val (.int p1), .val (.int p2), .val (.int p3), .val (.int (p0 &&& (7 : Int32))), .val (.int ((p1 &&& (255 : Int32)).toUInt32.toUInt16.toUInt32.toInt32)), .val (.int ((((p1.toUInt32 >>> ((8 : Int32) &&& 31).toUInt32).toInt32) &&& (255 : Int32)).toUInt32.toUInt16.toUInt32.toInt32)), .val w7, .val (.int z8), .val (.int z9), .val w10, .val w11, .unset, .unset, .unset, .unset, .unset] [.null]))
      refine own_byH (fun _ kS => XS.astore XJ388.here hx rfl (hb hby at_418) rfl rfl (l' := #[.val (.int p0), .val (.int p1), .val (.int p2), .val (.int p3), .val (.int (p0 &&& (7 : Int32))), .val (.int ((p1 &&& (255 : Int32)).toUInt32.toUInt16.toUInt32.toInt32)), .val (.int ((((p1.toUInt32 >>> ((8 : Int32) &&& 31).toUInt32).toInt32) &&& (255 : Int32)).toUInt32.toUInt16.toUInt32.toInt32)), .val w7, .val (.int z8), .val (.int z9), .val w10, .val w11, .val .null, .unset, .unset, .unset, .unset]) rfl kS) ?_
      show own_ComesH Z p e below s _ _ _ (TJ388.setTop (mkF m 420 #[.val (.int p0), .val (.int p1), .val (.int p2), .val (.int p3), .val (.int (p0 &&& (7 : Int32))), .val (.int ((p1 &&& (255 : Int32)).toUInt32.toUInt16.toUInt32.toInt32)), .val (.int ((((p1.toUInt32 >>> ((8 : Int32) &&& 31).toUInt32).toInt32) &&& (255 : Int32)).toUInt32.toUInt16.toUInt32.toInt32)), .val w7, .val (.int z8), .val (.int z9), .val w10, .val w11, .val .null, .unset, .unset, .unset, .unset] []))
      exact J420 _ _ _ _ _ w7 z8 z9 w10 w11 .null (XJ388.more (by decide) (by decide)) eJ388 hZJ388 hownJ388 hSJ388 hkJ388 CHJ388 NJ388 OJ388 ZJ388 hIm hU i_w11 rfl
    · refine own_byH (fun _ kS => XS.ifNo XJ388.here hx rfl (hb hby at_391) rfl ((if0 _ _).trans (feq hd388).1) kS) ?_
      show own_ComesH Z p e below s _ _ _ (TJ388.setTop (mkF m 394 #[.val (.int p0), .val (.int p1), .val (.int p2), .val (.int p3), .val (.int (p0 &&& (7 : Int32))), .val (.int ((p1 &&& (255 : Int32)).toUInt32.toUInt16.toUInt32.toInt32)), .val (.int ((((p1.toUInt32 >>> ((8 : Int32) &&& 31).toUInt32).toInt32) &&& (255 : Int32)).toUInt32.toUInt16.toUInt32.toInt32)), .val w7, .val (.int z8), .val (.int z9), .val w10, .val w11, .unset, .unset, .unset, .unset, .unset] []))
      obtain ⟨T198, h198, X198, e198, E198, A198, D198, -, st198⟩ := newO XJ388 hx hZJ388 hownJ388 (hw _ (List.mem_of_getElem? (i := 0) rfl)) (hw _ (List.mem_of_getElem? (i := 1) rfl)) (hw _ (List.mem_of_getElem? (i := 2) rfl)) eJ388 (g := (mkF m 394 #[.val (.int p0), .val (.int p1), .val (.int p2), .val (.int p3), .val (.int (p0 &&& (7 : Int32))), .val (.int ((p1 &&& (255 : Int32)).toUInt32.toUInt16.toUInt32.toInt32)), .val (.int ((((p1.toUInt32 >>> ((8 : Int32) &&& 31).toUInt32).toInt32) &&& (255 : Int32)).toUInt32.toUInt16.toUInt32.toInt32)), .val w7, .val (.int z8), .val (.int z9), .val w10, .val w11, .unset, .unset, .unset, .unset, .unset] [])) rfl (hb hby at_394) (by decide) (by decide)
      obtain ⟨b198, g198⟩ : ∃ z, z = hJ388.size := ⟨_, rfl⟩
      rw [← g198] at A198 D198 st198
      have g_b198 : n0 ≤ b198 := Nat.le_trans ZJ388 (Nat.le_of_eq g198.symm)
      refine own_byH st198 ?_
      have CR199 := CHr.ext E198 CHJ388.1
      have CH199 := CHJ388.trans CR199
      have sb198 := Safe.ext E198 CHJ388.1 (Safe.new (Nat.le_of_eq g198.symm))
      show own_ComesH Z p e below s _ _ _ (T198.setTop (mkF m 397 #[.val (.int p0), .val (.int p1), .val (.int p2), .val (.int p3), .val (.int (p0 &&& (7 : Int32))), .val (.int ((p1 &&& (255 : Int32)).toUInt32.toUInt16.toUInt32.toInt32)), .val (.int ((((p1.toUInt32 >>> ((8 : Int32) &&& 31).toUInt32).toInt32) &&& (255 : Int32)).toUInt32.toUInt16.toUInt32.toInt32)), .val w7, .val (.int z8), .val (.int z9), .val w10, .val w11, .unset, .unset, .unset, .unset, .unset] [(.ref b198)]))
      refine own_byH (fun _ kS => XS.dup X198.here hx rfl (hb hby at_397) rfl rfl kS) ?_
      show own_ComesH Z p e below s _ _ _ (T198.setTop (mkF m 398 #[.val (.int p0), .val (.int p1), .val (.int p2), .val (.int p3), .val (.int (p0 &&& (7 : Int32))), .val (.int ((p1 &&& (255 : Int32)).toUInt32.toUInt16.toUInt32.toInt32)), .val (.int ((((p1.toUInt32 >>> ((8 : Int32) &&& 31).toUInt32).toInt32) &&& (255 : Int32)).toUInt32.toUInt16.toUInt32.toInt32)), .val w7, .val (.int z8), .val (.int z9), .val w10, .val w11, .unset, .unset, .unset, .unset, .unset] [(.ref b198), (.ref b198)]))
      refine own_byH (fun _ kS => XS.iconst X198.here hx rfl (hb hby at_398) kS) ?_
      show own_ComesH Z p e below s _ _ _ (T198.setTop (mkF m 399 #[.val (.int p0), .val (.int p1), .val (.int p2), .val (.int p3), .val (.int (p0 &&& (7 : Int32))), .val (.int ((p1 &&& (255 : Int32)).toUInt32.toUInt16.toUInt32.toInt32)), .val (.int ((((p1.toUInt32 >>> ((8 : Int32) &&& 31).toUInt32).toInt32) &&& (255 : Int32)).toUInt32.toUInt16.toUInt32.toInt32)), .val w7, .val (.int z8), .val (.int z9), .val w10, .val w11, .unset, .unset, .unset, .unset, .unset] [(.int (2 : Int32)), (.ref b198), (.ref b198)]))
      obtain ⟨T200, h200, k200, X200, e200, E200, A200, st200⟩ := newP X198 hx hZJ388 (hw _ (List.mem_of_getElem? (i := 3) rfl)) e198 (g := (mkF m 399 #[.val (.int p0), .val (.int p1), .val (.int p2), .val (.int p3), .val (.int (p0 &&& (7 : Int32))), .val (.int ((p1 &&& (255 : Int32)).toUInt32.toUInt16.toUInt32.toInt32)), .val (.int ((((p1.toUInt32 >>> ((8 : Int32) &&& 31).toUInt32).toInt32) &&& (255 : Int32)).toUInt32.toUInt16.toUInt32.toInt32)), .val w7, .val (.int z8), .val (.int z9), .val w10, .val w11, .unset, .unset, .unset, .unset, .unset] [(.int (2 : Int32)), (.ref b198), (.ref b198)])) rfl (hb hby at_399) rfl (by decide) (cap := 2) (by decide) (by decide) (by decide) (by decide)
      obtain ⟨b200, g200⟩ : ∃ z, z = h198.size := ⟨_, rfl⟩
      rw [← g200] at A200 st200
      have g_b200 : n0 ≤ b200 := Nat.le_trans (Nat.le_trans ZJ388 E198.1) (Nat.le_of_eq g200.symm)
      refine own_byH st200 ?_
      have CR201 := CHr.ext E200 CH199.1
      have CH201 := CH199.trans CR201
      have sb200 := Safe.ext E200 CH199.1 (Safe.new (Nat.le_of_eq g200.symm))
      have V_b200 : Arv Z h200 b200 k200 .char (2 : Int32) [(.int (0 : Int32)), (.int (0 : Int32))] (.int (0 : Int32)) := (Arv.new A200 (by decide)).pad (pad_rep [] (.int (0 : Int32)) 2)
      show own_ComesH Z p e below s _ _ _ (T200.setTop (mkF m 401 #[.val (.int p0), .val (.int p1), .val (.int p2), .val (.int p3), .val (.int (p0 &&& (7 : Int32))), .val (.int ((p1 &&& (255 : Int32)).toUInt32.toUInt16.toUInt32.toInt32)), .val (.int ((((p1.toUInt32 >>> ((8 : Int32) &&& 31).toUInt32).toInt32) &&& (255 : Int32)).toUInt32.toUInt16.toUInt32.toInt32)), .val w7, .val (.int z8), .val (.int z9), .val w10, .val w11, .unset, .unset, .unset, .unset, .unset] [(.ref b200), (.ref b198), (.ref b198)]))
      have sz_b200 : hJ388.size ≤ b200 := Nat.le_trans ((Keep.refl _ []).ext E198).1 (Nat.le_of_eq g200.symm)
      have nA200 : b198 ≠ b200 := Nat.ne_of_lt (Nat.lt_of_lt_of_le A198.lt (Nat.le_of_eq g200.symm))
      have sz_b198 : hJ388.size ≤ b198 := Nat.le_of_eq g198.symm
      refine own_byH (fun _ kS => XS.dup X200.here hx rfl (hb hby at_401) rfl rfl kS) ?_
      show own_ComesH Z p e below s _ _ _ (T200.setTop (mkF m 402 #[.val (.int p0), .val (.int p1), .val (.int p2), .val (.int p3), .val (.int (p0 &&& (7 : Int32))), .val (.int ((p1 &&& (255 : Int32)).toUInt32.toUInt16.toUInt32.toInt32)), .val (.int ((((p1.toUInt32 >>> ((8 : Int32) &&& 31).toUInt32).toInt32) &&& (255 : Int32)).toUInt32.toUInt16.toUInt32.toInt32)), .val w7, .val (.int z8), .val (.int z9), .val w10, .val w11, .unset, .unset, .unset, .unset, .unset] [(.ref b200), (.ref b200), (.ref b198), (.ref b198)]))
      refine own_byH (fun _ kS => XS.iconst X200.here hx rfl (hb hby at_402) kS) ?_
      show own_ComesH Z p e below s _ _ _ (T200.setTop (mkF m 403 #[.val (.int p0), .val (.int p1), .val (.int p2), .val (.int p3), .val (.int (p0 &&& (7 : Int32))), .val (.int ((p1 &&& (255 : Int32)).toUInt32.toUInt16.toUInt32.toInt32)), .val (.int ((((p1.toUInt32 >>> ((8 : Int32) &&& 31).toUInt32).toInt32) &&& (255 : Int32)).toUInt32.toUInt16.toUInt32.toInt32)), .val w7, .val (.int z8), .val (.int z9), .val w10, .val w11, .unset, .unset, .unset, .unset, .unset] [(.int (0 : Int32)), (.ref b200), (.ref b200), (.ref b198), (.ref b198)]))
      refine own_byH (fun _ kS => XS.bipush X200.here hx rfl (hb hby at_403) kS) ?_
      show own_ComesH Z p e below s _ _ _ (T200.setTop (mkF m 405 #[.val (.int p0), .val (.int p1), .val (.int p2), .val (.int p3), .val (.int (p0 &&& (7 : Int32))), .val (.int ((p1 &&& (255 : Int32)).toUInt32.toUInt16.toUInt32.toInt32)), .val (.int ((((p1.toUInt32 >>> ((8 : Int32) &&& 31).toUInt32).toInt32) &&& (255 : Int32)).toUInt32.toUInt16.toUInt32.toInt32)), .val w7, .val (.int z8), .val (.int z9), .val w10, .val w11, .unset, .unset, .unset, .unset, .unset] [(.int (49 : Int32)), (.int (0 : Int32)), (.ref b200), (.ref b200), (.ref b198), (.ref b198)]))
      have Vo202 := V_b200
      obtain ⟨cl202, Ar202, qA202, SA202, NA202, HA202, GA202⟩ := Vo202
      have hin202 : ¬ ((0 : Int32) < 0 ∨ cl202.slots.size ≤ ((0 : Int32)).toNatClampNeg) := inb_of SA202 ⟨by decide, by decide⟩
      obtain ⟨T203, h203, X203, e203, W203, st203⟩ := stC X200 hx hZJ388 e200 Ar202 (j := (0 : Int32)) hin202 (g := (mkF m 405 #[.val (.int p0), .val (.int p1), .val (.int p2), .val (.int p3), .val (.int (p0 &&& (7 : Int32))), .val (.int ((p1 &&& (255 : Int32)).toUInt32.toUInt16.toUInt32.toInt32)), .val (.int ((((p1.toUInt32 >>> ((8 : Int32) &&& 31).toUInt32).toInt32) &&& (255 : Int32)).toUInt32.toUInt16.toUInt32.toInt32)), .val w7, .val (.int z8), .val (.int z9), .val w10, .val w11, .unset, .unset, .unset, .unset, .unset] [(.int (49 : Int32)), (.int (0 : Int32)), (.ref b200), (.ref b200), (.ref b198), (.ref b198)])) rfl rfl (hb hby at_405)
      refine own_byH st203 ?_
      have V203 : Arv Z h203 b200 k200 .char (2 : Int32) [(.int (nar .char (49 : Int32))), (.int (0 : Int32))] (.int (0 : Int32)) := Arv.set Ar202 qA202 SA202 NA202 HA202 GA202 (by first | rfl | exact fits_nar_char _) W203 0 rfl (Nat.le_of_ble_eq_true rfl)
      have CR204 := CHr.wr W203 sb200 CH201.1
      have CH204 := CH201.trans CR204
      have N203 := Fr.snoc X203 NJ388 g_b200
      show own_ComesH Z p e below s _ _ _ (T203.setTop (mkF m 406 #[.val (.int p0), .val (.int p1), .val (.int p2), .val (.int p3), .val (.int (p0 &&& (7 : Int32))), .val (.int ((p1 &&& (255 : Int32)).toUInt32.toUInt16.toUInt32.toInt32)), .val (.int ((((p1.toUInt32 >>> ((8 : Int32) &&& 31).toUInt32).toInt32) &&& (255 : Int32)).toUInt32.toUInt16.toUInt32.toInt32)), .val w7, .val (.int z8), .val (.int z9), .val w10, .val w11, .unset, .unset, .unset, .unset, .unset] [(.ref b200), (.ref b198), (.ref b198)]))
      refine own_byH (fun _ kS => XS.dup X203.here hx rfl (hb hby at_406) rfl rfl kS) ?_
      show own_ComesH Z p e below s _ _ _ (T203.setTop (mkF m 407 #[.val (.int p0), .val (.int p1), .val (.int p2), .val (.int p3), .val (.int (p0 &&& (7 : Int32))), .val (.int ((p1 &&& (255 : Int32)).toUInt32.toUInt16.toUInt32.toInt32)), .val (.int ((((p1.toUInt32 >>> ((8 : Int32) &&& 31).toUInt32).toInt32) &&& (255 : Int32)).toUInt32.toUInt16.toUInt32.toInt32)), .val w7, .val (.int z8), .val (.int z9), .val w10, .val w11, .unset, .unset, .unset, .unset, .unset] [(.ref b200), (.ref b200), (.ref b198), (.ref b198)]))
      refine own_byH (fun _ kS => XS.iconst X203.here hx rfl (hb hby at_407) kS) ?_
      show own_ComesH Z p e below s _ _ _ (T203.setTop (mkF m 408 #[.val (.int p0), .val (.int p1), .val (.int p2), .val (.int p3), .val (.int (p0 &&& (7 : Int32))), .val (.int ((p1 &&& (255 : Int32)).toUInt32.toUInt16.toUInt32.toInt32)), .val (.int ((((p1.toUInt32 >>> ((8 : Int32) &&& 31).toUInt32).toInt32) &&& (255 : Int32)).toUInt32.toUInt16.toUInt32.toInt32)), .val w7, .val (.int z8), .val (.int z9), .val w10, .val w11, .unset, .unset, .unset, .unset, .unset] [(.int (1 : Int32)), (.ref b200), (.ref b200), (.ref b198), (.ref b198)]))
      refine own_byH (fun _ kS => XS.bipush X203.here hx rfl (hb hby at_408) kS) ?_
      show own_ComesH Z p e below s _ _ _ (T203.setTop (mkF m 410 #[.val (.int p0), .val (.int p1), .val (.int p2), .val (.int p3), .val (.int (p0 &&& (7 : Int32))), .val (.int ((p1 &&& (255 : Int32)).toUInt32.toUInt16.toUInt32.toInt32)), .val (.int ((((p1.toUInt32 >>> ((8 : Int32) &&& 31).toUInt32).toInt32) &&& (255 : Int32)).toUInt32.toUInt16.toUInt32.toInt32)), .val w7, .val (.int z8), .val (.int z9), .val w10, .val w11, .unset, .unset, .unset, .unset, .unset] [(.int (50 : Int32)), (.int (1 : Int32)), (.ref b200), (.ref b200), (.ref b198), (.ref b198)]))
      have Vo205 := V203
      obtain ⟨cl205, Ar205, qA205, SA205, NA205, HA205, GA205⟩ := Vo205
      have hin205 : ¬ ((1 : Int32) < 0 ∨ cl205.slots.size ≤ ((1 : Int32)).toNatClampNeg) := inb_of SA205 ⟨by decide, by decide⟩
      obtain ⟨T206, h206, X206, e206, W206, st206⟩ := stC X203 hx hZJ388 e203 Ar205 (j := (1 : Int32)) hin205 (g := (mkF m 410 #[.val (.int p0), .val (.int p1), .val (.int p2), .val (.int p3), .val (.int (p0 &&& (7 : Int32))), .val (.int ((p1 &&& (255 : Int32)).toUInt32.toUInt16.toUInt32.toInt32)), .val (.int ((((p1.toUInt32 >>> ((8 : Int32) &&& 31).toUInt32).toInt32) &&& (255 : Int32)).toUInt32.toUInt16.toUInt32.toInt32)), .val w7, .val (.int z8), .val (.int z9), .val w10, .val w11, .unset, .unset, .unset, .unset, .unset] [(.int (50 : Int32)), (.int (1 : Int32)), (.ref b200), (.ref b200), (.ref b198), (.ref b198)])) rfl rfl (hb hby at_410)
      refine own_byH st206 ?_
      have V206 : Arv Z h206 b200 k200 .char (2 : Int32) [(.int (nar .char (49 : Int32))), (.int (nar .char (50 : Int32)))] (.int (0 : Int32)) := Arv.set Ar205 qA205 SA205 NA205 HA205 GA205 (by first | rfl | exact fits_nar_char _) W206 1 rfl (Nat.le_of_ble_eq_true rfl)
      have sf208 := CR204.safe A200.lt sb200
      have CR207 := CHr.wr W206 sf208 CH204.1
      have CH207 := CH204.trans CR207
      have N206 := Fr.snoc X206 N203 g_b200
      show own_ComesH Z p e below s _ _ _ (T206.setTop (mkF m 411 #[.val (.int p0), .val (.int p1), .val (.int p2), .val (.int p3), .val (.int (p0 &&& (7 : Int32))), .val (.int ((p1 &&& (255 : Int32)).toUInt32.toUInt16.toUInt32.toInt32)), .val (.int ((((p1.toUInt32 >>> ((8 : Int32) &&& 31).toUInt32).toInt32) &&& (255 : Int32)).toUInt32.toUInt16.toUInt32.toInt32)), .val w7, .val (.int z8), .val (.int z9), .val w10, .val w11, .unset, .unset, .unset, .unset, .unset] [(.ref b200), (.ref b198), (.ref b198)]))
      have Vc := V206
      simp only [own_narc own_49, own_narc own_50] at Vc
      have hpb198 : ∀ c ∈ [(49 : Int32), (50 : Int32)], ¬ c < 0 ∧ ¬ (255 : Int32) < c := fun c hc => by
        simp only [List.mem_cons, List.not_mem_nil, or_false] at hc
        rcases hc with rfl | rfl
        · exact own_49
        · exact own_50
      have c209 := ((((D198 (Or.inr (hw _ (List.mem_of_getElem? (i := 29) rfl))) (ty := (.array .byte)) (by decide)).ext E200).other W203 (Or.inl nA200)).other W206 (Or.inl nA200))
      have c210 := ((((D198 (Or.inr (hw _ (List.mem_of_getElem? (i := 27) rfl))) (ty := .byte) (by decide)).ext E200).other W203 (Or.inl nA200)).other W206 (Or.inl nA200))
      have c211 := ((((OJ388.ext E198).ext E200).wr W203 g_b200).wr W206 g_b200)
      obtain ⟨vv212, _, ⟨T212, L212, k212, n212⟩, -, X212, ⟨Lc212, hQ212, l212, y212, z212⟩, st212⟩ := X206.specialBack hx (y := (⟨"java/lang/String", "<init>", "([C)V"⟩ : MethodName)) rfl hownJ388 (mvT hZJ388 (hw _ (List.mem_of_getElem? (i := 4) rfl))) (mvT hZJ388 (hw _ (List.mem_of_getElem? (i := 5) rfl))) (mvT hZJ388 (hw _ (List.mem_of_getElem? (i := 6) rfl))) (by decide) (StrChars.Road.backV (W := 1) hZJ388 hws (kI := 4) (hw _ (List.mem_of_getElem? (i := 1) rfl)) (cs := [(49 : Int32), (50 : Int32)]) (bs := [(49 : Int32), (50 : Int32)].map (fun c => c.toInt8.toInt32)) (n := 2) (n0 := n0) g_b198 (Nat.le_trans (Nat.le_trans (Nat.le_trans (Nat.le_trans ZJ388 E198.1) E200.1) (Keep.of_wr W203).1) (Keep.of_wr W206).1) (((A198.ext E200).wr W203).wr W206) c209 c210 Vc (Sz.ext c211.2) hzc rfl rfl (by decide) (by decide) hpb198 rfl (by decide) (by decide)) (g := (mkF m 411 #[.val (.int p0), .val (.int p1), .val (.int p2), .val (.int p3), .val (.int (p0 &&& (7 : Int32))), .val (.int ((p1 &&& (255 : Int32)).toUInt32.toUInt16.toUInt32.toInt32)), .val (.int ((((p1.toUInt32 >>> ((8 : Int32) &&& 31).toUInt32).toInt32) &&& (255 : Int32)).toUInt32.toUInt16.toUInt32.toInt32)), .val w7, .val (.int z8), .val (.int z9), .val w10, .val w11, .unset, .unset, .unset, .unset, .unset] [(.ref b200), (.ref b198), (.ref b198)])) rfl (by rw [hml]; rfl) (Steps.refl _) (a := b198) (argsL := [(.ref b200)]) (rest := [(.ref b198)]) (lenOf pd___C_V_325 rfl) rfl (by show 2 * 0 + _ ≤ _; exact Nat.le_of_eq rfl) (hb hby at_411) (fun _ _ => ⟨rfl, e206, (by decide : 17 + 1 ≤ _), (by decide : 38 + 2 ≤ _)⟩)
      dsimp only [Pt.U, Pt.locs, Pt.cells, Pt.slots] at X212 l212 y212 z212 st212 hQ212
      subst l212 y212 z212
      obtain ⟨rfl, N212q, K212, Eb212, Cb212, t212, kb212, _, _, _, Vb212, Ab212⟩ := hQ212
      have N212 := Fr.app N206 N212q
      refine own_trH st212 ?_
      have sf214 := (CR201.trans (CR204.trans CR207)).safe A198.lt sb198
      have CR213 := CHr.keep K212 (sfS sf214 sf0) CH207.1
      have CH213 := CH207.trans CR213
      show own_ComesH Z p e below s _ _ _ (T212.setTop (mkF m 414 #[.val (.int p0), .val (.int p1), .val (.int p2), .val (.int p3), .val (.int (p0 &&& (7 : Int32))), .val (.int ((p1 &&& (255 : Int32)).toUInt32.toUInt16.toUInt32.toInt32)), .val (.int ((((p1.toUInt32 >>> ((8 : Int32) &&& 31).toUInt32).toInt32) &&& (255 : Int32)).toUInt32.toUInt16.toUInt32.toInt32)), .val w7, .val (.int z8), .val (.int z9), .val w10, .val w11, .unset, .unset, .unset, .unset, .unset] [(.ref b198)]))
      have hSb198 : own_Str Z T212.heap b198 [(49 : Int32), (50 : Int32)] := ⟨Eb212, t212, kb212, _, _, Vb212, Cb212, Ab212, StrChars.Road.codOf rfl (fun c hc => (hpb198 c hc).2), fun c hc => own_up (hpb198 c hc), Nat.le_of_ble_eq_true rfl⟩
      have c215 := (hIm.ext (own_ext ((((((Keep.refl _ []).ext E198).ext E200).wr W203 (Or.inr sz_b200)).wr W206 (Or.inr sz_b200)).trans K212 (allS (Or.inr sz_b198) all0))))
      refine own_byH (fun _ kS => XS.goto X212.here hx rfl (pc0 := 414) (pc' := 418) rfl (hb hby at_414) (by decide) (by decide) kS) ?_
      show own_ComesH Z p e below s _ _ _ (T212.setTop (mkF m 418 #[.val (.int p0), .val (.int p1), .val (.int p2), .val (.int p3), .val (.int (p0 &&& (7 : Int32))), .val (.int ((p1 &&& (255 : Int32)).toUInt32.toUInt16.toUInt32.toInt32)), .val (.int ((((p1.toUInt32 >>> ((8 : Int32) &&& 31).toUInt32).toInt32) &&& (255 : Int32)).toUInt32.toUInt16.toUInt32.toInt32)), .val w7, .val (.int z8), .val (.int z9), .val w10, .val w11, .unset, .unset, .unset, .unset, .unset] [(.ref b198)]))
      refine own_byH (fun _ kS => XS.astore X212.here hx rfl (hb hby at_418) rfl rfl (l' := #[.val (.int p0), .val (.int p1), .val (.int p2), .val (.int p3), .val (.int (p0 &&& (7 : Int32))), .val (.int ((p1 &&& (255 : Int32)).toUInt32.toUInt16.toUInt32.toInt32)), .val (.int ((((p1.toUInt32 >>> ((8 : Int32) &&& 31).toUInt32).toInt32) &&& (255 : Int32)).toUInt32.toUInt16.toUInt32.toInt32)), .val w7, .val (.int z8), .val (.int z9), .val w10, .val w11, .val (.ref b198), .unset, .unset, .unset, .unset]) rfl kS) ?_
      show own_ComesH Z p e below s _ _ _ (T212.setTop (mkF m 420 #[.val (.int p0), .val (.int p1), .val (.int p2), .val (.int p3), .val (.int (p0 &&& (7 : Int32))), .val (.int ((p1 &&& (255 : Int32)).toUInt32.toUInt16.toUInt32.toInt32)), .val (.int ((((p1.toUInt32 >>> ((8 : Int32) &&& 31).toUInt32).toInt32) &&& (255 : Int32)).toUInt32.toUInt16.toUInt32.toInt32)), .val w7, .val (.int z8), .val (.int z9), .val w10, .val w11, .val (.ref b198), .unset, .unset, .unset, .unset] []))
      exact J420 _ _ _ _ _ w7 z8 z9 w10 w11 (.ref b198) (X212.more (by decide) (by decide)) rfl hZJ388 hownJ388 hSJ388 (Nat.le_trans (Nat.le_trans (Nat.le_trans (Nat.le_trans (Nat.le_trans hkJ388 E198.1) E200.1) (Keep.of_wr W203).1) (Keep.of_wr W206).1) K212.1) CH213 N212 (c211.keep K212 (allS g_b198 all0)) (Nat.le_trans (Nat.le_trans (Nat.le_trans (Nat.le_trans (Nat.le_trans ZJ388 E198.1) E200.1) (Keep.of_wr W203).1) (Keep.of_wr W206).1) K212.1) c215 hU i_w11 rfl
  have J356 : ∀ (vJ356 : Vm) (TJ356 : State) (hJ356 : Heap) (LJ356 : List Loc) (kJ356 : Nat) (w7 : Value) (z8 : Int32) (z9 : Int32) (w10 : Value), Stand p l e room_1 (s.setVm vJ356) m #[(.int p0), (.int p1), (.int p2), (.int p3)] below meth c TJ356 LJ356 12 24 → TJ356.heap = hJ356 → Z.Warmed39 (s.setVm vJ356).vm → (s.setVm vJ356).vm.findClass "com/example/beija_flor/beijaflor/brcode/BrCodeIsDynamicPinLaw" = some m.cls → s.Since vJ356 kJ356 → kJ356 ≤ hJ356.size → CHr Z own_EL (s.setVm s.vm).vm h0 (s.setVm vJ356).vm hJ356 → Fr n0 LJ356 → Old Z n0 hJ356 → n0 ≤ hJ356.size → (own_im Z hJ356 w7 z8) → (own_url w10 z9) → own_ComesH Z p e below s room_1.cells room_1.slots (Q0 Z h0 n0) (TJ356.setTop (mkF m 356 #[.val (.int p0), .val (.int p1), .val (.int p2), .val (.int p3), .val (.int (p0 &&& (7 : Int32))), .val (.int ((p1 &&& (255 : Int32)).toUInt32.toUInt16.toUInt32.toInt32)), .val (.int ((((p1.toUInt32 >>> ((8 : Int32) &&& 31).toUInt32).toInt32) &&& (255 : Int32)).toUInt32.toUInt16.toUInt32.toInt32)), .val w7, .val (.int z8), .val (.int z9), .val w10, .unset, .unset, .unset, .unset, .unset, .unset] [])) := by
    intro vJ356 TJ356 hJ356 LJ356 kJ356 w7 z8 z9 w10 XJ356 eJ356 hZJ356 hownJ356 hSJ356 hkJ356 CHJ356 NJ356 OJ356 ZJ356 hIm hU
    show own_ComesH Z p e below s _ _ _ (TJ356.setTop (mkF m 356 #[.val (.int p0), .val (.int p1), .val (.int p2), .val (.int p3), .val (.int (p0 &&& (7 : Int32))), .val (.int ((p1 &&& (255 : Int32)).toUInt32.toUInt16.toUInt32.toInt32)), .val (.int ((((p1.toUInt32 >>> ((8 : Int32) &&& 31).toUInt32).toInt32) &&& (255 : Int32)).toUInt32.toUInt16.toUInt32.toInt32)), .val w7, .val (.int z8), .val (.int z9), .val w10, .unset, .unset, .unset, .unset, .unset, .unset] []))
    refine own_byH (fun _ kS => XS.iloadN XJ356.here hx rfl (hb hby at_356) rfl kS) ?_
    show own_ComesH Z p e below s _ _ _ (TJ356.setTop (mkF m 357 #[.val (.int p0), .val (.int p1), .val (.int p2), .val (.int p3), .val (.int (p0 &&& (7 : Int32))), .val (.int ((p1 &&& (255 : Int32)).toUInt32.toUInt16.toUInt32.toInt32)), .val (.int ((((p1.toUInt32 >>> ((8 : Int32) &&& 31).toUInt32).toInt32) &&& (255 : Int32)).toUInt32.toUInt16.toUInt32.toInt32)), .val w7, .val (.int z8), .val (.int z9), .val w10, .unset, .unset, .unset, .unset, .unset, .unset] [(.int p3)]))
    refine own_byH (fun _ kS => XS.iconst XJ356.here hx rfl (hb hby at_357) kS) ?_
    show own_ComesH Z p e below s _ _ _ (TJ356.setTop (mkF m 358 #[.val (.int p0), .val (.int p1), .val (.int p2), .val (.int p3), .val (.int (p0 &&& (7 : Int32))), .val (.int ((p1 &&& (255 : Int32)).toUInt32.toUInt16.toUInt32.toInt32)), .val (.int ((((p1.toUInt32 >>> ((8 : Int32) &&& 31).toUInt32).toInt32) &&& (255 : Int32)).toUInt32.toUInt16.toUInt32.toInt32)), .val w7, .val (.int z8), .val (.int z9), .val w10, .unset, .unset, .unset, .unset, .unset, .unset] [(.int (1 : Int32)), (.int p3)]))
    refine own_byH (fun _ kS => XS.iand XJ356.here hx rfl (hb hby at_358) rfl kS) ?_
    show own_ComesH Z p e below s _ _ _ (TJ356.setTop (mkF m 359 #[.val (.int p0), .val (.int p1), .val (.int p2), .val (.int p3), .val (.int (p0 &&& (7 : Int32))), .val (.int ((p1 &&& (255 : Int32)).toUInt32.toUInt16.toUInt32.toInt32)), .val (.int ((((p1.toUInt32 >>> ((8 : Int32) &&& 31).toUInt32).toInt32) &&& (255 : Int32)).toUInt32.toUInt16.toUInt32.toInt32)), .val w7, .val (.int z8), .val (.int z9), .val w10, .unset, .unset, .unset, .unset, .unset, .unset] [(.int (p3 &&& (1 : Int32)))]))
    by_cases hd356 : (p3 &&& (1 : Int32)) = (0 : Int32)
    · refine own_byH (fun _ kS => XS.ifYes XJ356.here hx rfl (pc0 := 359) (pc' := 385) rfl (hb hby at_359) rfl ((if0 _ _).trans (teq hd356).1) (by decide) (by decide) kS) ?_
      show own_ComesH Z p e below s _ _ _ (TJ356.setTop (mkF m 385 #[.val (.int p0), .val (.int p1), .val (.int p2), .val (.int p3), .val (.int (p0 &&& (7 : Int32))), .val (.int ((p1 &&& (255 : Int32)).toUInt32.toUInt16.toUInt32.toInt32)), .val (.int ((((p1.toUInt32 >>> ((8 : Int32) &&& 31).toUInt32).toInt32) &&& (255 : Int32)).toUInt32.toUInt16.toUInt32.toInt32)), .val w7, .val (.int z8), .val (.int z9), .val w10, .unset, .unset, .unset, .unset, .unset, .unset] []))
      refine own_byH (fun _ kS => XS.aconstNull XJ356.here hx rfl (hb hby at_385) kS) ?_
      show own_ComesH Z p e below s _ _ _ (TJ356.setTop (mkF m 386 #[.val (.int p0), .val (.int p1), .val (.int p2), .val (.int p3), .val (.int (p0 &&& (7 : Int32))), .val (.int ((p1 &&& (255 : Int32)).toUInt32.toUInt16.toUInt32.toInt32)), .val (.int ((((p1.toUInt32 >>> ((8 : Int32) &&& 31).toUInt32).toInt32) &&& (255 : Int32)).toUInt32.toUInt16.toUInt32.toInt32)), .val w7, .val (.int z8), .val (.int z9), .val w10, .unset, .unset, .unset, .unset, .unset, .unset] [.null]))
      refine own_byH (fun _ kS => XS.astore XJ356.here hx rfl (hb hby at_386) rfl rfl (l' := #[.val (.int p0), .val (.int p1), .val (.int p2), .val (.int p3), .val (.int (p0 &&& (7 : Int32))), .val (.int ((p1 &&& (255 : Int32)).toUInt32.toUInt16.toUInt32.toInt32)), .val (.int ((((p1.toUInt32 >>> ((8 : Int32) &&& 31).toUInt32).toInt32) &&& (255 : Int32)).toUInt32.toUInt16.toUInt32.toInt32)), .val w7, .val (.int z8), .val (.int z9), .val w10, .val .null, .unset, .unset, .unset, .unset, .unset]) rfl kS) ?_
      show own_ComesH Z p e below s _ _ _ (TJ356.setTop (mkF m 388 #[.val (.int p0), .val (.int p1), .val (.int p2), .val (.int p3), .val (.int (p0 &&& (7 : Int32))), .val (.int ((p1 &&& (255 : Int32)).toUInt32.toUInt16.toUInt32.toInt32)), .val (.int ((((p1.toUInt32 >>> ((8 : Int32) &&& 31).toUInt32).toInt32) &&& (255 : Int32)).toUInt32.toUInt16.toUInt32.toInt32)), .val w7, .val (.int z8), .val (.int z9), .val w10, .val .null, .unset, .unset, .unset, .unset, .unset] []))
      exact J388 _ _ _ _ _ w7 z8 z9 w10 .null (XJ356.more (by decide) (by decide)) eJ356 hZJ356 hownJ356 hSJ356 hkJ356 CHJ356 NJ356 OJ356 ZJ356 hIm hU rfl
    · refine own_byH (fun _ kS => XS.ifNo XJ356.here hx rfl (hb hby at_359) rfl ((if0 _ _).trans (feq hd356).1) kS) ?_
      show own_ComesH Z p e below s _ _ _ (TJ356.setTop (mkF m 362 #[.val (.int p0), .val (.int p1), .val (.int p2), .val (.int p3), .val (.int (p0 &&& (7 : Int32))), .val (.int ((p1 &&& (255 : Int32)).toUInt32.toUInt16.toUInt32.toInt32)), .val (.int ((((p1.toUInt32 >>> ((8 : Int32) &&& 31).toUInt32).toInt32) &&& (255 : Int32)).toUInt32.toUInt16.toUInt32.toInt32)), .val w7, .val (.int z8), .val (.int z9), .val w10, .unset, .unset, .unset, .unset, .unset, .unset] []))
      obtain ⟨T216, h216, X216, e216, E216, A216, D216, -, st216⟩ := newO XJ356 hx hZJ356 hownJ356 (hw _ (List.mem_of_getElem? (i := 0) rfl)) (hw _ (List.mem_of_getElem? (i := 1) rfl)) (hw _ (List.mem_of_getElem? (i := 2) rfl)) eJ356 (g := (mkF m 362 #[.val (.int p0), .val (.int p1), .val (.int p2), .val (.int p3), .val (.int (p0 &&& (7 : Int32))), .val (.int ((p1 &&& (255 : Int32)).toUInt32.toUInt16.toUInt32.toInt32)), .val (.int ((((p1.toUInt32 >>> ((8 : Int32) &&& 31).toUInt32).toInt32) &&& (255 : Int32)).toUInt32.toUInt16.toUInt32.toInt32)), .val w7, .val (.int z8), .val (.int z9), .val w10, .unset, .unset, .unset, .unset, .unset, .unset] [])) rfl (hb hby at_362) (by decide) (by decide)
      obtain ⟨b216, g216⟩ : ∃ z, z = hJ356.size := ⟨_, rfl⟩
      rw [← g216] at A216 D216 st216
      have g_b216 : n0 ≤ b216 := Nat.le_trans ZJ356 (Nat.le_of_eq g216.symm)
      refine own_byH st216 ?_
      have CR217 := CHr.ext E216 CHJ356.1
      have CH217 := CHJ356.trans CR217
      have sb216 := Safe.ext E216 CHJ356.1 (Safe.new (Nat.le_of_eq g216.symm))
      show own_ComesH Z p e below s _ _ _ (T216.setTop (mkF m 365 #[.val (.int p0), .val (.int p1), .val (.int p2), .val (.int p3), .val (.int (p0 &&& (7 : Int32))), .val (.int ((p1 &&& (255 : Int32)).toUInt32.toUInt16.toUInt32.toInt32)), .val (.int ((((p1.toUInt32 >>> ((8 : Int32) &&& 31).toUInt32).toInt32) &&& (255 : Int32)).toUInt32.toUInt16.toUInt32.toInt32)), .val w7, .val (.int z8), .val (.int z9), .val w10, .unset, .unset, .unset, .unset, .unset, .unset] [(.ref b216)]))
      refine own_byH (fun _ kS => XS.dup X216.here hx rfl (hb hby at_365) rfl rfl kS) ?_
      show own_ComesH Z p e below s _ _ _ (T216.setTop (mkF m 366 #[.val (.int p0), .val (.int p1), .val (.int p2), .val (.int p3), .val (.int (p0 &&& (7 : Int32))), .val (.int ((p1 &&& (255 : Int32)).toUInt32.toUInt16.toUInt32.toInt32)), .val (.int ((((p1.toUInt32 >>> ((8 : Int32) &&& 31).toUInt32).toInt32) &&& (255 : Int32)).toUInt32.toUInt16.toUInt32.toInt32)), .val w7, .val (.int z8), .val (.int z9), .val w10, .unset, .unset, .unset, .unset, .unset, .unset] [(.ref b216), (.ref b216)]))
      refine own_byH (fun _ kS => XS.iconst X216.here hx rfl (hb hby at_366) kS) ?_
      show own_ComesH Z p e below s _ _ _ (T216.setTop (mkF m 367 #[.val (.int p0), .val (.int p1), .val (.int p2), .val (.int p3), .val (.int (p0 &&& (7 : Int32))), .val (.int ((p1 &&& (255 : Int32)).toUInt32.toUInt16.toUInt32.toInt32)), .val (.int ((((p1.toUInt32 >>> ((8 : Int32) &&& 31).toUInt32).toInt32) &&& (255 : Int32)).toUInt32.toUInt16.toUInt32.toInt32)), .val w7, .val (.int z8), .val (.int z9), .val w10, .unset, .unset, .unset, .unset, .unset, .unset] [(.int (2 : Int32)), (.ref b216), (.ref b216)]))
      obtain ⟨T218, h218, k218, X218, e218, E218, A218, st218⟩ := newP X216 hx hZJ356 (hw _ (List.mem_of_getElem? (i := 3) rfl)) e216 (g := (mkF m 367 #[.val (.int p0), .val (.int p1), .val (.int p2), .val (.int p3), .val (.int (p0 &&& (7 : Int32))), .val (.int ((p1 &&& (255 : Int32)).toUInt32.toUInt16.toUInt32.toInt32)), .val (.int ((((p1.toUInt32 >>> ((8 : Int32) &&& 31).toUInt32).toInt32) &&& (255 : Int32)).toUInt32.toUInt16.toUInt32.toInt32)), .val w7, .val (.int z8), .val (.int z9), .val w10, .unset, .unset, .unset, .unset, .unset, .unset] [(.int (2 : Int32)), (.ref b216), (.ref b216)])) rfl (hb hby at_367) rfl (by decide) (cap := 2) (by decide) (by decide) (by decide) (by decide)
      obtain ⟨b218, g218⟩ : ∃ z, z = h216.size := ⟨_, rfl⟩
      rw [← g218] at A218 st218
      have g_b218 : n0 ≤ b218 := Nat.le_trans (Nat.le_trans ZJ356 E216.1) (Nat.le_of_eq g218.symm)
      refine own_byH st218 ?_
      have CR219 := CHr.ext E218 CH217.1
      have CH219 := CH217.trans CR219
      have sb218 := Safe.ext E218 CH217.1 (Safe.new (Nat.le_of_eq g218.symm))
      have V_b218 : Arv Z h218 b218 k218 .char (2 : Int32) [(.int (0 : Int32)), (.int (0 : Int32))] (.int (0 : Int32)) := (Arv.new A218 (by decide)).pad (pad_rep [] (.int (0 : Int32)) 2)
      show own_ComesH Z p e below s _ _ _ (T218.setTop (mkF m 369 #[.val (.int p0), .val (.int p1), .val (.int p2), .val (.int p3), .val (.int (p0 &&& (7 : Int32))), .val (.int ((p1 &&& (255 : Int32)).toUInt32.toUInt16.toUInt32.toInt32)), .val (.int ((((p1.toUInt32 >>> ((8 : Int32) &&& 31).toUInt32).toInt32) &&& (255 : Int32)).toUInt32.toUInt16.toUInt32.toInt32)), .val w7, .val (.int z8), .val (.int z9), .val w10, .unset, .unset, .unset, .unset, .unset, .unset] [(.ref b218), (.ref b216), (.ref b216)]))
      have sz_b218 : hJ356.size ≤ b218 := Nat.le_trans ((Keep.refl _ []).ext E216).1 (Nat.le_of_eq g218.symm)
      have nA218 : b216 ≠ b218 := Nat.ne_of_lt (Nat.lt_of_lt_of_le A216.lt (Nat.le_of_eq g218.symm))
      have sz_b216 : hJ356.size ≤ b216 := Nat.le_of_eq g216.symm
      refine own_byH (fun _ kS => XS.dup X218.here hx rfl (hb hby at_369) rfl rfl kS) ?_
      show own_ComesH Z p e below s _ _ _ (T218.setTop (mkF m 370 #[.val (.int p0), .val (.int p1), .val (.int p2), .val (.int p3), .val (.int (p0 &&& (7 : Int32))), .val (.int ((p1 &&& (255 : Int32)).toUInt32.toUInt16.toUInt32.toInt32)), .val (.int ((((p1.toUInt32 >>> ((8 : Int32) &&& 31).toUInt32).toInt32) &&& (255 : Int32)).toUInt32.toUInt16.toUInt32.toInt32)), .val w7, .val (.int z8), .val (.int z9), .val w10, .unset, .unset, .unset, .unset, .unset, .unset] [(.ref b218), (.ref b218), (.ref b216), (.ref b216)]))
      refine own_byH (fun _ kS => XS.iconst X218.here hx rfl (hb hby at_370) kS) ?_
      show own_ComesH Z p e below s _ _ _ (T218.setTop (mkF m 371 #[.val (.int p0), .val (.int p1), .val (.int p2), .val (.int p3), .val (.int (p0 &&& (7 : Int32))), .val (.int ((p1 &&& (255 : Int32)).toUInt32.toUInt16.toUInt32.toInt32)), .val (.int ((((p1.toUInt32 >>> ((8 : Int32) &&& 31).toUInt32).toInt32) &&& (255 : Int32)).toUInt32.toUInt16.toUInt32.toInt32)), .val w7, .val (.int z8), .val (.int z9), .val w10, .unset, .unset, .unset, .unset, .unset, .unset] [(.int (0 : Int32)), (.ref b218), (.ref b218), (.ref b216), (.ref b216)]))
      refine own_byH (fun _ kS => XS.bipush X218.here hx rfl (hb hby at_371) kS) ?_
      show own_ComesH Z p e below s _ _ _ (T218.setTop (mkF m 373 #[.val (.int p0), .val (.int p1), .val (.int p2), .val (.int p3), .val (.int (p0 &&& (7 : Int32))), .val (.int ((p1 &&& (255 : Int32)).toUInt32.toUInt16.toUInt32.toInt32)), .val (.int ((((p1.toUInt32 >>> ((8 : Int32) &&& 31).toUInt32).toInt32) &&& (255 : Int32)).toUInt32.toUInt16.toUInt32.toInt32)), .val w7, .val (.int z8), .val (.int z9), .val w10, .unset, .unset, .unset, .unset, .unset, .unset] [(.int (49 : Int32)), (.int (0 : Int32)), (.ref b218), (.ref b218), (.ref b216), (.ref b216)]))
      have Vo220 := V_b218
      obtain ⟨cl220, Ar220, qA220, SA220, NA220, HA220, GA220⟩ := Vo220
      have hin220 : ¬ ((0 : Int32) < 0 ∨ cl220.slots.size ≤ ((0 : Int32)).toNatClampNeg) := inb_of SA220 ⟨by decide, by decide⟩
      obtain ⟨T221, h221, X221, e221, W221, st221⟩ := stC X218 hx hZJ356 e218 Ar220 (j := (0 : Int32)) hin220 (g := (mkF m 373 #[.val (.int p0), .val (.int p1), .val (.int p2), .val (.int p3), .val (.int (p0 &&& (7 : Int32))), .val (.int ((p1 &&& (255 : Int32)).toUInt32.toUInt16.toUInt32.toInt32)), .val (.int ((((p1.toUInt32 >>> ((8 : Int32) &&& 31).toUInt32).toInt32) &&& (255 : Int32)).toUInt32.toUInt16.toUInt32.toInt32)), .val w7, .val (.int z8), .val (.int z9), .val w10, .unset, .unset, .unset, .unset, .unset, .unset] [(.int (49 : Int32)), (.int (0 : Int32)), (.ref b218), (.ref b218), (.ref b216), (.ref b216)])) rfl rfl (hb hby at_373)
      refine own_byH st221 ?_
      have V221 : Arv Z h221 b218 k218 .char (2 : Int32) [(.int (nar .char (49 : Int32))), (.int (0 : Int32))] (.int (0 : Int32)) := Arv.set Ar220 qA220 SA220 NA220 HA220 GA220 (by first | rfl | exact fits_nar_char _) W221 0 rfl (Nat.le_of_ble_eq_true rfl)
      have CR222 := CHr.wr W221 sb218 CH219.1
      have CH222 := CH219.trans CR222
      have N221 := Fr.snoc X221 NJ356 g_b218
      show own_ComesH Z p e below s _ _ _ (T221.setTop (mkF m 374 #[.val (.int p0), .val (.int p1), .val (.int p2), .val (.int p3), .val (.int (p0 &&& (7 : Int32))), .val (.int ((p1 &&& (255 : Int32)).toUInt32.toUInt16.toUInt32.toInt32)), .val (.int ((((p1.toUInt32 >>> ((8 : Int32) &&& 31).toUInt32).toInt32) &&& (255 : Int32)).toUInt32.toUInt16.toUInt32.toInt32)), .val w7, .val (.int z8), .val (.int z9), .val w10, .unset, .unset, .unset, .unset, .unset, .unset] [(.ref b218), (.ref b216), (.ref b216)]))
      refine own_byH (fun _ kS => XS.dup X221.here hx rfl (hb hby at_374) rfl rfl kS) ?_
      show own_ComesH Z p e below s _ _ _ (T221.setTop (mkF m 375 #[.val (.int p0), .val (.int p1), .val (.int p2), .val (.int p3), .val (.int (p0 &&& (7 : Int32))), .val (.int ((p1 &&& (255 : Int32)).toUInt32.toUInt16.toUInt32.toInt32)), .val (.int ((((p1.toUInt32 >>> ((8 : Int32) &&& 31).toUInt32).toInt32) &&& (255 : Int32)).toUInt32.toUInt16.toUInt32.toInt32)), .val w7, .val (.int z8), .val (.int z9), .val w10, .unset, .unset, .unset, .unset, .unset, .unset] [(.ref b218), (.ref b218), (.ref b216), (.ref b216)]))
      refine own_byH (fun _ kS => XS.iconst X221.here hx rfl (hb hby at_375) kS) ?_
      show own_ComesH Z p e below s _ _ _ (T221.setTop (mkF m 376 #[.val (.int p0), .val (.int p1), .val (.int p2), .val (.int p3), .val (.int (p0 &&& (7 : Int32))), .val (.int ((p1 &&& (255 : Int32)).toUInt32.toUInt16.toUInt32.toInt32)), .val (.int ((((p1.toUInt32 >>> ((8 : Int32) &&& 31).toUInt32).toInt32) &&& (255 : Int32)).toUInt32.toUInt16.toUInt32.toInt32)), .val w7, .val (.int z8), .val (.int z9), .val w10, .unset, .unset, .unset, .unset, .unset, .unset] [(.int (1 : Int32)), (.ref b218), (.ref b218), (.ref b216), (.ref b216)]))
      refine own_byH (fun _ kS => XS.bipush X221.here hx rfl (hb hby at_376) kS) ?_
      show own_ComesH Z p e below s _ _ _ (T221.setTop (mkF m 378 #[.val (.int p0), .val (.int p1), .val (.int p2), .val (.int p3), .val (.int (p0 &&& (7 : Int32))), .val (.int ((p1 &&& (255 : Int32)).toUInt32.toUInt16.toUInt32.toInt32)), .val (.int ((((p1.toUInt32 >>> ((8 : Int32) &&& 31).toUInt32).toInt32) &&& (255 : Int32)).toUInt32.toUInt16.toUInt32.toInt32)), .val w7, .val (.int z8), .val (.int z9), .val w10, .unset, .unset, .unset, .unset, .unset, .unset] [(.int (50 : Int32)), (.int (1 : Int32)), (.ref b218), (.ref b218), (.ref b216), (.ref b216)]))
      have Vo223 := V221
      obtain ⟨cl223, Ar223, qA223, SA223, NA223, HA223, GA223⟩ := Vo223
      have hin223 : ¬ ((1 : Int32) < 0 ∨ cl223.slots.size ≤ ((1 : Int32)).toNatClampNeg) := inb_of SA223 ⟨by decide, by decide⟩
      obtain ⟨T224, h224, X224, e224, W224, st224⟩ := stC X221 hx hZJ356 e221 Ar223 (j := (1 : Int32)) hin223 (g := (mkF m 378 #[.val (.int p0), .val (.int p1), .val (.int p2), .val (.int p3), .val (.int (p0 &&& (7 : Int32))), .val (.int ((p1 &&& (255 : Int32)).toUInt32.toUInt16.toUInt32.toInt32)), .val (.int ((((p1.toUInt32 >>> ((8 : Int32) &&& 31).toUInt32).toInt32) &&& (255 : Int32)).toUInt32.toUInt16.toUInt32.toInt32)), .val w7, .val (.int z8), .val (.int z9), .val w10, .unset, .unset, .unset, .unset, .unset, .unset] [(.int (50 : Int32)), (.int (1 : Int32)), (.ref b218), (.ref b218), (.ref b216), (.ref b216)])) rfl rfl (hb hby at_378)
      refine own_byH st224 ?_
      have V224 : Arv Z h224 b218 k218 .char (2 : Int32) [(.int (nar .char (49 : Int32))), (.int (nar .char (50 : Int32)))] (.int (0 : Int32)) := Arv.set Ar223 qA223 SA223 NA223 HA223 GA223 (by first | rfl | exact fits_nar_char _) W224 1 rfl (Nat.le_of_ble_eq_true rfl)
      have sf226 := CR222.safe A218.lt sb218
      have CR225 := CHr.wr W224 sf226 CH222.1
      have CH225 := CH222.trans CR225
      have N224 := Fr.snoc X224 N221 g_b218
      show own_ComesH Z p e below s _ _ _ (T224.setTop (mkF m 379 #[.val (.int p0), .val (.int p1), .val (.int p2), .val (.int p3), .val (.int (p0 &&& (7 : Int32))), .val (.int ((p1 &&& (255 : Int32)).toUInt32.toUInt16.toUInt32.toInt32)), .val (.int ((((p1.toUInt32 >>> ((8 : Int32) &&& 31).toUInt32).toInt32) &&& (255 : Int32)).toUInt32.toUInt16.toUInt32.toInt32)), .val w7, .val (.int z8), .val (.int z9), .val w10, .unset, .unset, .unset, .unset, .unset, .unset] [(.ref b218), (.ref b216), (.ref b216)]))
      have Vc := V224
      simp only [own_narc own_49, own_narc own_50] at Vc
      have hpb216 : ∀ c ∈ [(49 : Int32), (50 : Int32)], ¬ c < 0 ∧ ¬ (255 : Int32) < c := fun c hc => by
        simp only [List.mem_cons, List.not_mem_nil, or_false] at hc
        rcases hc with rfl | rfl
        · exact own_49
        · exact own_50
      have c227 := ((((D216 (Or.inr (hw _ (List.mem_of_getElem? (i := 29) rfl))) (ty := (.array .byte)) (by decide)).ext E218).other W221 (Or.inl nA218)).other W224 (Or.inl nA218))
      have c228 := ((((D216 (Or.inr (hw _ (List.mem_of_getElem? (i := 27) rfl))) (ty := .byte) (by decide)).ext E218).other W221 (Or.inl nA218)).other W224 (Or.inl nA218))
      have c229 := ((((OJ356.ext E216).ext E218).wr W221 g_b218).wr W224 g_b218)
      obtain ⟨vv230, _, ⟨T230, L230, k230, n230⟩, -, X230, ⟨Lc230, hQ230, l230, y230, z230⟩, st230⟩ := X224.specialBack hx (y := (⟨"java/lang/String", "<init>", "([C)V"⟩ : MethodName)) rfl hownJ356 (mvT hZJ356 (hw _ (List.mem_of_getElem? (i := 4) rfl))) (mvT hZJ356 (hw _ (List.mem_of_getElem? (i := 5) rfl))) (mvT hZJ356 (hw _ (List.mem_of_getElem? (i := 6) rfl))) (by decide) (StrChars.Road.backV (W := 1) hZJ356 hws (kI := 4) (hw _ (List.mem_of_getElem? (i := 1) rfl)) (cs := [(49 : Int32), (50 : Int32)]) (bs := [(49 : Int32), (50 : Int32)].map (fun c => c.toInt8.toInt32)) (n := 2) (n0 := n0) g_b216 (Nat.le_trans (Nat.le_trans (Nat.le_trans (Nat.le_trans ZJ356 E216.1) E218.1) (Keep.of_wr W221).1) (Keep.of_wr W224).1) (((A216.ext E218).wr W221).wr W224) c227 c228 Vc (Sz.ext c229.2) hzc rfl rfl (by decide) (by decide) hpb216 rfl (by decide) (by decide)) (g := (mkF m 379 #[.val (.int p0), .val (.int p1), .val (.int p2), .val (.int p3), .val (.int (p0 &&& (7 : Int32))), .val (.int ((p1 &&& (255 : Int32)).toUInt32.toUInt16.toUInt32.toInt32)), .val (.int ((((p1.toUInt32 >>> ((8 : Int32) &&& 31).toUInt32).toInt32) &&& (255 : Int32)).toUInt32.toUInt16.toUInt32.toInt32)), .val w7, .val (.int z8), .val (.int z9), .val w10, .unset, .unset, .unset, .unset, .unset, .unset] [(.ref b218), (.ref b216), (.ref b216)])) rfl (by rw [hml]; rfl) (Steps.refl _) (a := b216) (argsL := [(.ref b218)]) (rest := [(.ref b216)]) (lenOf pd___C_V_325 rfl) rfl (by show 2 * 0 + _ ≤ _; exact Nat.le_of_eq rfl) (hb hby at_379) (fun _ _ => ⟨rfl, e224, (by decide : 14 + 1 ≤ _), (by decide : 30 + 2 ≤ _)⟩)
      dsimp only [Pt.U, Pt.locs, Pt.cells, Pt.slots] at X230 l230 y230 z230 st230 hQ230
      subst l230 y230 z230
      obtain ⟨rfl, N230q, K230, Eb230, Cb230, t230, kb230, _, _, _, Vb230, Ab230⟩ := hQ230
      have N230 := Fr.app N224 N230q
      refine own_trH st230 ?_
      have sf232 := (CR219.trans (CR222.trans CR225)).safe A216.lt sb216
      have CR231 := CHr.keep K230 (sfS sf232 sf0) CH225.1
      have CH231 := CH225.trans CR231
      show own_ComesH Z p e below s _ _ _ (T230.setTop (mkF m 382 #[.val (.int p0), .val (.int p1), .val (.int p2), .val (.int p3), .val (.int (p0 &&& (7 : Int32))), .val (.int ((p1 &&& (255 : Int32)).toUInt32.toUInt16.toUInt32.toInt32)), .val (.int ((((p1.toUInt32 >>> ((8 : Int32) &&& 31).toUInt32).toInt32) &&& (255 : Int32)).toUInt32.toUInt16.toUInt32.toInt32)), .val w7, .val (.int z8), .val (.int z9), .val w10, .unset, .unset, .unset, .unset, .unset, .unset] [(.ref b216)]))
      have hSb216 : own_Str Z T230.heap b216 [(49 : Int32), (50 : Int32)] := ⟨Eb230, t230, kb230, _, _, Vb230, Cb230, Ab230, StrChars.Road.codOf rfl (fun c hc => (hpb216 c hc).2), fun c hc => own_up (hpb216 c hc), Nat.le_of_ble_eq_true rfl⟩
      have c233 := (hIm.ext (own_ext ((((((Keep.refl _ []).ext E216).ext E218).wr W221 (Or.inr sz_b218)).wr W224 (Or.inr sz_b218)).trans K230 (allS (Or.inr sz_b216) all0))))
      refine own_byH (fun _ kS => XS.goto X230.here hx rfl (pc0 := 382) (pc' := 386) rfl (hb hby at_382) (by decide) (by decide) kS) ?_
      show own_ComesH Z p e below s _ _ _ (T230.setTop (mkF m 386 #[.val (.int p0), .val (.int p1), .val (.int p2), .val (.int p3), .val (.int (p0 &&& (7 : Int32))), .val (.int ((p1 &&& (255 : Int32)).toUInt32.toUInt16.toUInt32.toInt32)), .val (.int ((((p1.toUInt32 >>> ((8 : Int32) &&& 31).toUInt32).toInt32) &&& (255 : Int32)).toUInt32.toUInt16.toUInt32.toInt32)), .val w7, .val (.int z8), .val (.int z9), .val w10, .unset, .unset, .unset, .unset, .unset, .unset] [(.ref b216)]))
      refine own_byH (fun _ kS => XS.astore X230.here hx rfl (hb hby at_386) rfl rfl (l' := #[.val (.int p0), .val (.int p1), .val (.int p2), .val (.int p3), .val (.int (p0 &&& (7 : Int32))), .val (.int ((p1 &&& (255 : Int32)).toUInt32.toUInt16.toUInt32.toInt32)), .val (.int ((((p1.toUInt32 >>> ((8 : Int32) &&& 31).toUInt32).toInt32) &&& (255 : Int32)).toUInt32.toUInt16.toUInt32.toInt32)), .val w7, .val (.int z8), .val (.int z9), .val w10, .val (.ref b216), .unset, .unset, .unset, .unset, .unset]) rfl kS) ?_
      show own_ComesH Z p e below s _ _ _ (T230.setTop (mkF m 388 #[.val (.int p0), .val (.int p1), .val (.int p2), .val (.int p3), .val (.int (p0 &&& (7 : Int32))), .val (.int ((p1 &&& (255 : Int32)).toUInt32.toUInt16.toUInt32.toInt32)), .val (.int ((((p1.toUInt32 >>> ((8 : Int32) &&& 31).toUInt32).toInt32) &&& (255 : Int32)).toUInt32.toUInt16.toUInt32.toInt32)), .val w7, .val (.int z8), .val (.int z9), .val w10, .val (.ref b216), .unset, .unset, .unset, .unset, .unset] []))
      exact J388 _ _ _ _ _ w7 z8 z9 w10 (.ref b216) (X230.more (by decide) (by decide)) rfl hZJ356 hownJ356 hSJ356 (Nat.le_trans (Nat.le_trans (Nat.le_trans (Nat.le_trans (Nat.le_trans hkJ356 E216.1) E218.1) (Keep.of_wr W221).1) (Keep.of_wr W224).1) K230.1) CH231 N230 (c229.keep K230 (allS g_b216 all0)) (Nat.le_trans (Nat.le_trans (Nat.le_trans (Nat.le_trans (Nat.le_trans ZJ356 E216.1) E218.1) (Keep.of_wr W221).1) (Keep.of_wr W224).1) K230.1) c233 hU rfl
  have J299 : ∀ (vJ299 : Vm) (TJ299 : State) (hJ299 : Heap) (LJ299 : List Loc) (kJ299 : Nat) (w7 : Value) (z8 : Int32), Stand p l e room_1 (s.setVm vJ299) m #[(.int p0), (.int p1), (.int p2), (.int p3)] below meth c TJ299 LJ299 6 12 → TJ299.heap = hJ299 → Z.Warmed39 (s.setVm vJ299).vm → (s.setVm vJ299).vm.findClass "com/example/beija_flor/beijaflor/brcode/BrCodeIsDynamicPinLaw" = some m.cls → s.Since vJ299 kJ299 → kJ299 ≤ hJ299.size → CHr Z own_EL (s.setVm s.vm).vm h0 (s.setVm vJ299).vm hJ299 → Fr n0 LJ299 → Old Z n0 hJ299 → n0 ≤ hJ299.size → (own_im Z hJ299 w7 z8) → own_ComesH Z p e below s room_1.cells room_1.slots (Q0 Z h0 n0) (TJ299.setTop (mkF m 299 #[.val (.int p0), .val (.int p1), .val (.int p2), .val (.int p3), .val (.int (p0 &&& (7 : Int32))), .val (.int ((p1 &&& (255 : Int32)).toUInt32.toUInt16.toUInt32.toInt32)), .val (.int ((((p1.toUInt32 >>> ((8 : Int32) &&& 31).toUInt32).toInt32) &&& (255 : Int32)).toUInt32.toUInt16.toUInt32.toInt32)), .val w7, .val (.int z8), .unset, .unset, .unset, .unset, .unset, .unset, .unset, .unset] [])) := by
    intro vJ299 TJ299 hJ299 LJ299 kJ299 w7 z8 XJ299 eJ299 hZJ299 hownJ299 hSJ299 hkJ299 CHJ299 NJ299 OJ299 ZJ299 hIm
    show own_ComesH Z p e below s _ _ _ (TJ299.setTop (mkF m 299 #[.val (.int p0), .val (.int p1), .val (.int p2), .val (.int p3), .val (.int (p0 &&& (7 : Int32))), .val (.int ((p1 &&& (255 : Int32)).toUInt32.toUInt16.toUInt32.toInt32)), .val (.int ((((p1.toUInt32 >>> ((8 : Int32) &&& 31).toUInt32).toInt32) &&& (255 : Int32)).toUInt32.toUInt16.toUInt32.toInt32)), .val w7, .val (.int z8), .unset, .unset, .unset, .unset, .unset, .unset, .unset, .unset] []))
    refine own_byH (fun _ kS => XS.iloadN XJ299.here hx rfl (hb hby at_299) rfl kS) ?_
    show own_ComesH Z p e below s _ _ _ (TJ299.setTop (mkF m 300 #[.val (.int p0), .val (.int p1), .val (.int p2), .val (.int p3), .val (.int (p0 &&& (7 : Int32))), .val (.int ((p1 &&& (255 : Int32)).toUInt32.toUInt16.toUInt32.toInt32)), .val (.int ((((p1.toUInt32 >>> ((8 : Int32) &&& 31).toUInt32).toInt32) &&& (255 : Int32)).toUInt32.toUInt16.toUInt32.toInt32)), .val w7, .val (.int z8), .unset, .unset, .unset, .unset, .unset, .unset, .unset, .unset] [(.int p2)]))
    refine own_byH (fun _ kS => XS.iconst XJ299.here hx rfl (hb hby at_300) kS) ?_
    show own_ComesH Z p e below s _ _ _ (TJ299.setTop (mkF m 301 #[.val (.int p0), .val (.int p1), .val (.int p2), .val (.int p3), .val (.int (p0 &&& (7 : Int32))), .val (.int ((p1 &&& (255 : Int32)).toUInt32.toUInt16.toUInt32.toInt32)), .val (.int ((((p1.toUInt32 >>> ((8 : Int32) &&& 31).toUInt32).toInt32) &&& (255 : Int32)).toUInt32.toUInt16.toUInt32.toInt32)), .val w7, .val (.int z8), .unset, .unset, .unset, .unset, .unset, .unset, .unset, .unset] [(.int (1 : Int32)), (.int p2)]))
    refine own_byH (fun _ kS => XS.iand XJ299.here hx rfl (hb hby at_301) rfl kS) ?_
    show own_ComesH Z p e below s _ _ _ (TJ299.setTop (mkF m 302 #[.val (.int p0), .val (.int p1), .val (.int p2), .val (.int p3), .val (.int (p0 &&& (7 : Int32))), .val (.int ((p1 &&& (255 : Int32)).toUInt32.toUInt16.toUInt32.toInt32)), .val (.int ((((p1.toUInt32 >>> ((8 : Int32) &&& 31).toUInt32).toInt32) &&& (255 : Int32)).toUInt32.toUInt16.toUInt32.toInt32)), .val w7, .val (.int z8), .unset, .unset, .unset, .unset, .unset, .unset, .unset, .unset] [(.int (p2 &&& (1 : Int32)))]))
    by_cases hu0 : (p2 &&& (1 : Int32)) = (0 : Int32)
    · refine own_byH (fun _ kS => XS.ifYes XJ299.here hx rfl (pc0 := 302) (pc' := 309) rfl (hb hby at_302) rfl ((if0 _ _).trans (teq hu0).1) (by decide) (by decide) kS) ?_
      show own_ComesH Z p e below s _ _ _ (TJ299.setTop (mkF m 309 #[.val (.int p0), .val (.int p1), .val (.int p2), .val (.int p3), .val (.int (p0 &&& (7 : Int32))), .val (.int ((p1 &&& (255 : Int32)).toUInt32.toUInt16.toUInt32.toInt32)), .val (.int ((((p1.toUInt32 >>> ((8 : Int32) &&& 31).toUInt32).toInt32) &&& (255 : Int32)).toUInt32.toUInt16.toUInt32.toInt32)), .val w7, .val (.int z8), .unset, .unset, .unset, .unset, .unset, .unset, .unset, .unset] []))
      refine own_byH (fun _ kS => XS.iconst XJ299.here hx rfl (hb hby at_309) kS) ?_
      show own_ComesH Z p e below s _ _ _ (TJ299.setTop (mkF m 310 #[.val (.int p0), .val (.int p1), .val (.int p2), .val (.int p3), .val (.int (p0 &&& (7 : Int32))), .val (.int ((p1 &&& (255 : Int32)).toUInt32.toUInt16.toUInt32.toInt32)), .val (.int ((((p1.toUInt32 >>> ((8 : Int32) &&& 31).toUInt32).toInt32) &&& (255 : Int32)).toUInt32.toUInt16.toUInt32.toInt32)), .val w7, .val (.int z8), .unset, .unset, .unset, .unset, .unset, .unset, .unset, .unset] [(.int (0 : Int32))]))
      refine own_byH (fun _ kS => XS.istore XJ299.here hx rfl (hb hby at_310) rfl (l' := #[.val (.int p0), .val (.int p1), .val (.int p2), .val (.int p3), .val (.int (p0 &&& (7 : Int32))), .val (.int ((p1 &&& (255 : Int32)).toUInt32.toUInt16.toUInt32.toInt32)), .val (.int ((((p1.toUInt32 >>> ((8 : Int32) &&& 31).toUInt32).toInt32) &&& (255 : Int32)).toUInt32.toUInt16.toUInt32.toInt32)), .val w7, .val (.int z8), .val (.int (0 : Int32)), .unset, .unset, .unset, .unset, .unset, .unset, .unset]) rfl kS) ?_
      show own_ComesH Z p e below s _ _ _ (TJ299.setTop (mkF m 312 #[.val (.int p0), .val (.int p1), .val (.int p2), .val (.int p3), .val (.int (p0 &&& (7 : Int32))), .val (.int ((p1 &&& (255 : Int32)).toUInt32.toUInt16.toUInt32.toInt32)), .val (.int ((((p1.toUInt32 >>> ((8 : Int32) &&& 31).toUInt32).toInt32) &&& (255 : Int32)).toUInt32.toUInt16.toUInt32.toInt32)), .val w7, .val (.int z8), .val (.int (0 : Int32)), .unset, .unset, .unset, .unset, .unset, .unset, .unset] []))
      refine own_byH (fun _ kS => XS.aconstNull XJ299.here hx rfl (hb hby at_312) kS) ?_
      show own_ComesH Z p e below s _ _ _ (TJ299.setTop (mkF m 313 #[.val (.int p0), .val (.int p1), .val (.int p2), .val (.int p3), .val (.int (p0 &&& (7 : Int32))), .val (.int ((p1 &&& (255 : Int32)).toUInt32.toUInt16.toUInt32.toInt32)), .val (.int ((((p1.toUInt32 >>> ((8 : Int32) &&& 31).toUInt32).toInt32) &&& (255 : Int32)).toUInt32.toUInt16.toUInt32.toInt32)), .val w7, .val (.int z8), .val (.int (0 : Int32)), .unset, .unset, .unset, .unset, .unset, .unset, .unset] [.null]))
      refine own_byH (fun _ kS => XS.astore XJ299.here hx rfl (hb hby at_313) rfl rfl (l' := #[.val (.int p0), .val (.int p1), .val (.int p2), .val (.int p3), .val (.int (p0 &&& (7 : Int32))), .val (.int ((p1 &&& (255 : Int32)).toUInt32.toUInt16.toUInt32.toInt32)), .val (.int ((((p1.toUInt32 >>> ((8 : Int32) &&& 31).toUInt32).toInt32) &&& (255 : Int32)).toUInt32.toUInt16.toUInt32.toInt32)), .val w7, .val (.int z8), .val (.int (0 : Int32)), .val .null, .unset, .unset, .unset, .unset, .unset, .unset]) rfl kS) ?_
      show own_ComesH Z p e below s _ _ _ (TJ299.setTop (mkF m 315 #[.val (.int p0), .val (.int p1), .val (.int p2), .val (.int p3), .val (.int (p0 &&& (7 : Int32))), .val (.int ((p1 &&& (255 : Int32)).toUInt32.toUInt16.toUInt32.toInt32)), .val (.int ((((p1.toUInt32 >>> ((8 : Int32) &&& 31).toUInt32).toInt32) &&& (255 : Int32)).toUInt32.toUInt16.toUInt32.toInt32)), .val w7, .val (.int z8), .val (.int (0 : Int32)), .val .null, .unset, .unset, .unset, .unset, .unset, .unset] []))
      refine own_byH (fun _ kS => XS.iload XJ299.here hx rfl (hb hby at_315) rfl kS) ?_
      show own_ComesH Z p e below s _ _ _ (TJ299.setTop (mkF m 317 #[.val (.int p0), .val (.int p1), .val (.int p2), .val (.int p3), .val (.int (p0 &&& (7 : Int32))), .val (.int ((p1 &&& (255 : Int32)).toUInt32.toUInt16.toUInt32.toInt32)), .val (.int ((((p1.toUInt32 >>> ((8 : Int32) &&& 31).toUInt32).toInt32) &&& (255 : Int32)).toUInt32.toUInt16.toUInt32.toInt32)), .val w7, .val (.int z8), .val (.int (0 : Int32)), .val .null, .unset, .unset, .unset, .unset, .unset, .unset] [(.int (0 : Int32))]))
      have hb234 : (0 : Int32) = (0 : Int32) := by decide
      refine own_byH (fun _ kS => XS.ifYes XJ299.here hx rfl (pc0 := 317) (pc' := 356) rfl (hb hby at_317) rfl ((if0 _ _).trans (teq hb234).1) (by decide) (by decide) kS) ?_
      show own_ComesH Z p e below s _ _ _ (TJ299.setTop (mkF m 356 #[.val (.int p0), .val (.int p1), .val (.int p2), .val (.int p3), .val (.int (p0 &&& (7 : Int32))), .val (.int ((p1 &&& (255 : Int32)).toUInt32.toUInt16.toUInt32.toInt32)), .val (.int ((((p1.toUInt32 >>> ((8 : Int32) &&& 31).toUInt32).toInt32) &&& (255 : Int32)).toUInt32.toUInt16.toUInt32.toInt32)), .val w7, .val (.int z8), .val (.int (0 : Int32)), .val .null, .unset, .unset, .unset, .unset, .unset, .unset] []))
      exact J356 _ _ _ _ _ w7 z8 (0 : Int32) .null (XJ299.more (by decide) (by decide)) eJ299 hZJ299 hownJ299 hSJ299 hkJ299 CHJ299 NJ299 OJ299 ZJ299 hIm (Or.inl ⟨rfl, rfl⟩)
    · refine own_byH (fun _ kS => XS.ifNo XJ299.here hx rfl (hb hby at_302) rfl ((if0 _ _).trans (feq hu0).1) kS) ?_
      show own_ComesH Z p e below s _ _ _ (TJ299.setTop (mkF m 305 #[.val (.int p0), .val (.int p1), .val (.int p2), .val (.int p3), .val (.int (p0 &&& (7 : Int32))), .val (.int ((p1 &&& (255 : Int32)).toUInt32.toUInt16.toUInt32.toInt32)), .val (.int ((((p1.toUInt32 >>> ((8 : Int32) &&& 31).toUInt32).toInt32) &&& (255 : Int32)).toUInt32.toUInt16.toUInt32.toInt32)), .val w7, .val (.int z8), .unset, .unset, .unset, .unset, .unset, .unset, .unset, .unset] []))
      refine own_byH (fun _ kS => XS.iconst XJ299.here hx rfl (hb hby at_305) kS) ?_
      show own_ComesH Z p e below s _ _ _ (TJ299.setTop (mkF m 306 #[.val (.int p0), .val (.int p1), .val (.int p2), .val (.int p3), .val (.int (p0 &&& (7 : Int32))), .val (.int ((p1 &&& (255 : Int32)).toUInt32.toUInt16.toUInt32.toInt32)), .val (.int ((((p1.toUInt32 >>> ((8 : Int32) &&& 31).toUInt32).toInt32) &&& (255 : Int32)).toUInt32.toUInt16.toUInt32.toInt32)), .val w7, .val (.int z8), .unset, .unset, .unset, .unset, .unset, .unset, .unset, .unset] [(.int (1 : Int32))]))
      refine own_byH (fun _ kS => XS.goto XJ299.here hx rfl (pc0 := 306) (pc' := 310) rfl (hb hby at_306) (by decide) (by decide) kS) ?_
      show own_ComesH Z p e below s _ _ _ (TJ299.setTop (mkF m 310 #[.val (.int p0), .val (.int p1), .val (.int p2), .val (.int p3), .val (.int (p0 &&& (7 : Int32))), .val (.int ((p1 &&& (255 : Int32)).toUInt32.toUInt16.toUInt32.toInt32)), .val (.int ((((p1.toUInt32 >>> ((8 : Int32) &&& 31).toUInt32).toInt32) &&& (255 : Int32)).toUInt32.toUInt16.toUInt32.toInt32)), .val w7, .val (.int z8), .unset, .unset, .unset, .unset, .unset, .unset, .unset, .unset] [(.int (1 : Int32))]))
      refine own_byH (fun _ kS => XS.istore XJ299.here hx rfl (hb hby at_310) rfl (l' := #[.val (.int p0), .val (.int p1), .val (.int p2), .val (.int p3), .val (.int (p0 &&& (7 : Int32))), .val (.int ((p1 &&& (255 : Int32)).toUInt32.toUInt16.toUInt32.toInt32)), .val (.int ((((p1.toUInt32 >>> ((8 : Int32) &&& 31).toUInt32).toInt32) &&& (255 : Int32)).toUInt32.toUInt16.toUInt32.toInt32)), .val w7, .val (.int z8), .val (.int (1 : Int32)), .unset, .unset, .unset, .unset, .unset, .unset, .unset]) rfl kS) ?_
      show own_ComesH Z p e below s _ _ _ (TJ299.setTop (mkF m 312 #[.val (.int p0), .val (.int p1), .val (.int p2), .val (.int p3), .val (.int (p0 &&& (7 : Int32))), .val (.int ((p1 &&& (255 : Int32)).toUInt32.toUInt16.toUInt32.toInt32)), .val (.int ((((p1.toUInt32 >>> ((8 : Int32) &&& 31).toUInt32).toInt32) &&& (255 : Int32)).toUInt32.toUInt16.toUInt32.toInt32)), .val w7, .val (.int z8), .val (.int (1 : Int32)), .unset, .unset, .unset, .unset, .unset, .unset, .unset] []))
      refine own_byH (fun _ kS => XS.aconstNull XJ299.here hx rfl (hb hby at_312) kS) ?_
      show own_ComesH Z p e below s _ _ _ (TJ299.setTop (mkF m 313 #[.val (.int p0), .val (.int p1), .val (.int p2), .val (.int p3), .val (.int (p0 &&& (7 : Int32))), .val (.int ((p1 &&& (255 : Int32)).toUInt32.toUInt16.toUInt32.toInt32)), .val (.int ((((p1.toUInt32 >>> ((8 : Int32) &&& 31).toUInt32).toInt32) &&& (255 : Int32)).toUInt32.toUInt16.toUInt32.toInt32)), .val w7, .val (.int z8), .val (.int (1 : Int32)), .unset, .unset, .unset, .unset, .unset, .unset, .unset] [.null]))
      refine own_byH (fun _ kS => XS.astore XJ299.here hx rfl (hb hby at_313) rfl rfl (l' := #[.val (.int p0), .val (.int p1), .val (.int p2), .val (.int p3), .val (.int (p0 &&& (7 : Int32))), .val (.int ((p1 &&& (255 : Int32)).toUInt32.toUInt16.toUInt32.toInt32)), .val (.int ((((p1.toUInt32 >>> ((8 : Int32) &&& 31).toUInt32).toInt32) &&& (255 : Int32)).toUInt32.toUInt16.toUInt32.toInt32)), .val w7, .val (.int z8), .val (.int (1 : Int32)), .val .null, .unset, .unset, .unset, .unset, .unset, .unset]) rfl kS) ?_
      show own_ComesH Z p e below s _ _ _ (TJ299.setTop (mkF m 315 #[.val (.int p0), .val (.int p1), .val (.int p2), .val (.int p3), .val (.int (p0 &&& (7 : Int32))), .val (.int ((p1 &&& (255 : Int32)).toUInt32.toUInt16.toUInt32.toInt32)), .val (.int ((((p1.toUInt32 >>> ((8 : Int32) &&& 31).toUInt32).toInt32) &&& (255 : Int32)).toUInt32.toUInt16.toUInt32.toInt32)), .val w7, .val (.int z8), .val (.int (1 : Int32)), .val .null, .unset, .unset, .unset, .unset, .unset, .unset] []))
      refine own_byH (fun _ kS => XS.iload XJ299.here hx rfl (hb hby at_315) rfl kS) ?_
      show own_ComesH Z p e below s _ _ _ (TJ299.setTop (mkF m 317 #[.val (.int p0), .val (.int p1), .val (.int p2), .val (.int p3), .val (.int (p0 &&& (7 : Int32))), .val (.int ((p1 &&& (255 : Int32)).toUInt32.toUInt16.toUInt32.toInt32)), .val (.int ((((p1.toUInt32 >>> ((8 : Int32) &&& 31).toUInt32).toInt32) &&& (255 : Int32)).toUInt32.toUInt16.toUInt32.toInt32)), .val w7, .val (.int z8), .val (.int (1 : Int32)), .val .null, .unset, .unset, .unset, .unset, .unset, .unset] [(.int (1 : Int32))]))
      have hb235 : ¬ ((1 : Int32) = (0 : Int32)) := by decide
      refine own_byH (fun _ kS => XS.ifNo XJ299.here hx rfl (hb hby at_317) rfl ((if0 _ _).trans (feq hb235).1) kS) ?_
      show own_ComesH Z p e below s _ _ _ (TJ299.setTop (mkF m 320 #[.val (.int p0), .val (.int p1), .val (.int p2), .val (.int p3), .val (.int (p0 &&& (7 : Int32))), .val (.int ((p1 &&& (255 : Int32)).toUInt32.toUInt16.toUInt32.toInt32)), .val (.int ((((p1.toUInt32 >>> ((8 : Int32) &&& 31).toUInt32).toInt32) &&& (255 : Int32)).toUInt32.toUInt16.toUInt32.toInt32)), .val w7, .val (.int z8), .val (.int (1 : Int32)), .val .null, .unset, .unset, .unset, .unset, .unset, .unset] []))
      refine own_byH (fun _ kS => XS.iloadN XJ299.here hx rfl (hb hby at_320) rfl kS) ?_
      show own_ComesH Z p e below s _ _ _ (TJ299.setTop (mkF m 321 #[.val (.int p0), .val (.int p1), .val (.int p2), .val (.int p3), .val (.int (p0 &&& (7 : Int32))), .val (.int ((p1 &&& (255 : Int32)).toUInt32.toUInt16.toUInt32.toInt32)), .val (.int ((((p1.toUInt32 >>> ((8 : Int32) &&& 31).toUInt32).toInt32) &&& (255 : Int32)).toUInt32.toUInt16.toUInt32.toInt32)), .val w7, .val (.int z8), .val (.int (1 : Int32)), .val .null, .unset, .unset, .unset, .unset, .unset, .unset] [(.int p2)]))
      refine own_byH (fun _ kS => XS.iconst XJ299.here hx rfl (hb hby at_321) kS) ?_
      show own_ComesH Z p e below s _ _ _ (TJ299.setTop (mkF m 322 #[.val (.int p0), .val (.int p1), .val (.int p2), .val (.int p3), .val (.int (p0 &&& (7 : Int32))), .val (.int ((p1 &&& (255 : Int32)).toUInt32.toUInt16.toUInt32.toInt32)), .val (.int ((((p1.toUInt32 >>> ((8 : Int32) &&& 31).toUInt32).toInt32) &&& (255 : Int32)).toUInt32.toUInt16.toUInt32.toInt32)), .val w7, .val (.int z8), .val (.int (1 : Int32)), .val .null, .unset, .unset, .unset, .unset, .unset, .unset] [(.int (1 : Int32)), (.int p2)]))
      refine own_byH (fun _ kS => XS.iushr XJ299.here hx rfl (hb hby at_322) rfl kS) ?_
      show own_ComesH Z p e below s _ _ _ (TJ299.setTop (mkF m 323 #[.val (.int p0), .val (.int p1), .val (.int p2), .val (.int p3), .val (.int (p0 &&& (7 : Int32))), .val (.int ((p1 &&& (255 : Int32)).toUInt32.toUInt16.toUInt32.toInt32)), .val (.int ((((p1.toUInt32 >>> ((8 : Int32) &&& 31).toUInt32).toInt32) &&& (255 : Int32)).toUInt32.toUInt16.toUInt32.toInt32)), .val w7, .val (.int z8), .val (.int (1 : Int32)), .val .null, .unset, .unset, .unset, .unset, .unset, .unset] [(.int ((p2.toUInt32 >>> ((1 : Int32) &&& 31).toUInt32).toInt32))]))
      refine own_byH (fun _ kS => XS.iconst XJ299.here hx rfl (hb hby at_323) kS) ?_
      show own_ComesH Z p e below s _ _ _ (TJ299.setTop (mkF m 324 #[.val (.int p0), .val (.int p1), .val (.int p2), .val (.int p3), .val (.int (p0 &&& (7 : Int32))), .val (.int ((p1 &&& (255 : Int32)).toUInt32.toUInt16.toUInt32.toInt32)), .val (.int ((((p1.toUInt32 >>> ((8 : Int32) &&& 31).toUInt32).toInt32) &&& (255 : Int32)).toUInt32.toUInt16.toUInt32.toInt32)), .val w7, .val (.int z8), .val (.int (1 : Int32)), .val .null, .unset, .unset, .unset, .unset, .unset, .unset] [(.int (1 : Int32)), (.int ((p2.toUInt32 >>> ((1 : Int32) &&& 31).toUInt32).toInt32))]))
      refine own_byH (fun _ kS => XS.iand XJ299.here hx rfl (hb hby at_324) rfl kS) ?_
      show own_ComesH Z p e below s _ _ _ (TJ299.setTop (mkF m 325 #[.val (.int p0), .val (.int p1), .val (.int p2), .val (.int p3), .val (.int (p0 &&& (7 : Int32))), .val (.int ((p1 &&& (255 : Int32)).toUInt32.toUInt16.toUInt32.toInt32)), .val (.int ((((p1.toUInt32 >>> ((8 : Int32) &&& 31).toUInt32).toInt32) &&& (255 : Int32)).toUInt32.toUInt16.toUInt32.toInt32)), .val w7, .val (.int z8), .val (.int (1 : Int32)), .val .null, .unset, .unset, .unset, .unset, .unset, .unset] [(.int (((p2.toUInt32 >>> ((1 : Int32) &&& 31).toUInt32).toInt32) &&& (1 : Int32)))]))
      by_cases hu1 : (((p2.toUInt32 >>> ((1 : Int32) &&& 31).toUInt32).toInt32) &&& (1 : Int32)) = (0 : Int32)
      · refine own_byH (fun _ kS => XS.ifNo XJ299.here hx rfl (hb hby at_325) rfl ((if0 _ _).trans (teq hu1).2) kS) ?_
        show own_ComesH Z p e below s _ _ _ (TJ299.setTop (mkF m 328 #[.val (.int p0), .val (.int p1), .val (.int p2), .val (.int p3), .val (.int (p0 &&& (7 : Int32))), .val (.int ((p1 &&& (255 : Int32)).toUInt32.toUInt16.toUInt32.toInt32)), .val (.int ((((p1.toUInt32 >>> ((8 : Int32) &&& 31).toUInt32).toInt32) &&& (255 : Int32)).toUInt32.toUInt16.toUInt32.toInt32)), .val w7, .val (.int z8), .val (.int (1 : Int32)), .val .null, .unset, .unset, .unset, .unset, .unset, .unset] []))
        obtain ⟨T236, h236, X236, e236, E236, A236, D236, -, st236⟩ := newO XJ299 hx hZJ299 hownJ299 (hw _ (List.mem_of_getElem? (i := 0) rfl)) (hw _ (List.mem_of_getElem? (i := 1) rfl)) (hw _ (List.mem_of_getElem? (i := 2) rfl)) eJ299 (g := (mkF m 328 #[.val (.int p0), .val (.int p1), .val (.int p2), .val (.int p3), .val (.int (p0 &&& (7 : Int32))), .val (.int ((p1 &&& (255 : Int32)).toUInt32.toUInt16.toUInt32.toInt32)), .val (.int ((((p1.toUInt32 >>> ((8 : Int32) &&& 31).toUInt32).toInt32) &&& (255 : Int32)).toUInt32.toUInt16.toUInt32.toInt32)), .val w7, .val (.int z8), .val (.int (1 : Int32)), .val .null, .unset, .unset, .unset, .unset, .unset, .unset] [])) rfl (hb hby at_328) (by decide) (by decide)
        obtain ⟨b236, g236⟩ : ∃ z, z = hJ299.size := ⟨_, rfl⟩
        rw [← g236] at A236 D236 st236
        have g_b236 : n0 ≤ b236 := Nat.le_trans ZJ299 (Nat.le_of_eq g236.symm)
        refine own_byH st236 ?_
        have CR237 := CHr.ext E236 CHJ299.1
        have CH237 := CHJ299.trans CR237
        have sb236 := Safe.ext E236 CHJ299.1 (Safe.new (Nat.le_of_eq g236.symm))
        show own_ComesH Z p e below s _ _ _ (T236.setTop (mkF m 331 #[.val (.int p0), .val (.int p1), .val (.int p2), .val (.int p3), .val (.int (p0 &&& (7 : Int32))), .val (.int ((p1 &&& (255 : Int32)).toUInt32.toUInt16.toUInt32.toInt32)), .val (.int ((((p1.toUInt32 >>> ((8 : Int32) &&& 31).toUInt32).toInt32) &&& (255 : Int32)).toUInt32.toUInt16.toUInt32.toInt32)), .val w7, .val (.int z8), .val (.int (1 : Int32)), .val .null, .unset, .unset, .unset, .unset, .unset, .unset] [(.ref b236)]))
        refine own_byH (fun _ kS => XS.dup X236.here hx rfl (hb hby at_331) rfl rfl kS) ?_
        show own_ComesH Z p e below s _ _ _ (T236.setTop (mkF m 332 #[.val (.int p0), .val (.int p1), .val (.int p2), .val (.int p3), .val (.int (p0 &&& (7 : Int32))), .val (.int ((p1 &&& (255 : Int32)).toUInt32.toUInt16.toUInt32.toInt32)), .val (.int ((((p1.toUInt32 >>> ((8 : Int32) &&& 31).toUInt32).toInt32) &&& (255 : Int32)).toUInt32.toUInt16.toUInt32.toInt32)), .val w7, .val (.int z8), .val (.int (1 : Int32)), .val .null, .unset, .unset, .unset, .unset, .unset, .unset] [(.ref b236), (.ref b236)]))
        refine own_byH (fun _ kS => XS.iconst X236.here hx rfl (hb hby at_332) kS) ?_
        show own_ComesH Z p e below s _ _ _ (T236.setTop (mkF m 333 #[.val (.int p0), .val (.int p1), .val (.int p2), .val (.int p3), .val (.int (p0 &&& (7 : Int32))), .val (.int ((p1 &&& (255 : Int32)).toUInt32.toUInt16.toUInt32.toInt32)), .val (.int ((((p1.toUInt32 >>> ((8 : Int32) &&& 31).toUInt32).toInt32) &&& (255 : Int32)).toUInt32.toUInt16.toUInt32.toInt32)), .val w7, .val (.int z8), .val (.int (1 : Int32)), .val .null, .unset, .unset, .unset, .unset, .unset, .unset] [(.int (0 : Int32)), (.ref b236), (.ref b236)]))
        obtain ⟨T238, h238, k238, X238, e238, E238, A238, st238⟩ := newP X236 hx hZJ299 (hw _ (List.mem_of_getElem? (i := 3) rfl)) e236 (g := (mkF m 333 #[.val (.int p0), .val (.int p1), .val (.int p2), .val (.int p3), .val (.int (p0 &&& (7 : Int32))), .val (.int ((p1 &&& (255 : Int32)).toUInt32.toUInt16.toUInt32.toInt32)), .val (.int ((((p1.toUInt32 >>> ((8 : Int32) &&& 31).toUInt32).toInt32) &&& (255 : Int32)).toUInt32.toUInt16.toUInt32.toInt32)), .val w7, .val (.int z8), .val (.int (1 : Int32)), .val .null, .unset, .unset, .unset, .unset, .unset, .unset] [(.int (0 : Int32)), (.ref b236), (.ref b236)])) rfl (hb hby at_333) rfl (by decide) (cap := 0) (by decide) (by decide) (by decide) (by decide)
        obtain ⟨b238, g238⟩ : ∃ z, z = h236.size := ⟨_, rfl⟩
        rw [← g238] at A238 st238
        have g_b238 : n0 ≤ b238 := Nat.le_trans (Nat.le_trans ZJ299 E236.1) (Nat.le_of_eq g238.symm)
        refine own_byH st238 ?_
        have CR239 := CHr.ext E238 CH237.1
        have CH239 := CH237.trans CR239
        have sb238 := Safe.ext E238 CH237.1 (Safe.new (Nat.le_of_eq g238.symm))
        have V_b238 : Arv Z h238 b238 k238 .char (0 : Int32) [] (.int (0 : Int32)) := (Arv.new A238 (by decide)).pad (pad_rep [] (.int (0 : Int32)) 0)
        show own_ComesH Z p e below s _ _ _ (T238.setTop (mkF m 335 #[.val (.int p0), .val (.int p1), .val (.int p2), .val (.int p3), .val (.int (p0 &&& (7 : Int32))), .val (.int ((p1 &&& (255 : Int32)).toUInt32.toUInt16.toUInt32.toInt32)), .val (.int ((((p1.toUInt32 >>> ((8 : Int32) &&& 31).toUInt32).toInt32) &&& (255 : Int32)).toUInt32.toUInt16.toUInt32.toInt32)), .val w7, .val (.int z8), .val (.int (1 : Int32)), .val .null, .unset, .unset, .unset, .unset, .unset, .unset] [(.ref b238), (.ref b236), (.ref b236)]))
        have sz_b238 : hJ299.size ≤ b238 := Nat.le_trans ((Keep.refl _ []).ext E236).1 (Nat.le_of_eq g238.symm)
        have nA238 : b236 ≠ b238 := Nat.ne_of_lt (Nat.lt_of_lt_of_le A236.lt (Nat.le_of_eq g238.symm))
        have sz_b236 : hJ299.size ≤ b236 := Nat.le_of_eq g236.symm
        have c240 := ((D236 (Or.inr (hw _ (List.mem_of_getElem? (i := 29) rfl))) (ty := (.array .byte)) (by decide)).ext E238)
        have c241 := ((D236 (Or.inr (hw _ (List.mem_of_getElem? (i := 27) rfl))) (ty := .byte) (by decide)).ext E238)
        obtain ⟨_, _, ⟨T242, L242, k242, n242⟩, -, Xw242, hs242, gr242, ⟨Lc242, hQ242, l242, y242, z242, CQ242⟩, st242⟩ := X238.specialBackS hx (y := (⟨"java/lang/String", "<init>", "([C)V"⟩ : MethodName)) rfl hownJ299 (mvT hZJ299 (hw _ (List.mem_of_getElem? (i := 4) rfl))) (mvT hZJ299 (hw _ (List.mem_of_getElem? (i := 5) rfl))) (mvT hZJ299 (hw _ (List.mem_of_getElem? (i := 6) rfl))) (by decide) (backOfSH (W := 1) (rm1 l Z a0 hw [] b236 b238 k238 h238 n0 (Nat.le_trans (Nat.le_trans ZJ299 E236.1) E238.1) (A236.ext E238) c240 c241 g_b236 V_b238) hZJ299 (hw _ (List.mem_of_getElem? (i := 6) rfl)) (hw _ (List.mem_of_getElem? (i := 2) rfl)) (by decide) (by decide) hEL CH239.1) (g := (mkF m 335 #[.val (.int p0), .val (.int p1), .val (.int p2), .val (.int p3), .val (.int (p0 &&& (7 : Int32))), .val (.int ((p1 &&& (255 : Int32)).toUInt32.toUInt16.toUInt32.toInt32)), .val (.int ((((p1.toUInt32 >>> ((8 : Int32) &&& 31).toUInt32).toInt32) &&& (255 : Int32)).toUInt32.toUInt16.toUInt32.toInt32)), .val w7, .val (.int z8), .val (.int (1 : Int32)), .val .null, .unset, .unset, .unset, .unset, .unset, .unset] [(.ref b238), (.ref b236), (.ref b236)])) rfl (by rw [hml]; rfl) (Steps.refl _) (a := b236) (argsL := [(.ref b238)]) (rest := [(.ref b236)]) (lenOf pd___C_V_325 rfl) rfl (by show 2 * 0 + _ ≤ _; exact Nat.le_of_eq rfl) (hb hby at_335) (fun _ _ => ⟨rfl, e238, (by decide : 8 + 4 ≤ _), (by decide : 16 + 8 ≤ _)⟩)
        dsimp only [Pt.U, Pt.locs, Pt.cells, Pt.slots] at Xw242 l242 y242 z242 st242 hQ242 hs242 gr242 CQ242
        subst l242 y242 z242
        obtain ⟨X242, hS242, hZ242, hown242⟩ := rebS hSJ299 (by rw [e238]; exact (Nat.le_trans (Nat.le_trans hkJ299 E236.1) E238.1)) Xw242 hs242 gr242 hZJ299 hownJ299
        obtain ⟨rfl, N242q, K242, Y242⟩ := hQ242
        have N242 := Fr.app NJ299 N242q
        refine own_trH st242 ?_
        have CR243 := CQ242
        have CH243 := CH239.trans CR243
        show own_ComesH Z p e below s _ _ _ (T242.setTop (mkF m 338 #[.val (.int p0), .val (.int p1), .val (.int p2), .val (.int p3), .val (.int (p0 &&& (7 : Int32))), .val (.int ((p1 &&& (255 : Int32)).toUInt32.toUInt16.toUInt32.toInt32)), .val (.int ((((p1.toUInt32 >>> ((8 : Int32) &&& 31).toUInt32).toInt32) &&& (255 : Int32)).toUInt32.toUInt16.toUInt32.toInt32)), .val w7, .val (.int z8), .val (.int (1 : Int32)), .val .null, .unset, .unset, .unset, .unset, .unset, .unset] [(.ref b236)]))
        have hSb236 := Y242
        have c244 := (hIm.ext (own_ext ((((Keep.refl _ []).ext E236).ext E238).trans K242 (allS (Or.inr sz_b236) all0))))
        refine own_byH (fun _ kS => XS.astore X242.here hx rfl (hb hby at_338) rfl rfl (l' := #[.val (.int p0), .val (.int p1), .val (.int p2), .val (.int p3), .val (.int (p0 &&& (7 : Int32))), .val (.int ((p1 &&& (255 : Int32)).toUInt32.toUInt16.toUInt32.toInt32)), .val (.int ((((p1.toUInt32 >>> ((8 : Int32) &&& 31).toUInt32).toInt32) &&& (255 : Int32)).toUInt32.toUInt16.toUInt32.toInt32)), .val w7, .val (.int z8), .val (.int (1 : Int32)), .val (.ref b236), .unset, .unset, .unset, .unset, .unset, .unset]) rfl kS) ?_
        show own_ComesH Z p e below s _ _ _ (T242.setTop (mkF m 340 #[.val (.int p0), .val (.int p1), .val (.int p2), .val (.int p3), .val (.int (p0 &&& (7 : Int32))), .val (.int ((p1 &&& (255 : Int32)).toUInt32.toUInt16.toUInt32.toInt32)), .val (.int ((((p1.toUInt32 >>> ((8 : Int32) &&& 31).toUInt32).toInt32) &&& (255 : Int32)).toUInt32.toUInt16.toUInt32.toInt32)), .val w7, .val (.int z8), .val (.int (1 : Int32)), .val (.ref b236), .unset, .unset, .unset, .unset, .unset, .unset] []))
        refine own_byH (fun _ kS => XS.goto X242.here hx rfl (pc0 := 340) (pc' := 356) rfl (hb hby at_340) (by decide) (by decide) kS) ?_
        show own_ComesH Z p e below s _ _ _ (T242.setTop (mkF m 356 #[.val (.int p0), .val (.int p1), .val (.int p2), .val (.int p3), .val (.int (p0 &&& (7 : Int32))), .val (.int ((p1 &&& (255 : Int32)).toUInt32.toUInt16.toUInt32.toInt32)), .val (.int ((((p1.toUInt32 >>> ((8 : Int32) &&& 31).toUInt32).toInt32) &&& (255 : Int32)).toUInt32.toUInt16.toUInt32.toInt32)), .val w7, .val (.int z8), .val (.int (1 : Int32)), .val (.ref b236), .unset, .unset, .unset, .unset, .unset, .unset] []))
        have c245 := (OJ299.ext (own_ext ((((Keep.refl _ []).ext E236).ext E238).trans K242 (allS (Or.inr sz_b236) all0))))
        exact J356 _ _ _ _ _ w7 z8 (1 : Int32) (.ref b236) (X242.more (by decide) (by decide)) rfl hZ242 hown242 hS242 (Nat.le_refl (Array.size T242.heap)) CH243 N242 c245 (Nat.le_trans (Nat.le_trans (Nat.le_trans ZJ299 E236.1) E238.1) K242.1) c244 (Or.inr ⟨_, rfl, rfl⟩)
      · refine own_byH (fun _ kS => XS.ifYes XJ299.here hx rfl (pc0 := 325) (pc' := 343) rfl (hb hby at_325) rfl ((if0 _ _).trans (feq hu1).2) (by decide) (by decide) kS) ?_
        show own_ComesH Z p e below s _ _ _ (TJ299.setTop (mkF m 343 #[.val (.int p0), .val (.int p1), .val (.int p2), .val (.int p3), .val (.int (p0 &&& (7 : Int32))), .val (.int ((p1 &&& (255 : Int32)).toUInt32.toUInt16.toUInt32.toInt32)), .val (.int ((((p1.toUInt32 >>> ((8 : Int32) &&& 31).toUInt32).toInt32) &&& (255 : Int32)).toUInt32.toUInt16.toUInt32.toInt32)), .val w7, .val (.int z8), .val (.int (1 : Int32)), .val .null, .unset, .unset, .unset, .unset, .unset, .unset] []))
        refine own_byH (fun _ kS => XS.iloadN XJ299.here hx rfl (hb hby at_343) rfl kS) ?_
        show own_ComesH Z p e below s _ _ _ (TJ299.setTop (mkF m 344 #[.val (.int p0), .val (.int p1), .val (.int p2), .val (.int p3), .val (.int (p0 &&& (7 : Int32))), .val (.int ((p1 &&& (255 : Int32)).toUInt32.toUInt16.toUInt32.toInt32)), .val (.int ((((p1.toUInt32 >>> ((8 : Int32) &&& 31).toUInt32).toInt32) &&& (255 : Int32)).toUInt32.toUInt16.toUInt32.toInt32)), .val w7, .val (.int z8), .val (.int (1 : Int32)), .val .null, .unset, .unset, .unset, .unset, .unset, .unset] [(.int p2)]))
        refine own_byH (fun _ kS => XS.iconst XJ299.here hx rfl (hb hby at_344) kS) ?_
        show own_ComesH Z p e below s _ _ _ (TJ299.setTop (mkF m 345 #[.val (.int p0), .val (.int p1), .val (.int p2), .val (.int p3), .val (.int (p0 &&& (7 : Int32))), .val (.int ((p1 &&& (255 : Int32)).toUInt32.toUInt16.toUInt32.toInt32)), .val (.int ((((p1.toUInt32 >>> ((8 : Int32) &&& 31).toUInt32).toInt32) &&& (255 : Int32)).toUInt32.toUInt16.toUInt32.toInt32)), .val w7, .val (.int z8), .val (.int (1 : Int32)), .val .null, .unset, .unset, .unset, .unset, .unset, .unset] [(.int (2 : Int32)), (.int p2)]))
        refine own_byH (fun _ kS => XS.iushr XJ299.here hx rfl (hb hby at_345) rfl kS) ?_
        show own_ComesH Z p e below s _ _ _ (TJ299.setTop (mkF m 346 #[.val (.int p0), .val (.int p1), .val (.int p2), .val (.int p3), .val (.int (p0 &&& (7 : Int32))), .val (.int ((p1 &&& (255 : Int32)).toUInt32.toUInt16.toUInt32.toInt32)), .val (.int ((((p1.toUInt32 >>> ((8 : Int32) &&& 31).toUInt32).toInt32) &&& (255 : Int32)).toUInt32.toUInt16.toUInt32.toInt32)), .val w7, .val (.int z8), .val (.int (1 : Int32)), .val .null, .unset, .unset, .unset, .unset, .unset, .unset] [(.int ((p2.toUInt32 >>> ((2 : Int32) &&& 31).toUInt32).toInt32))]))
        refine own_byH (fun _ kS => XS.sipush XJ299.here hx rfl (hb hby at_346) kS) ?_
        show own_ComesH Z p e below s _ _ _ (TJ299.setTop (mkF m 349 #[.val (.int p0), .val (.int p1), .val (.int p2), .val (.int p3), .val (.int (p0 &&& (7 : Int32))), .val (.int ((p1 &&& (255 : Int32)).toUInt32.toUInt16.toUInt32.toInt32)), .val (.int ((((p1.toUInt32 >>> ((8 : Int32) &&& 31).toUInt32).toInt32) &&& (255 : Int32)).toUInt32.toUInt16.toUInt32.toInt32)), .val w7, .val (.int z8), .val (.int (1 : Int32)), .val .null, .unset, .unset, .unset, .unset, .unset, .unset] [(.int (255 : Int32)), (.int ((p2.toUInt32 >>> ((2 : Int32) &&& 31).toUInt32).toInt32))]))
        refine own_byH (fun _ kS => XS.iand XJ299.here hx rfl (hb hby at_349) rfl kS) ?_
        show own_ComesH Z p e below s _ _ _ (TJ299.setTop (mkF m 350 #[.val (.int p0), .val (.int p1), .val (.int p2), .val (.int p3), .val (.int (p0 &&& (7 : Int32))), .val (.int ((p1 &&& (255 : Int32)).toUInt32.toUInt16.toUInt32.toInt32)), .val (.int ((((p1.toUInt32 >>> ((8 : Int32) &&& 31).toUInt32).toInt32) &&& (255 : Int32)).toUInt32.toUInt16.toUInt32.toInt32)), .val w7, .val (.int z8), .val (.int (1 : Int32)), .val .null, .unset, .unset, .unset, .unset, .unset, .unset] [(.int (((p2.toUInt32 >>> ((2 : Int32) &&& 31).toUInt32).toInt32) &&& (255 : Int32)))]))
        refine own_byH (fun _ kS => XS.i2c XJ299.here hx rfl (hb hby at_350) rfl kS) ?_
        show own_ComesH Z p e below s _ _ _ (TJ299.setTop (mkF m 351 #[.val (.int p0), .val (.int p1), .val (.int p2), .val (.int p3), .val (.int (p0 &&& (7 : Int32))), .val (.int ((p1 &&& (255 : Int32)).toUInt32.toUInt16.toUInt32.toInt32)), .val (.int ((((p1.toUInt32 >>> ((8 : Int32) &&& 31).toUInt32).toInt32) &&& (255 : Int32)).toUInt32.toUInt16.toUInt32.toInt32)), .val w7, .val (.int z8), .val (.int (1 : Int32)), .val .null, .unset, .unset, .unset, .unset, .unset, .unset] [(.int ((((p2.toUInt32 >>> ((2 : Int32) &&& 31).toUInt32).toInt32) &&& (255 : Int32)).toUInt32.toUInt16.toUInt32.toInt32))]))
        obtain ⟨vv246, _, ⟨T246, L246, k246, n246⟩, -, X246, ⟨Lc246, hQ246, l246, y246, z246⟩, st246⟩ := Jvm.LawKit.callS XJ299 hx (y := (⟨"java/lang/String", "valueOf", "(C)Ljava/lang/String;"⟩ : MethodName)) hownJ299 (mvT hZJ299 (hw _ (List.mem_of_getElem? (i := 85) rfl))) (mvT hZJ299 (hw _ (List.mem_of_getElem? (i := 86) rfl))) (mvT hZJ299 (hw _ (List.mem_of_getElem? (i := 2) rfl))) (mvT hZJ299 (hw _ (List.mem_of_getElem? (i := 87) rfl))) (by decide) (backOf (W := 0) (rm11 l Z a0 hw [] ((((p2.toUInt32 >>> ((2 : Int32) &&& 31).toUInt32).toInt32) &&& (255 : Int32)).toUInt32.toUInt16.toUInt32.toInt32) zc hJ299 n0 ZJ299 (own_and255 _).2 OJ299 Sz hzc) hZJ299 (hw _ (List.mem_of_getElem? (i := 87) rfl)) (hw _ (List.mem_of_getElem? (i := 2) rfl)) (by decide) (by decide)) (g := (mkF m 351 #[.val (.int p0), .val (.int p1), .val (.int p2), .val (.int p3), .val (.int (p0 &&& (7 : Int32))), .val (.int ((p1 &&& (255 : Int32)).toUInt32.toUInt16.toUInt32.toInt32)), .val (.int ((((p1.toUInt32 >>> ((8 : Int32) &&& 31).toUInt32).toInt32) &&& (255 : Int32)).toUInt32.toUInt16.toUInt32.toInt32)), .val w7, .val (.int z8), .val (.int (1 : Int32)), .val .null, .unset, .unset, .unset, .unset, .unset, .unset] [(.int ((((p2.toUInt32 >>> ((2 : Int32) &&& 31).toUInt32).toInt32) &&& (255 : Int32)).toUInt32.toUInt16.toUInt32.toInt32))])) rfl (by rw [hml]; rfl) (argsL := [(.int ((((p2.toUInt32 >>> ((2 : Int32) &&& 31).toUInt32).toInt32) &&& (255 : Int32)).toUInt32.toUInt16.toUInt32.toInt32))]) (rest := []) (lenOf pd__C_Ljava_lang_String__847 rfl) rfl (by show 2 * 0 + _ ≤ _; exact Nat.le_of_eq rfl) (hb hby at_351) (fun _ _ => ⟨rfl, eJ299, (by decide : 6 + 2 ≤ _), (by decide : 12 + 5 ≤ _)⟩)
        dsimp only [Pt.U, Pt.locs, Pt.cells, Pt.slots] at X246 l246 y246 z246 st246 hQ246
        subst l246 y246 z246
        obtain ⟨a246, rfl, N246q, E246⟩ := hQ246
        have N246 := Fr.app NJ299 N246q
        refine own_byH st246 ?_
        have CR247 := CHr.ext E246 CHJ299.1
        have CH247 := CHJ299.trans CR247
        show own_ComesH Z p e below s _ _ _ (T246.setTop (mkF m 354 #[.val (.int p0), .val (.int p1), .val (.int p2), .val (.int p3), .val (.int (p0 &&& (7 : Int32))), .val (.int ((p1 &&& (255 : Int32)).toUInt32.toUInt16.toUInt32.toInt32)), .val (.int ((((p1.toUInt32 >>> ((8 : Int32) &&& 31).toUInt32).toInt32) &&& (255 : Int32)).toUInt32.toUInt16.toUInt32.toInt32)), .val w7, .val (.int z8), .val (.int (1 : Int32)), .val .null, .unset, .unset, .unset, .unset, .unset, .unset] [(.ref a246)]))
        refine own_byH (fun _ kS => XS.astore X246.here hx rfl (hb hby at_354) rfl rfl (l' := #[.val (.int p0), .val (.int p1), .val (.int p2), .val (.int p3), .val (.int (p0 &&& (7 : Int32))), .val (.int ((p1 &&& (255 : Int32)).toUInt32.toUInt16.toUInt32.toInt32)), .val (.int ((((p1.toUInt32 >>> ((8 : Int32) &&& 31).toUInt32).toInt32) &&& (255 : Int32)).toUInt32.toUInt16.toUInt32.toInt32)), .val w7, .val (.int z8), .val (.int (1 : Int32)), .val (.ref a246), .unset, .unset, .unset, .unset, .unset, .unset]) rfl kS) ?_
        show own_ComesH Z p e below s _ _ _ (T246.setTop (mkF m 356 #[.val (.int p0), .val (.int p1), .val (.int p2), .val (.int p3), .val (.int (p0 &&& (7 : Int32))), .val (.int ((p1 &&& (255 : Int32)).toUInt32.toUInt16.toUInt32.toInt32)), .val (.int ((((p1.toUInt32 >>> ((8 : Int32) &&& 31).toUInt32).toInt32) &&& (255 : Int32)).toUInt32.toUInt16.toUInt32.toInt32)), .val w7, .val (.int z8), .val (.int (1 : Int32)), .val (.ref a246), .unset, .unset, .unset, .unset, .unset, .unset] []))
        exact J356 _ _ _ _ _ w7 z8 (1 : Int32) (.ref a246) (X246.more (by decide) (by decide)) rfl hZJ299 hownJ299 hSJ299 (Nat.le_trans hkJ299 E246.1) CH247 N246 (OJ299.ext E246) (Nat.le_trans ZJ299 E246.1) (hIm.ext E246) (Or.inr ⟨_, rfl, rfl⟩)
  refine own_byH (fun _ kS => XS.iloadN X0.here hx rfl (hb hby at_0) rfl kS) ?_
  show own_ComesH Z p e below s _ _ _ (s₁.setTop (mkF m 1 #[.val (.int p0), .val (.int p1), .val (.int p2), .val (.int p3), .unset, .unset, .unset, .unset, .unset, .unset, .unset, .unset, .unset, .unset, .unset, .unset, .unset] [(.int p0)]))
  refine own_byH (fun _ kS => XS.bipush X0.here hx rfl (hb hby at_1) kS) ?_
  show own_ComesH Z p e below s _ _ _ (s₁.setTop (mkF m 3 #[.val (.int p0), .val (.int p1), .val (.int p2), .val (.int p3), .unset, .unset, .unset, .unset, .unset, .unset, .unset, .unset, .unset, .unset, .unset, .unset, .unset] [(.int (7 : Int32)), (.int p0)]))
  refine own_byH (fun _ kS => XS.iand X0.here hx rfl (hb hby at_3) rfl kS) ?_
  show own_ComesH Z p e below s _ _ _ (s₁.setTop (mkF m 4 #[.val (.int p0), .val (.int p1), .val (.int p2), .val (.int p3), .unset, .unset, .unset, .unset, .unset, .unset, .unset, .unset, .unset, .unset, .unset, .unset, .unset] [(.int (p0 &&& (7 : Int32)))]))
  refine own_byH (fun _ kS => XS.istore X0.here hx rfl (hb hby at_4) rfl (l' := #[.val (.int p0), .val (.int p1), .val (.int p2), .val (.int p3), .val (.int (p0 &&& (7 : Int32))), .unset, .unset, .unset, .unset, .unset, .unset, .unset, .unset, .unset, .unset, .unset, .unset]) rfl kS) ?_
  show own_ComesH Z p e below s _ _ _ (s₁.setTop (mkF m 6 #[.val (.int p0), .val (.int p1), .val (.int p2), .val (.int p3), .val (.int (p0 &&& (7 : Int32))), .unset, .unset, .unset, .unset, .unset, .unset, .unset, .unset, .unset, .unset, .unset, .unset] []))
  refine own_byH (fun _ kS => XS.iloadN X0.here hx rfl (hb hby at_6) rfl kS) ?_
  show own_ComesH Z p e below s _ _ _ (s₁.setTop (mkF m 7 #[.val (.int p0), .val (.int p1), .val (.int p2), .val (.int p3), .val (.int (p0 &&& (7 : Int32))), .unset, .unset, .unset, .unset, .unset, .unset, .unset, .unset, .unset, .unset, .unset, .unset] [(.int p1)]))
  refine own_byH (fun _ kS => XS.sipush X0.here hx rfl (hb hby at_7) kS) ?_
  show own_ComesH Z p e below s _ _ _ (s₁.setTop (mkF m 10 #[.val (.int p0), .val (.int p1), .val (.int p2), .val (.int p3), .val (.int (p0 &&& (7 : Int32))), .unset, .unset, .unset, .unset, .unset, .unset, .unset, .unset, .unset, .unset, .unset, .unset] [(.int (255 : Int32)), (.int p1)]))
  refine own_byH (fun _ kS => XS.iand X0.here hx rfl (hb hby at_10) rfl kS) ?_
  show own_ComesH Z p e below s _ _ _ (s₁.setTop (mkF m 11 #[.val (.int p0), .val (.int p1), .val (.int p2), .val (.int p3), .val (.int (p0 &&& (7 : Int32))), .unset, .unset, .unset, .unset, .unset, .unset, .unset, .unset, .unset, .unset, .unset, .unset] [(.int (p1 &&& (255 : Int32)))]))
  refine own_byH (fun _ kS => XS.i2c X0.here hx rfl (hb hby at_11) rfl kS) ?_
  show own_ComesH Z p e below s _ _ _ (s₁.setTop (mkF m 12 #[.val (.int p0), .val (.int p1), .val (.int p2), .val (.int p3), .val (.int (p0 &&& (7 : Int32))), .unset, .unset, .unset, .unset, .unset, .unset, .unset, .unset, .unset, .unset, .unset, .unset] [(.int ((p1 &&& (255 : Int32)).toUInt32.toUInt16.toUInt32.toInt32))]))
  refine own_byH (fun _ kS => XS.istore X0.here hx rfl (hb hby at_12) rfl (l' := #[.val (.int p0), .val (.int p1), .val (.int p2), .val (.int p3), .val (.int (p0 &&& (7 : Int32))), .val (.int ((p1 &&& (255 : Int32)).toUInt32.toUInt16.toUInt32.toInt32)), .unset, .unset, .unset, .unset, .unset, .unset, .unset, .unset, .unset, .unset, .unset]) rfl kS) ?_
  show own_ComesH Z p e below s _ _ _ (s₁.setTop (mkF m 14 #[.val (.int p0), .val (.int p1), .val (.int p2), .val (.int p3), .val (.int (p0 &&& (7 : Int32))), .val (.int ((p1 &&& (255 : Int32)).toUInt32.toUInt16.toUInt32.toInt32)), .unset, .unset, .unset, .unset, .unset, .unset, .unset, .unset, .unset, .unset, .unset] []))
  refine own_byH (fun _ kS => XS.iloadN X0.here hx rfl (hb hby at_14) rfl kS) ?_
  show own_ComesH Z p e below s _ _ _ (s₁.setTop (mkF m 15 #[.val (.int p0), .val (.int p1), .val (.int p2), .val (.int p3), .val (.int (p0 &&& (7 : Int32))), .val (.int ((p1 &&& (255 : Int32)).toUInt32.toUInt16.toUInt32.toInt32)), .unset, .unset, .unset, .unset, .unset, .unset, .unset, .unset, .unset, .unset, .unset] [(.int p1)]))
  refine own_byH (fun _ kS => XS.bipush X0.here hx rfl (hb hby at_15) kS) ?_
  show own_ComesH Z p e below s _ _ _ (s₁.setTop (mkF m 17 #[.val (.int p0), .val (.int p1), .val (.int p2), .val (.int p3), .val (.int (p0 &&& (7 : Int32))), .val (.int ((p1 &&& (255 : Int32)).toUInt32.toUInt16.toUInt32.toInt32)), .unset, .unset, .unset, .unset, .unset, .unset, .unset, .unset, .unset, .unset, .unset] [(.int (8 : Int32)), (.int p1)]))
  refine own_byH (fun _ kS => XS.iushr X0.here hx rfl (hb hby at_17) rfl kS) ?_
  show own_ComesH Z p e below s _ _ _ (s₁.setTop (mkF m 18 #[.val (.int p0), .val (.int p1), .val (.int p2), .val (.int p3), .val (.int (p0 &&& (7 : Int32))), .val (.int ((p1 &&& (255 : Int32)).toUInt32.toUInt16.toUInt32.toInt32)), .unset, .unset, .unset, .unset, .unset, .unset, .unset, .unset, .unset, .unset, .unset] [(.int ((p1.toUInt32 >>> ((8 : Int32) &&& 31).toUInt32).toInt32))]))
  refine own_byH (fun _ kS => XS.sipush X0.here hx rfl (hb hby at_18) kS) ?_
  show own_ComesH Z p e below s _ _ _ (s₁.setTop (mkF m 21 #[.val (.int p0), .val (.int p1), .val (.int p2), .val (.int p3), .val (.int (p0 &&& (7 : Int32))), .val (.int ((p1 &&& (255 : Int32)).toUInt32.toUInt16.toUInt32.toInt32)), .unset, .unset, .unset, .unset, .unset, .unset, .unset, .unset, .unset, .unset, .unset] [(.int (255 : Int32)), (.int ((p1.toUInt32 >>> ((8 : Int32) &&& 31).toUInt32).toInt32))]))
  refine own_byH (fun _ kS => XS.iand X0.here hx rfl (hb hby at_21) rfl kS) ?_
  show own_ComesH Z p e below s _ _ _ (s₁.setTop (mkF m 22 #[.val (.int p0), .val (.int p1), .val (.int p2), .val (.int p3), .val (.int (p0 &&& (7 : Int32))), .val (.int ((p1 &&& (255 : Int32)).toUInt32.toUInt16.toUInt32.toInt32)), .unset, .unset, .unset, .unset, .unset, .unset, .unset, .unset, .unset, .unset, .unset] [(.int (((p1.toUInt32 >>> ((8 : Int32) &&& 31).toUInt32).toInt32) &&& (255 : Int32)))]))
  refine own_byH (fun _ kS => XS.i2c X0.here hx rfl (hb hby at_22) rfl kS) ?_
  show own_ComesH Z p e below s _ _ _ (s₁.setTop (mkF m 23 #[.val (.int p0), .val (.int p1), .val (.int p2), .val (.int p3), .val (.int (p0 &&& (7 : Int32))), .val (.int ((p1 &&& (255 : Int32)).toUInt32.toUInt16.toUInt32.toInt32)), .unset, .unset, .unset, .unset, .unset, .unset, .unset, .unset, .unset, .unset, .unset] [(.int ((((p1.toUInt32 >>> ((8 : Int32) &&& 31).toUInt32).toInt32) &&& (255 : Int32)).toUInt32.toUInt16.toUInt32.toInt32))]))
  refine own_byH (fun _ kS => XS.istore X0.here hx rfl (hb hby at_23) rfl (l' := #[.val (.int p0), .val (.int p1), .val (.int p2), .val (.int p3), .val (.int (p0 &&& (7 : Int32))), .val (.int ((p1 &&& (255 : Int32)).toUInt32.toUInt16.toUInt32.toInt32)), .val (.int ((((p1.toUInt32 >>> ((8 : Int32) &&& 31).toUInt32).toInt32) &&& (255 : Int32)).toUInt32.toUInt16.toUInt32.toInt32)), .unset, .unset, .unset, .unset, .unset, .unset, .unset, .unset, .unset, .unset]) rfl kS) ?_
  show own_ComesH Z p e below s _ _ _ (s₁.setTop (mkF m 25 #[.val (.int p0), .val (.int p1), .val (.int p2), .val (.int p3), .val (.int (p0 &&& (7 : Int32))), .val (.int ((p1 &&& (255 : Int32)).toUInt32.toUInt16.toUInt32.toInt32)), .val (.int ((((p1.toUInt32 >>> ((8 : Int32) &&& 31).toUInt32).toInt32) &&& (255 : Int32)).toUInt32.toUInt16.toUInt32.toInt32)), .unset, .unset, .unset, .unset, .unset, .unset, .unset, .unset, .unset, .unset] []))
  refine own_byH (fun _ kS => XS.iload X0.here hx rfl (hb hby at_25) rfl kS) ?_
  show own_ComesH Z p e below s _ _ _ (s₁.setTop (mkF m 27 #[.val (.int p0), .val (.int p1), .val (.int p2), .val (.int p3), .val (.int (p0 &&& (7 : Int32))), .val (.int ((p1 &&& (255 : Int32)).toUInt32.toUInt16.toUInt32.toInt32)), .val (.int ((((p1.toUInt32 >>> ((8 : Int32) &&& 31).toUInt32).toInt32) &&& (255 : Int32)).toUInt32.toUInt16.toUInt32.toInt32)), .unset, .unset, .unset, .unset, .unset, .unset, .unset, .unset, .unset, .unset] [(.int (p0 &&& (7 : Int32)))]))
  by_cases hm0 : (p0 &&& (7 : Int32)) = (0 : Int32)
  · refine own_byH (fun _ kS => XS.ifNo X0.here hx rfl (hb hby at_27) rfl ((if0 _ _).trans (teq hm0).2) kS) ?_
    show own_ComesH Z p e below s _ _ _ (s₁.setTop (mkF m 30 #[.val (.int p0), .val (.int p1), .val (.int p2), .val (.int p3), .val (.int (p0 &&& (7 : Int32))), .val (.int ((p1 &&& (255 : Int32)).toUInt32.toUInt16.toUInt32.toInt32)), .val (.int ((((p1.toUInt32 >>> ((8 : Int32) &&& 31).toUInt32).toInt32) &&& (255 : Int32)).toUInt32.toUInt16.toUInt32.toInt32)), .unset, .unset, .unset, .unset, .unset, .unset, .unset, .unset, .unset, .unset] []))
    refine own_byH (fun _ kS => XS.aconstNull X0.here hx rfl (hb hby at_30) kS) ?_
    show own_ComesH Z p e below s _ _ _ (s₁.setTop (mkF m 31 #[.val (.int p0), .val (.int p1), .val (.int p2), .val (.int p3), .val (.int (p0 &&& (7 : Int32))), .val (.int ((p1 &&& (255 : Int32)).toUInt32.toUInt16.toUInt32.toInt32)), .val (.int ((((p1.toUInt32 >>> ((8 : Int32) &&& 31).toUInt32).toInt32) &&& (255 : Int32)).toUInt32.toUInt16.toUInt32.toInt32)), .unset, .unset, .unset, .unset, .unset, .unset, .unset, .unset, .unset, .unset] [.null]))
    refine own_byH (fun _ kS => XS.astore X0.here hx rfl (hb hby at_31) rfl rfl (l' := #[.val (.int p0), .val (.int p1), .val (.int p2), .val (.int p3), .val (.int (p0 &&& (7 : Int32))), .val (.int ((p1 &&& (255 : Int32)).toUInt32.toUInt16.toUInt32.toInt32)), .val (.int ((((p1.toUInt32 >>> ((8 : Int32) &&& 31).toUInt32).toInt32) &&& (255 : Int32)).toUInt32.toUInt16.toUInt32.toInt32)), .val .null, .unset, .unset, .unset, .unset, .unset, .unset, .unset, .unset, .unset]) rfl kS) ?_
    show own_ComesH Z p e below s _ _ _ (s₁.setTop (mkF m 33 #[.val (.int p0), .val (.int p1), .val (.int p2), .val (.int p3), .val (.int (p0 &&& (7 : Int32))), .val (.int ((p1 &&& (255 : Int32)).toUInt32.toUInt16.toUInt32.toInt32)), .val (.int ((((p1.toUInt32 >>> ((8 : Int32) &&& 31).toUInt32).toInt32) &&& (255 : Int32)).toUInt32.toUInt16.toUInt32.toInt32)), .val .null, .unset, .unset, .unset, .unset, .unset, .unset, .unset, .unset, .unset] []))
    refine own_byH (fun _ kS => XS.iconst X0.here hx rfl (hb hby at_33) kS) ?_
    show own_ComesH Z p e below s _ _ _ (s₁.setTop (mkF m 34 #[.val (.int p0), .val (.int p1), .val (.int p2), .val (.int p3), .val (.int (p0 &&& (7 : Int32))), .val (.int ((p1 &&& (255 : Int32)).toUInt32.toUInt16.toUInt32.toInt32)), .val (.int ((((p1.toUInt32 >>> ((8 : Int32) &&& 31).toUInt32).toInt32) &&& (255 : Int32)).toUInt32.toUInt16.toUInt32.toInt32)), .val .null, .unset, .unset, .unset, .unset, .unset, .unset, .unset, .unset, .unset] [(.int (0 : Int32))]))
    refine own_byH (fun _ kS => XS.istore X0.here hx rfl (hb hby at_34) rfl (l' := #[.val (.int p0), .val (.int p1), .val (.int p2), .val (.int p3), .val (.int (p0 &&& (7 : Int32))), .val (.int ((p1 &&& (255 : Int32)).toUInt32.toUInt16.toUInt32.toInt32)), .val (.int ((((p1.toUInt32 >>> ((8 : Int32) &&& 31).toUInt32).toInt32) &&& (255 : Int32)).toUInt32.toUInt16.toUInt32.toInt32)), .val .null, .val (.int (0 : Int32)), .unset, .unset, .unset, .unset, .unset, .unset, .unset, .unset]) rfl kS) ?_
    show own_ComesH Z p e below s _ _ _ (s₁.setTop (mkF m 36 #[.val (.int p0), .val (.int p1), .val (.int p2), .val (.int p3), .val (.int (p0 &&& (7 : Int32))), .val (.int ((p1 &&& (255 : Int32)).toUInt32.toUInt16.toUInt32.toInt32)), .val (.int ((((p1.toUInt32 >>> ((8 : Int32) &&& 31).toUInt32).toInt32) &&& (255 : Int32)).toUInt32.toUInt16.toUInt32.toInt32)), .val .null, .val (.int (0 : Int32)), .unset, .unset, .unset, .unset, .unset, .unset, .unset, .unset] []))
    refine own_byH (fun _ kS => XS.goto X0.here hx rfl (pc0 := 36) (pc' := 299) rfl (hb hby at_36) (by decide) (by decide) kS) ?_
    show own_ComesH Z p e below s _ _ _ (s₁.setTop (mkF m 299 #[.val (.int p0), .val (.int p1), .val (.int p2), .val (.int p3), .val (.int (p0 &&& (7 : Int32))), .val (.int ((p1 &&& (255 : Int32)).toUInt32.toUInt16.toUInt32.toInt32)), .val (.int ((((p1.toUInt32 >>> ((8 : Int32) &&& 31).toUInt32).toInt32) &&& (255 : Int32)).toUInt32.toUInt16.toUInt32.toInt32)), .val .null, .val (.int (0 : Int32)), .unset, .unset, .unset, .unset, .unset, .unset, .unset, .unset] []))
    exact J299 _ _ _ _ _ .null (0 : Int32) (X0.more (by decide) (by decide)) e0 hZ hown hS hk CH N0 O0 Z0 (Or.inl ⟨rfl, rfl⟩)
  · refine own_byH (fun _ kS => XS.ifYes X0.here hx rfl (pc0 := 27) (pc' := 39) rfl (hb hby at_27) rfl ((if0 _ _).trans (feq hm0).2) (by decide) (by decide) kS) ?_
    show own_ComesH Z p e below s _ _ _ (s₁.setTop (mkF m 39 #[.val (.int p0), .val (.int p1), .val (.int p2), .val (.int p3), .val (.int (p0 &&& (7 : Int32))), .val (.int ((p1 &&& (255 : Int32)).toUInt32.toUInt16.toUInt32.toInt32)), .val (.int ((((p1.toUInt32 >>> ((8 : Int32) &&& 31).toUInt32).toInt32) &&& (255 : Int32)).toUInt32.toUInt16.toUInt32.toInt32)), .unset, .unset, .unset, .unset, .unset, .unset, .unset, .unset, .unset, .unset] []))
    refine own_byH (fun _ kS => XS.iload X0.here hx rfl (hb hby at_39) rfl kS) ?_
    show own_ComesH Z p e below s _ _ _ (s₁.setTop (mkF m 41 #[.val (.int p0), .val (.int p1), .val (.int p2), .val (.int p3), .val (.int (p0 &&& (7 : Int32))), .val (.int ((p1 &&& (255 : Int32)).toUInt32.toUInt16.toUInt32.toInt32)), .val (.int ((((p1.toUInt32 >>> ((8 : Int32) &&& 31).toUInt32).toInt32) &&& (255 : Int32)).toUInt32.toUInt16.toUInt32.toInt32)), .unset, .unset, .unset, .unset, .unset, .unset, .unset, .unset, .unset, .unset] [(.int (p0 &&& (7 : Int32)))]))
    refine own_byH (fun _ kS => XS.iconst X0.here hx rfl (hb hby at_41) kS) ?_
    show own_ComesH Z p e below s _ _ _ (s₁.setTop (mkF m 42 #[.val (.int p0), .val (.int p1), .val (.int p2), .val (.int p3), .val (.int (p0 &&& (7 : Int32))), .val (.int ((p1 &&& (255 : Int32)).toUInt32.toUInt16.toUInt32.toInt32)), .val (.int ((((p1.toUInt32 >>> ((8 : Int32) &&& 31).toUInt32).toInt32) &&& (255 : Int32)).toUInt32.toUInt16.toUInt32.toInt32)), .unset, .unset, .unset, .unset, .unset, .unset, .unset, .unset, .unset, .unset] [(.int (1 : Int32)), (.int (p0 &&& (7 : Int32)))]))
    by_cases hm1 : (p0 &&& (7 : Int32)) = (1 : Int32)
    · refine own_byH (fun _ kS => XS.icmpNo X0.here hx rfl (hb hby at_42) rfl (teq hm1).2 kS) ?_
      show own_ComesH Z p e below s _ _ _ (s₁.setTop (mkF m 45 #[.val (.int p0), .val (.int p1), .val (.int p2), .val (.int p3), .val (.int (p0 &&& (7 : Int32))), .val (.int ((p1 &&& (255 : Int32)).toUInt32.toUInt16.toUInt32.toInt32)), .val (.int ((((p1.toUInt32 >>> ((8 : Int32) &&& 31).toUInt32).toInt32) &&& (255 : Int32)).toUInt32.toUInt16.toUInt32.toInt32)), .unset, .unset, .unset, .unset, .unset, .unset, .unset, .unset, .unset, .unset] []))
      obtain ⟨T248, h248, X248, e248, E248, A248, D248, -, st248⟩ := newO X0 hx hZ hown (hw _ (List.mem_of_getElem? (i := 0) rfl)) (hw _ (List.mem_of_getElem? (i := 1) rfl)) (hw _ (List.mem_of_getElem? (i := 2) rfl)) e0 (g := (mkF m 45 #[.val (.int p0), .val (.int p1), .val (.int p2), .val (.int p3), .val (.int (p0 &&& (7 : Int32))), .val (.int ((p1 &&& (255 : Int32)).toUInt32.toUInt16.toUInt32.toInt32)), .val (.int ((((p1.toUInt32 >>> ((8 : Int32) &&& 31).toUInt32).toInt32) &&& (255 : Int32)).toUInt32.toUInt16.toUInt32.toInt32)), .unset, .unset, .unset, .unset, .unset, .unset, .unset, .unset, .unset, .unset] [])) rfl (hb hby at_45) (by decide) (by decide)
      obtain ⟨b248, g248⟩ : ∃ z, z = h0.size := ⟨_, rfl⟩
      rw [← g248] at A248 D248 st248
      have g_b248 : n0 ≤ b248 := Nat.le_trans Z0 (Nat.le_of_eq g248.symm)
      refine own_byH st248 ?_
      have CR249 := CHr.ext E248 CH.1
      have CH249 := CH.trans CR249
      have sb248 := Safe.ext E248 CH.1 (Safe.new (Nat.le_of_eq g248.symm))
      show own_ComesH Z p e below s _ _ _ (T248.setTop (mkF m 48 #[.val (.int p0), .val (.int p1), .val (.int p2), .val (.int p3), .val (.int (p0 &&& (7 : Int32))), .val (.int ((p1 &&& (255 : Int32)).toUInt32.toUInt16.toUInt32.toInt32)), .val (.int ((((p1.toUInt32 >>> ((8 : Int32) &&& 31).toUInt32).toInt32) &&& (255 : Int32)).toUInt32.toUInt16.toUInt32.toInt32)), .unset, .unset, .unset, .unset, .unset, .unset, .unset, .unset, .unset, .unset] [(.ref b248)]))
      refine own_byH (fun _ kS => XS.dup X248.here hx rfl (hb hby at_48) rfl rfl kS) ?_
      show own_ComesH Z p e below s _ _ _ (T248.setTop (mkF m 49 #[.val (.int p0), .val (.int p1), .val (.int p2), .val (.int p3), .val (.int (p0 &&& (7 : Int32))), .val (.int ((p1 &&& (255 : Int32)).toUInt32.toUInt16.toUInt32.toInt32)), .val (.int ((((p1.toUInt32 >>> ((8 : Int32) &&& 31).toUInt32).toInt32) &&& (255 : Int32)).toUInt32.toUInt16.toUInt32.toInt32)), .unset, .unset, .unset, .unset, .unset, .unset, .unset, .unset, .unset, .unset] [(.ref b248), (.ref b248)]))
      refine own_byH (fun _ kS => XS.iconst X248.here hx rfl (hb hby at_49) kS) ?_
      show own_ComesH Z p e below s _ _ _ (T248.setTop (mkF m 50 #[.val (.int p0), .val (.int p1), .val (.int p2), .val (.int p3), .val (.int (p0 &&& (7 : Int32))), .val (.int ((p1 &&& (255 : Int32)).toUInt32.toUInt16.toUInt32.toInt32)), .val (.int ((((p1.toUInt32 >>> ((8 : Int32) &&& 31).toUInt32).toInt32) &&& (255 : Int32)).toUInt32.toUInt16.toUInt32.toInt32)), .unset, .unset, .unset, .unset, .unset, .unset, .unset, .unset, .unset, .unset] [(.int (1 : Int32)), (.ref b248), (.ref b248)]))
      obtain ⟨T250, h250, k250, X250, e250, E250, A250, st250⟩ := newP X248 hx hZ (hw _ (List.mem_of_getElem? (i := 3) rfl)) e248 (g := (mkF m 50 #[.val (.int p0), .val (.int p1), .val (.int p2), .val (.int p3), .val (.int (p0 &&& (7 : Int32))), .val (.int ((p1 &&& (255 : Int32)).toUInt32.toUInt16.toUInt32.toInt32)), .val (.int ((((p1.toUInt32 >>> ((8 : Int32) &&& 31).toUInt32).toInt32) &&& (255 : Int32)).toUInt32.toUInt16.toUInt32.toInt32)), .unset, .unset, .unset, .unset, .unset, .unset, .unset, .unset, .unset, .unset] [(.int (1 : Int32)), (.ref b248), (.ref b248)])) rfl (hb hby at_50) rfl (by decide) (cap := 1) (by decide) (by decide) (by decide) (by decide)
      obtain ⟨b250, g250⟩ : ∃ z, z = h248.size := ⟨_, rfl⟩
      rw [← g250] at A250 st250
      have g_b250 : n0 ≤ b250 := Nat.le_trans (Nat.le_trans Z0 E248.1) (Nat.le_of_eq g250.symm)
      refine own_byH st250 ?_
      have CR251 := CHr.ext E250 CH249.1
      have CH251 := CH249.trans CR251
      have sb250 := Safe.ext E250 CH249.1 (Safe.new (Nat.le_of_eq g250.symm))
      have V_b250 : Arv Z h250 b250 k250 .char (1 : Int32) [(.int (0 : Int32))] (.int (0 : Int32)) := (Arv.new A250 (by decide)).pad (pad_rep [] (.int (0 : Int32)) 1)
      show own_ComesH Z p e below s _ _ _ (T250.setTop (mkF m 52 #[.val (.int p0), .val (.int p1), .val (.int p2), .val (.int p3), .val (.int (p0 &&& (7 : Int32))), .val (.int ((p1 &&& (255 : Int32)).toUInt32.toUInt16.toUInt32.toInt32)), .val (.int ((((p1.toUInt32 >>> ((8 : Int32) &&& 31).toUInt32).toInt32) &&& (255 : Int32)).toUInt32.toUInt16.toUInt32.toInt32)), .unset, .unset, .unset, .unset, .unset, .unset, .unset, .unset, .unset, .unset] [(.ref b250), (.ref b248), (.ref b248)]))
      have sz_b250 : h0.size ≤ b250 := Nat.le_trans ((Keep.refl _ []).ext E248).1 (Nat.le_of_eq g250.symm)
      have nA250 : b248 ≠ b250 := Nat.ne_of_lt (Nat.lt_of_lt_of_le A248.lt (Nat.le_of_eq g250.symm))
      have sz_b248 : h0.size ≤ b248 := Nat.le_of_eq g248.symm
      refine own_byH (fun _ kS => XS.dup X250.here hx rfl (hb hby at_52) rfl rfl kS) ?_
      show own_ComesH Z p e below s _ _ _ (T250.setTop (mkF m 53 #[.val (.int p0), .val (.int p1), .val (.int p2), .val (.int p3), .val (.int (p0 &&& (7 : Int32))), .val (.int ((p1 &&& (255 : Int32)).toUInt32.toUInt16.toUInt32.toInt32)), .val (.int ((((p1.toUInt32 >>> ((8 : Int32) &&& 31).toUInt32).toInt32) &&& (255 : Int32)).toUInt32.toUInt16.toUInt32.toInt32)), .unset, .unset, .unset, .unset, .unset, .unset, .unset, .unset, .unset, .unset] [(.ref b250), (.ref b250), (.ref b248), (.ref b248)]))
      refine own_byH (fun _ kS => XS.iconst X250.here hx rfl (hb hby at_53) kS) ?_
      show own_ComesH Z p e below s _ _ _ (T250.setTop (mkF m 54 #[.val (.int p0), .val (.int p1), .val (.int p2), .val (.int p3), .val (.int (p0 &&& (7 : Int32))), .val (.int ((p1 &&& (255 : Int32)).toUInt32.toUInt16.toUInt32.toInt32)), .val (.int ((((p1.toUInt32 >>> ((8 : Int32) &&& 31).toUInt32).toInt32) &&& (255 : Int32)).toUInt32.toUInt16.toUInt32.toInt32)), .unset, .unset, .unset, .unset, .unset, .unset, .unset, .unset, .unset, .unset] [(.int (0 : Int32)), (.ref b250), (.ref b250), (.ref b248), (.ref b248)]))
      refine own_byH (fun _ kS => XS.iload X250.here hx rfl (hb hby at_54) rfl kS) ?_
      show own_ComesH Z p e below s _ _ _ (T250.setTop (mkF m 56 #[.val (.int p0), .val (.int p1), .val (.int p2), .val (.int p3), .val (.int (p0 &&& (7 : Int32))), .val (.int ((p1 &&& (255 : Int32)).toUInt32.toUInt16.toUInt32.toInt32)), .val (.int ((((p1.toUInt32 >>> ((8 : Int32) &&& 31).toUInt32).toInt32) &&& (255 : Int32)).toUInt32.toUInt16.toUInt32.toInt32)), .unset, .unset, .unset, .unset, .unset, .unset, .unset, .unset, .unset, .unset] [(.int ((p1 &&& (255 : Int32)).toUInt32.toUInt16.toUInt32.toInt32)), (.int (0 : Int32)), (.ref b250), (.ref b250), (.ref b248), (.ref b248)]))
      have Vo252 := V_b250
      obtain ⟨cl252, Ar252, qA252, SA252, NA252, HA252, GA252⟩ := Vo252
      have hin252 : ¬ ((0 : Int32) < 0 ∨ cl252.slots.size ≤ ((0 : Int32)).toNatClampNeg) := inb_of SA252 ⟨by decide, by decide⟩
      obtain ⟨T253, h253, X253, e253, W253, st253⟩ := stC X250 hx hZ e250 Ar252 (j := (0 : Int32)) hin252 (g := (mkF m 56 #[.val (.int p0), .val (.int p1), .val (.int p2), .val (.int p3), .val (.int (p0 &&& (7 : Int32))), .val (.int ((p1 &&& (255 : Int32)).toUInt32.toUInt16.toUInt32.toInt32)), .val (.int ((((p1.toUInt32 >>> ((8 : Int32) &&& 31).toUInt32).toInt32) &&& (255 : Int32)).toUInt32.toUInt16.toUInt32.toInt32)), .unset, .unset, .unset, .unset, .unset, .unset, .unset, .unset, .unset, .unset] [(.int ((p1 &&& (255 : Int32)).toUInt32.toUInt16.toUInt32.toInt32)), (.int (0 : Int32)), (.ref b250), (.ref b250), (.ref b248), (.ref b248)])) rfl rfl (hb hby at_56)
      refine own_byH st253 ?_
      have V253 : Arv Z h253 b250 k250 .char (1 : Int32) [(.int (nar .char ((p1 &&& (255 : Int32)).toUInt32.toUInt16.toUInt32.toInt32)))] (.int (0 : Int32)) := Arv.set Ar252 qA252 SA252 NA252 HA252 GA252 (by first | rfl | exact fits_nar_char _) W253 0 rfl (Nat.le_of_ble_eq_true rfl)
      have CR254 := CHr.wr W253 sb250 CH251.1
      have CH254 := CH251.trans CR254
      have N253 := Fr.snoc X253 N0 g_b250
      show own_ComesH Z p e below s _ _ _ (T253.setTop (mkF m 57 #[.val (.int p0), .val (.int p1), .val (.int p2), .val (.int p3), .val (.int (p0 &&& (7 : Int32))), .val (.int ((p1 &&& (255 : Int32)).toUInt32.toUInt16.toUInt32.toInt32)), .val (.int ((((p1.toUInt32 >>> ((8 : Int32) &&& 31).toUInt32).toInt32) &&& (255 : Int32)).toUInt32.toUInt16.toUInt32.toInt32)), .unset, .unset, .unset, .unset, .unset, .unset, .unset, .unset, .unset, .unset] [(.ref b250), (.ref b248), (.ref b248)]))
      have Vc := V253
      simp only [own_narc hX] at Vc
      have hpb248 : ∀ c ∈ [((p1 &&& (255 : Int32)).toUInt32.toUInt16.toUInt32.toInt32)], ¬ c < 0 ∧ ¬ (255 : Int32) < c := fun c hc => by
        simp only [List.mem_cons, List.not_mem_nil, or_false] at hc
        rcases hc with rfl
        · exact hX
      have c255 := (((D248 (Or.inr (hw _ (List.mem_of_getElem? (i := 29) rfl))) (ty := (.array .byte)) (by decide)).ext E250).other W253 (Or.inl nA250))
      have c256 := (((D248 (Or.inr (hw _ (List.mem_of_getElem? (i := 27) rfl))) (ty := .byte) (by decide)).ext E250).other W253 (Or.inl nA250))
      obtain ⟨vv257, _, ⟨T257, L257, k257, n257⟩, -, X257, ⟨Lc257, hQ257, l257, y257, z257⟩, st257⟩ := X253.specialBack hx (y := (⟨"java/lang/String", "<init>", "([C)V"⟩ : MethodName)) rfl hown (mvT hZ (hw _ (List.mem_of_getElem? (i := 4) rfl))) (mvT hZ (hw _ (List.mem_of_getElem? (i := 5) rfl))) (mvT hZ (hw _ (List.mem_of_getElem? (i := 6) rfl))) (by decide) (StrChars.Road.backV (W := 1) hZ hws (kI := 4) (hw _ (List.mem_of_getElem? (i := 1) rfl)) (cs := [((p1 &&& (255 : Int32)).toUInt32.toUInt16.toUInt32.toInt32)]) (bs := [((p1 &&& (255 : Int32)).toUInt32.toUInt16.toUInt32.toInt32)].map (fun c => c.toInt8.toInt32)) (n := 1) (n0 := n0) g_b248 (Nat.le_trans (Nat.le_trans (Nat.le_trans Z0 E248.1) E250.1) (Keep.of_wr W253).1) ((A248.ext E250).wr W253) c255 c256 Vc (Sz.ext (((O0.ext E248).ext E250).wr W253 g_b250).2) hzc rfl rfl (by decide) (by decide) hpb248 rfl (by decide) (by decide)) (g := (mkF m 57 #[.val (.int p0), .val (.int p1), .val (.int p2), .val (.int p3), .val (.int (p0 &&& (7 : Int32))), .val (.int ((p1 &&& (255 : Int32)).toUInt32.toUInt16.toUInt32.toInt32)), .val (.int ((((p1.toUInt32 >>> ((8 : Int32) &&& 31).toUInt32).toInt32) &&& (255 : Int32)).toUInt32.toUInt16.toUInt32.toInt32)), .unset, .unset, .unset, .unset, .unset, .unset, .unset, .unset, .unset, .unset] [(.ref b250), (.ref b248), (.ref b248)])) rfl (by rw [hml]; rfl) (Steps.refl _) (a := b248) (argsL := [(.ref b250)]) (rest := [(.ref b248)]) (lenOf pd___C_V_325 rfl) rfl (by show 2 * 0 + _ ≤ _; exact Nat.le_of_eq rfl) (hb hby at_57) (fun _ _ => ⟨rfl, e253, (by decide : 2 + 1 ≤ _), (by decide : 5 + 1 ≤ _)⟩)
      dsimp only [Pt.U, Pt.locs, Pt.cells, Pt.slots] at X257 l257 y257 z257 st257 hQ257
      subst l257 y257 z257
      obtain ⟨rfl, N257q, K257, Eb257, Cb257, t257, kb257, _, _, _, Vb257, Ab257⟩ := hQ257
      have N257 := Fr.app N253 N257q
      refine own_trH st257 ?_
      have sf259 := (CR251.trans CR254).safe A248.lt sb248
      have CR258 := CHr.keep K257 (sfS sf259 sf0) CH254.1
      have CH258 := CH254.trans CR258
      show own_ComesH Z p e below s _ _ _ (T257.setTop (mkF m 60 #[.val (.int p0), .val (.int p1), .val (.int p2), .val (.int p3), .val (.int (p0 &&& (7 : Int32))), .val (.int ((p1 &&& (255 : Int32)).toUInt32.toUInt16.toUInt32.toInt32)), .val (.int ((((p1.toUInt32 >>> ((8 : Int32) &&& 31).toUInt32).toInt32) &&& (255 : Int32)).toUInt32.toUInt16.toUInt32.toInt32)), .unset, .unset, .unset, .unset, .unset, .unset, .unset, .unset, .unset, .unset] [(.ref b248)]))
      have hSb248 : own_Str Z T257.heap b248 [((p1 &&& (255 : Int32)).toUInt32.toUInt16.toUInt32.toInt32)] := ⟨Eb257, t257, kb257, _, _, Vb257, Cb257, Ab257, StrChars.Road.codOf rfl (fun c hc => (hpb248 c hc).2), fun c hc => own_up (hpb248 c hc), Nat.le_of_ble_eq_true rfl⟩
      refine own_byH (fun _ kS => XS.astore X257.here hx rfl (hb hby at_60) rfl rfl (l' := #[.val (.int p0), .val (.int p1), .val (.int p2), .val (.int p3), .val (.int (p0 &&& (7 : Int32))), .val (.int ((p1 &&& (255 : Int32)).toUInt32.toUInt16.toUInt32.toInt32)), .val (.int ((((p1.toUInt32 >>> ((8 : Int32) &&& 31).toUInt32).toInt32) &&& (255 : Int32)).toUInt32.toUInt16.toUInt32.toInt32)), .val (.ref b248), .unset, .unset, .unset, .unset, .unset, .unset, .unset, .unset, .unset]) rfl kS) ?_
      show own_ComesH Z p e below s _ _ _ (T257.setTop (mkF m 62 #[.val (.int p0), .val (.int p1), .val (.int p2), .val (.int p3), .val (.int (p0 &&& (7 : Int32))), .val (.int ((p1 &&& (255 : Int32)).toUInt32.toUInt16.toUInt32.toInt32)), .val (.int ((((p1.toUInt32 >>> ((8 : Int32) &&& 31).toUInt32).toInt32) &&& (255 : Int32)).toUInt32.toUInt16.toUInt32.toInt32)), .val (.ref b248), .unset, .unset, .unset, .unset, .unset, .unset, .unset, .unset, .unset] []))
      refine own_byH (fun _ kS => XS.iconst X257.here hx rfl (hb hby at_62) kS) ?_
      show own_ComesH Z p e below s _ _ _ (T257.setTop (mkF m 63 #[.val (.int p0), .val (.int p1), .val (.int p2), .val (.int p3), .val (.int (p0 &&& (7 : Int32))), .val (.int ((p1 &&& (255 : Int32)).toUInt32.toUInt16.toUInt32.toInt32)), .val (.int ((((p1.toUInt32 >>> ((8 : Int32) &&& 31).toUInt32).toInt32) &&& (255 : Int32)).toUInt32.toUInt16.toUInt32.toInt32)), .val (.ref b248), .unset, .unset, .unset, .unset, .unset, .unset, .unset, .unset, .unset] [(.int (0 : Int32))]))
      refine own_byH (fun _ kS => XS.istore X257.here hx rfl (hb hby at_63) rfl (l' := #[.val (.int p0), .val (.int p1), .val (.int p2), .val (.int p3), .val (.int (p0 &&& (7 : Int32))), .val (.int ((p1 &&& (255 : Int32)).toUInt32.toUInt16.toUInt32.toInt32)), .val (.int ((((p1.toUInt32 >>> ((8 : Int32) &&& 31).toUInt32).toInt32) &&& (255 : Int32)).toUInt32.toUInt16.toUInt32.toInt32)), .val (.ref b248), .val (.int (0 : Int32)), .unset, .unset, .unset, .unset, .unset, .unset, .unset, .unset]) rfl kS) ?_
      show own_ComesH Z p e below s _ _ _ (T257.setTop (mkF m 65 #[.val (.int p0), .val (.int p1), .val (.int p2), .val (.int p3), .val (.int (p0 &&& (7 : Int32))), .val (.int ((p1 &&& (255 : Int32)).toUInt32.toUInt16.toUInt32.toInt32)), .val (.int ((((p1.toUInt32 >>> ((8 : Int32) &&& 31).toUInt32).toInt32) &&& (255 : Int32)).toUInt32.toUInt16.toUInt32.toInt32)), .val (.ref b248), .val (.int (0 : Int32)), .unset, .unset, .unset, .unset, .unset, .unset, .unset, .unset] []))
      refine own_byH (fun _ kS => XS.goto X257.here hx rfl (pc0 := 65) (pc' := 299) rfl (hb hby at_65) (by decide) (by decide) kS) ?_
      show own_ComesH Z p e below s _ _ _ (T257.setTop (mkF m 299 #[.val (.int p0), .val (.int p1), .val (.int p2), .val (.int p3), .val (.int (p0 &&& (7 : Int32))), .val (.int ((p1 &&& (255 : Int32)).toUInt32.toUInt16.toUInt32.toInt32)), .val (.int ((((p1.toUInt32 >>> ((8 : Int32) &&& 31).toUInt32).toInt32) &&& (255 : Int32)).toUInt32.toUInt16.toUInt32.toInt32)), .val (.ref b248), .val (.int (0 : Int32)), .unset, .unset, .unset, .unset, .unset, .unset, .unset, .unset] []))
      have c260 := ((((O0.ext E248).ext E250).wr W253 g_b250).keep K257 (allS g_b248 all0))
      exact J299 _ _ _ _ _ (.ref b248) (0 : Int32) (X257.more (by decide) (by decide)) rfl hZ hown hS (Nat.le_trans (Nat.le_trans (Nat.le_trans (Nat.le_trans hk E248.1) E250.1) (Keep.of_wr W253).1) K257.1) CH258 N257 c260 (Nat.le_trans (Nat.le_trans (Nat.le_trans (Nat.le_trans Z0 E248.1) E250.1) (Keep.of_wr W253).1) K257.1) (Or.inr ⟨_, _, rfl, hSb248, Or.inr ⟨own_n1 _, rfl⟩⟩)
    · refine own_byH (fun _ kS => XS.icmpYes X0.here hx rfl (pc0 := 42) (pc' := 68) rfl (hb hby at_42) rfl (feq hm1).2 (by decide) (by decide) kS) ?_
      show own_ComesH Z p e below s _ _ _ (s₁.setTop (mkF m 68 #[.val (.int p0), .val (.int p1), .val (.int p2), .val (.int p3), .val (.int (p0 &&& (7 : Int32))), .val (.int ((p1 &&& (255 : Int32)).toUInt32.toUInt16.toUInt32.toInt32)), .val (.int ((((p1.toUInt32 >>> ((8 : Int32) &&& 31).toUInt32).toInt32) &&& (255 : Int32)).toUInt32.toUInt16.toUInt32.toInt32)), .unset, .unset, .unset, .unset, .unset, .unset, .unset, .unset, .unset, .unset] []))
      refine own_byH (fun _ kS => XS.iload X0.here hx rfl (hb hby at_68) rfl kS) ?_
      show own_ComesH Z p e below s _ _ _ (s₁.setTop (mkF m 70 #[.val (.int p0), .val (.int p1), .val (.int p2), .val (.int p3), .val (.int (p0 &&& (7 : Int32))), .val (.int ((p1 &&& (255 : Int32)).toUInt32.toUInt16.toUInt32.toInt32)), .val (.int ((((p1.toUInt32 >>> ((8 : Int32) &&& 31).toUInt32).toInt32) &&& (255 : Int32)).toUInt32.toUInt16.toUInt32.toInt32)), .unset, .unset, .unset, .unset, .unset, .unset, .unset, .unset, .unset, .unset] [(.int (p0 &&& (7 : Int32)))]))
      refine own_byH (fun _ kS => XS.iconst X0.here hx rfl (hb hby at_70) kS) ?_
      show own_ComesH Z p e below s _ _ _ (s₁.setTop (mkF m 71 #[.val (.int p0), .val (.int p1), .val (.int p2), .val (.int p3), .val (.int (p0 &&& (7 : Int32))), .val (.int ((p1 &&& (255 : Int32)).toUInt32.toUInt16.toUInt32.toInt32)), .val (.int ((((p1.toUInt32 >>> ((8 : Int32) &&& 31).toUInt32).toInt32) &&& (255 : Int32)).toUInt32.toUInt16.toUInt32.toInt32)), .unset, .unset, .unset, .unset, .unset, .unset, .unset, .unset, .unset, .unset] [(.int (2 : Int32)), (.int (p0 &&& (7 : Int32)))]))
      by_cases hm2 : (p0 &&& (7 : Int32)) = (2 : Int32)
      · refine own_byH (fun _ kS => XS.icmpNo X0.here hx rfl (hb hby at_71) rfl (teq hm2).2 kS) ?_
        show own_ComesH Z p e below s _ _ _ (s₁.setTop (mkF m 74 #[.val (.int p0), .val (.int p1), .val (.int p2), .val (.int p3), .val (.int (p0 &&& (7 : Int32))), .val (.int ((p1 &&& (255 : Int32)).toUInt32.toUInt16.toUInt32.toInt32)), .val (.int ((((p1.toUInt32 >>> ((8 : Int32) &&& 31).toUInt32).toInt32) &&& (255 : Int32)).toUInt32.toUInt16.toUInt32.toInt32)), .unset, .unset, .unset, .unset, .unset, .unset, .unset, .unset, .unset, .unset] []))
        obtain ⟨T261, h261, X261, e261, E261, A261, D261, -, st261⟩ := newO X0 hx hZ hown (hw _ (List.mem_of_getElem? (i := 0) rfl)) (hw _ (List.mem_of_getElem? (i := 1) rfl)) (hw _ (List.mem_of_getElem? (i := 2) rfl)) e0 (g := (mkF m 74 #[.val (.int p0), .val (.int p1), .val (.int p2), .val (.int p3), .val (.int (p0 &&& (7 : Int32))), .val (.int ((p1 &&& (255 : Int32)).toUInt32.toUInt16.toUInt32.toInt32)), .val (.int ((((p1.toUInt32 >>> ((8 : Int32) &&& 31).toUInt32).toInt32) &&& (255 : Int32)).toUInt32.toUInt16.toUInt32.toInt32)), .unset, .unset, .unset, .unset, .unset, .unset, .unset, .unset, .unset, .unset] [])) rfl (hb hby at_74) (by decide) (by decide)
        obtain ⟨b261, g261⟩ : ∃ z, z = h0.size := ⟨_, rfl⟩
        rw [← g261] at A261 D261 st261
        have g_b261 : n0 ≤ b261 := Nat.le_trans Z0 (Nat.le_of_eq g261.symm)
        refine own_byH st261 ?_
        have CR262 := CHr.ext E261 CH.1
        have CH262 := CH.trans CR262
        have sb261 := Safe.ext E261 CH.1 (Safe.new (Nat.le_of_eq g261.symm))
        show own_ComesH Z p e below s _ _ _ (T261.setTop (mkF m 77 #[.val (.int p0), .val (.int p1), .val (.int p2), .val (.int p3), .val (.int (p0 &&& (7 : Int32))), .val (.int ((p1 &&& (255 : Int32)).toUInt32.toUInt16.toUInt32.toInt32)), .val (.int ((((p1.toUInt32 >>> ((8 : Int32) &&& 31).toUInt32).toInt32) &&& (255 : Int32)).toUInt32.toUInt16.toUInt32.toInt32)), .unset, .unset, .unset, .unset, .unset, .unset, .unset, .unset, .unset, .unset] [(.ref b261)]))
        refine own_byH (fun _ kS => XS.dup X261.here hx rfl (hb hby at_77) rfl rfl kS) ?_
        show own_ComesH Z p e below s _ _ _ (T261.setTop (mkF m 78 #[.val (.int p0), .val (.int p1), .val (.int p2), .val (.int p3), .val (.int (p0 &&& (7 : Int32))), .val (.int ((p1 &&& (255 : Int32)).toUInt32.toUInt16.toUInt32.toInt32)), .val (.int ((((p1.toUInt32 >>> ((8 : Int32) &&& 31).toUInt32).toInt32) &&& (255 : Int32)).toUInt32.toUInt16.toUInt32.toInt32)), .unset, .unset, .unset, .unset, .unset, .unset, .unset, .unset, .unset, .unset] [(.ref b261), (.ref b261)]))
        refine own_byH (fun _ kS => XS.iconst X261.here hx rfl (hb hby at_78) kS) ?_
        show own_ComesH Z p e below s _ _ _ (T261.setTop (mkF m 79 #[.val (.int p0), .val (.int p1), .val (.int p2), .val (.int p3), .val (.int (p0 &&& (7 : Int32))), .val (.int ((p1 &&& (255 : Int32)).toUInt32.toUInt16.toUInt32.toInt32)), .val (.int ((((p1.toUInt32 >>> ((8 : Int32) &&& 31).toUInt32).toInt32) &&& (255 : Int32)).toUInt32.toUInt16.toUInt32.toInt32)), .unset, .unset, .unset, .unset, .unset, .unset, .unset, .unset, .unset, .unset] [(.int (2 : Int32)), (.ref b261), (.ref b261)]))
        obtain ⟨T263, h263, k263, X263, e263, E263, A263, st263⟩ := newP X261 hx hZ (hw _ (List.mem_of_getElem? (i := 3) rfl)) e261 (g := (mkF m 79 #[.val (.int p0), .val (.int p1), .val (.int p2), .val (.int p3), .val (.int (p0 &&& (7 : Int32))), .val (.int ((p1 &&& (255 : Int32)).toUInt32.toUInt16.toUInt32.toInt32)), .val (.int ((((p1.toUInt32 >>> ((8 : Int32) &&& 31).toUInt32).toInt32) &&& (255 : Int32)).toUInt32.toUInt16.toUInt32.toInt32)), .unset, .unset, .unset, .unset, .unset, .unset, .unset, .unset, .unset, .unset] [(.int (2 : Int32)), (.ref b261), (.ref b261)])) rfl (hb hby at_79) rfl (by decide) (cap := 2) (by decide) (by decide) (by decide) (by decide)
        obtain ⟨b263, g263⟩ : ∃ z, z = h261.size := ⟨_, rfl⟩
        rw [← g263] at A263 st263
        have g_b263 : n0 ≤ b263 := Nat.le_trans (Nat.le_trans Z0 E261.1) (Nat.le_of_eq g263.symm)
        refine own_byH st263 ?_
        have CR264 := CHr.ext E263 CH262.1
        have CH264 := CH262.trans CR264
        have sb263 := Safe.ext E263 CH262.1 (Safe.new (Nat.le_of_eq g263.symm))
        have V_b263 : Arv Z h263 b263 k263 .char (2 : Int32) [(.int (0 : Int32)), (.int (0 : Int32))] (.int (0 : Int32)) := (Arv.new A263 (by decide)).pad (pad_rep [] (.int (0 : Int32)) 2)
        show own_ComesH Z p e below s _ _ _ (T263.setTop (mkF m 81 #[.val (.int p0), .val (.int p1), .val (.int p2), .val (.int p3), .val (.int (p0 &&& (7 : Int32))), .val (.int ((p1 &&& (255 : Int32)).toUInt32.toUInt16.toUInt32.toInt32)), .val (.int ((((p1.toUInt32 >>> ((8 : Int32) &&& 31).toUInt32).toInt32) &&& (255 : Int32)).toUInt32.toUInt16.toUInt32.toInt32)), .unset, .unset, .unset, .unset, .unset, .unset, .unset, .unset, .unset, .unset] [(.ref b263), (.ref b261), (.ref b261)]))
        have sz_b263 : h0.size ≤ b263 := Nat.le_trans ((Keep.refl _ []).ext E261).1 (Nat.le_of_eq g263.symm)
        have nA263 : b261 ≠ b263 := Nat.ne_of_lt (Nat.lt_of_lt_of_le A261.lt (Nat.le_of_eq g263.symm))
        have sz_b261 : h0.size ≤ b261 := Nat.le_of_eq g261.symm
        refine own_byH (fun _ kS => XS.dup X263.here hx rfl (hb hby at_81) rfl rfl kS) ?_
        show own_ComesH Z p e below s _ _ _ (T263.setTop (mkF m 82 #[.val (.int p0), .val (.int p1), .val (.int p2), .val (.int p3), .val (.int (p0 &&& (7 : Int32))), .val (.int ((p1 &&& (255 : Int32)).toUInt32.toUInt16.toUInt32.toInt32)), .val (.int ((((p1.toUInt32 >>> ((8 : Int32) &&& 31).toUInt32).toInt32) &&& (255 : Int32)).toUInt32.toUInt16.toUInt32.toInt32)), .unset, .unset, .unset, .unset, .unset, .unset, .unset, .unset, .unset, .unset] [(.ref b263), (.ref b263), (.ref b261), (.ref b261)]))
        refine own_byH (fun _ kS => XS.iconst X263.here hx rfl (hb hby at_82) kS) ?_
        show own_ComesH Z p e below s _ _ _ (T263.setTop (mkF m 83 #[.val (.int p0), .val (.int p1), .val (.int p2), .val (.int p3), .val (.int (p0 &&& (7 : Int32))), .val (.int ((p1 &&& (255 : Int32)).toUInt32.toUInt16.toUInt32.toInt32)), .val (.int ((((p1.toUInt32 >>> ((8 : Int32) &&& 31).toUInt32).toInt32) &&& (255 : Int32)).toUInt32.toUInt16.toUInt32.toInt32)), .unset, .unset, .unset, .unset, .unset, .unset, .unset, .unset, .unset, .unset] [(.int (0 : Int32)), (.ref b263), (.ref b263), (.ref b261), (.ref b261)]))
        refine own_byH (fun _ kS => XS.iload X263.here hx rfl (hb hby at_83) rfl kS) ?_
        show own_ComesH Z p e below s _ _ _ (T263.setTop (mkF m 85 #[.val (.int p0), .val (.int p1), .val (.int p2), .val (.int p3), .val (.int (p0 &&& (7 : Int32))), .val (.int ((p1 &&& (255 : Int32)).toUInt32.toUInt16.toUInt32.toInt32)), .val (.int ((((p1.toUInt32 >>> ((8 : Int32) &&& 31).toUInt32).toInt32) &&& (255 : Int32)).toUInt32.toUInt16.toUInt32.toInt32)), .unset, .unset, .unset, .unset, .unset, .unset, .unset, .unset, .unset, .unset] [(.int ((p1 &&& (255 : Int32)).toUInt32.toUInt16.toUInt32.toInt32)), (.int (0 : Int32)), (.ref b263), (.ref b263), (.ref b261), (.ref b261)]))
        have Vo265 := V_b263
        obtain ⟨cl265, Ar265, qA265, SA265, NA265, HA265, GA265⟩ := Vo265
        have hin265 : ¬ ((0 : Int32) < 0 ∨ cl265.slots.size ≤ ((0 : Int32)).toNatClampNeg) := inb_of SA265 ⟨by decide, by decide⟩
        obtain ⟨T266, h266, X266, e266, W266, st266⟩ := stC X263 hx hZ e263 Ar265 (j := (0 : Int32)) hin265 (g := (mkF m 85 #[.val (.int p0), .val (.int p1), .val (.int p2), .val (.int p3), .val (.int (p0 &&& (7 : Int32))), .val (.int ((p1 &&& (255 : Int32)).toUInt32.toUInt16.toUInt32.toInt32)), .val (.int ((((p1.toUInt32 >>> ((8 : Int32) &&& 31).toUInt32).toInt32) &&& (255 : Int32)).toUInt32.toUInt16.toUInt32.toInt32)), .unset, .unset, .unset, .unset, .unset, .unset, .unset, .unset, .unset, .unset] [(.int ((p1 &&& (255 : Int32)).toUInt32.toUInt16.toUInt32.toInt32)), (.int (0 : Int32)), (.ref b263), (.ref b263), (.ref b261), (.ref b261)])) rfl rfl (hb hby at_85)
        refine own_byH st266 ?_
        have V266 : Arv Z h266 b263 k263 .char (2 : Int32) [(.int (nar .char ((p1 &&& (255 : Int32)).toUInt32.toUInt16.toUInt32.toInt32))), (.int (0 : Int32))] (.int (0 : Int32)) := Arv.set Ar265 qA265 SA265 NA265 HA265 GA265 (by first | rfl | exact fits_nar_char _) W266 0 rfl (Nat.le_of_ble_eq_true rfl)
        have CR267 := CHr.wr W266 sb263 CH264.1
        have CH267 := CH264.trans CR267
        have N266 := Fr.snoc X266 N0 g_b263
        show own_ComesH Z p e below s _ _ _ (T266.setTop (mkF m 86 #[.val (.int p0), .val (.int p1), .val (.int p2), .val (.int p3), .val (.int (p0 &&& (7 : Int32))), .val (.int ((p1 &&& (255 : Int32)).toUInt32.toUInt16.toUInt32.toInt32)), .val (.int ((((p1.toUInt32 >>> ((8 : Int32) &&& 31).toUInt32).toInt32) &&& (255 : Int32)).toUInt32.toUInt16.toUInt32.toInt32)), .unset, .unset, .unset, .unset, .unset, .unset, .unset, .unset, .unset, .unset] [(.ref b263), (.ref b261), (.ref b261)]))
        refine own_byH (fun _ kS => XS.dup X266.here hx rfl (hb hby at_86) rfl rfl kS) ?_
        show own_ComesH Z p e below s _ _ _ (T266.setTop (mkF m 87 #[.val (.int p0), .val (.int p1), .val (.int p2), .val (.int p3), .val (.int (p0 &&& (7 : Int32))), .val (.int ((p1 &&& (255 : Int32)).toUInt32.toUInt16.toUInt32.toInt32)), .val (.int ((((p1.toUInt32 >>> ((8 : Int32) &&& 31).toUInt32).toInt32) &&& (255 : Int32)).toUInt32.toUInt16.toUInt32.toInt32)), .unset, .unset, .unset, .unset, .unset, .unset, .unset, .unset, .unset, .unset] [(.ref b263), (.ref b263), (.ref b261), (.ref b261)]))
        refine own_byH (fun _ kS => XS.iconst X266.here hx rfl (hb hby at_87) kS) ?_
        show own_ComesH Z p e below s _ _ _ (T266.setTop (mkF m 88 #[.val (.int p0), .val (.int p1), .val (.int p2), .val (.int p3), .val (.int (p0 &&& (7 : Int32))), .val (.int ((p1 &&& (255 : Int32)).toUInt32.toUInt16.toUInt32.toInt32)), .val (.int ((((p1.toUInt32 >>> ((8 : Int32) &&& 31).toUInt32).toInt32) &&& (255 : Int32)).toUInt32.toUInt16.toUInt32.toInt32)), .unset, .unset, .unset, .unset, .unset, .unset, .unset, .unset, .unset, .unset] [(.int (1 : Int32)), (.ref b263), (.ref b263), (.ref b261), (.ref b261)]))
        refine own_byH (fun _ kS => XS.iload X266.here hx rfl (hb hby at_88) rfl kS) ?_
        show own_ComesH Z p e below s _ _ _ (T266.setTop (mkF m 90 #[.val (.int p0), .val (.int p1), .val (.int p2), .val (.int p3), .val (.int (p0 &&& (7 : Int32))), .val (.int ((p1 &&& (255 : Int32)).toUInt32.toUInt16.toUInt32.toInt32)), .val (.int ((((p1.toUInt32 >>> ((8 : Int32) &&& 31).toUInt32).toInt32) &&& (255 : Int32)).toUInt32.toUInt16.toUInt32.toInt32)), .unset, .unset, .unset, .unset, .unset, .unset, .unset, .unset, .unset, .unset] [(.int ((((p1.toUInt32 >>> ((8 : Int32) &&& 31).toUInt32).toInt32) &&& (255 : Int32)).toUInt32.toUInt16.toUInt32.toInt32)), (.int (1 : Int32)), (.ref b263), (.ref b263), (.ref b261), (.ref b261)]))
        have Vo268 := V266
        obtain ⟨cl268, Ar268, qA268, SA268, NA268, HA268, GA268⟩ := Vo268
        have hin268 : ¬ ((1 : Int32) < 0 ∨ cl268.slots.size ≤ ((1 : Int32)).toNatClampNeg) := inb_of SA268 ⟨by decide, by decide⟩
        obtain ⟨T269, h269, X269, e269, W269, st269⟩ := stC X266 hx hZ e266 Ar268 (j := (1 : Int32)) hin268 (g := (mkF m 90 #[.val (.int p0), .val (.int p1), .val (.int p2), .val (.int p3), .val (.int (p0 &&& (7 : Int32))), .val (.int ((p1 &&& (255 : Int32)).toUInt32.toUInt16.toUInt32.toInt32)), .val (.int ((((p1.toUInt32 >>> ((8 : Int32) &&& 31).toUInt32).toInt32) &&& (255 : Int32)).toUInt32.toUInt16.toUInt32.toInt32)), .unset, .unset, .unset, .unset, .unset, .unset, .unset, .unset, .unset, .unset] [(.int ((((p1.toUInt32 >>> ((8 : Int32) &&& 31).toUInt32).toInt32) &&& (255 : Int32)).toUInt32.toUInt16.toUInt32.toInt32)), (.int (1 : Int32)), (.ref b263), (.ref b263), (.ref b261), (.ref b261)])) rfl rfl (hb hby at_90)
        refine own_byH st269 ?_
        have V269 : Arv Z h269 b263 k263 .char (2 : Int32) [(.int (nar .char ((p1 &&& (255 : Int32)).toUInt32.toUInt16.toUInt32.toInt32))), (.int (nar .char ((((p1.toUInt32 >>> ((8 : Int32) &&& 31).toUInt32).toInt32) &&& (255 : Int32)).toUInt32.toUInt16.toUInt32.toInt32)))] (.int (0 : Int32)) := Arv.set Ar268 qA268 SA268 NA268 HA268 GA268 (by first | rfl | exact fits_nar_char _) W269 1 rfl (Nat.le_of_ble_eq_true rfl)
        have sf271 := CR267.safe A263.lt sb263
        have CR270 := CHr.wr W269 sf271 CH267.1
        have CH270 := CH267.trans CR270
        have N269 := Fr.snoc X269 N266 g_b263
        show own_ComesH Z p e below s _ _ _ (T269.setTop (mkF m 91 #[.val (.int p0), .val (.int p1), .val (.int p2), .val (.int p3), .val (.int (p0 &&& (7 : Int32))), .val (.int ((p1 &&& (255 : Int32)).toUInt32.toUInt16.toUInt32.toInt32)), .val (.int ((((p1.toUInt32 >>> ((8 : Int32) &&& 31).toUInt32).toInt32) &&& (255 : Int32)).toUInt32.toUInt16.toUInt32.toInt32)), .unset, .unset, .unset, .unset, .unset, .unset, .unset, .unset, .unset, .unset] [(.ref b263), (.ref b261), (.ref b261)]))
        have Vc := V269
        simp only [own_narc hX, own_narc hY] at Vc
        have hpb261 : ∀ c ∈ [((p1 &&& (255 : Int32)).toUInt32.toUInt16.toUInt32.toInt32), ((((p1.toUInt32 >>> ((8 : Int32) &&& 31).toUInt32).toInt32) &&& (255 : Int32)).toUInt32.toUInt16.toUInt32.toInt32)], ¬ c < 0 ∧ ¬ (255 : Int32) < c := fun c hc => by
          simp only [List.mem_cons, List.not_mem_nil, or_false] at hc
          rcases hc with rfl | rfl
          · exact hX
          · exact hY
        have c272 := ((((D261 (Or.inr (hw _ (List.mem_of_getElem? (i := 29) rfl))) (ty := (.array .byte)) (by decide)).ext E263).other W266 (Or.inl nA263)).other W269 (Or.inl nA263))
        have c273 := ((((D261 (Or.inr (hw _ (List.mem_of_getElem? (i := 27) rfl))) (ty := .byte) (by decide)).ext E263).other W266 (Or.inl nA263)).other W269 (Or.inl nA263))
        have c274 := ((((O0.ext E261).ext E263).wr W266 g_b263).wr W269 g_b263)
        obtain ⟨vv275, _, ⟨T275, L275, k275, n275⟩, -, X275, ⟨Lc275, hQ275, l275, y275, z275⟩, st275⟩ := X269.specialBack hx (y := (⟨"java/lang/String", "<init>", "([C)V"⟩ : MethodName)) rfl hown (mvT hZ (hw _ (List.mem_of_getElem? (i := 4) rfl))) (mvT hZ (hw _ (List.mem_of_getElem? (i := 5) rfl))) (mvT hZ (hw _ (List.mem_of_getElem? (i := 6) rfl))) (by decide) (StrChars.Road.backV (W := 1) hZ hws (kI := 4) (hw _ (List.mem_of_getElem? (i := 1) rfl)) (cs := [((p1 &&& (255 : Int32)).toUInt32.toUInt16.toUInt32.toInt32), ((((p1.toUInt32 >>> ((8 : Int32) &&& 31).toUInt32).toInt32) &&& (255 : Int32)).toUInt32.toUInt16.toUInt32.toInt32)]) (bs := [((p1 &&& (255 : Int32)).toUInt32.toUInt16.toUInt32.toInt32), ((((p1.toUInt32 >>> ((8 : Int32) &&& 31).toUInt32).toInt32) &&& (255 : Int32)).toUInt32.toUInt16.toUInt32.toInt32)].map (fun c => c.toInt8.toInt32)) (n := 2) (n0 := n0) g_b261 (Nat.le_trans (Nat.le_trans (Nat.le_trans (Nat.le_trans Z0 E261.1) E263.1) (Keep.of_wr W266).1) (Keep.of_wr W269).1) (((A261.ext E263).wr W266).wr W269) c272 c273 Vc (Sz.ext c274.2) hzc rfl rfl (by decide) (by decide) hpb261 rfl (by decide) (by decide)) (g := (mkF m 91 #[.val (.int p0), .val (.int p1), .val (.int p2), .val (.int p3), .val (.int (p0 &&& (7 : Int32))), .val (.int ((p1 &&& (255 : Int32)).toUInt32.toUInt16.toUInt32.toInt32)), .val (.int ((((p1.toUInt32 >>> ((8 : Int32) &&& 31).toUInt32).toInt32) &&& (255 : Int32)).toUInt32.toUInt16.toUInt32.toInt32)), .unset, .unset, .unset, .unset, .unset, .unset, .unset, .unset, .unset, .unset] [(.ref b263), (.ref b261), (.ref b261)])) rfl (by rw [hml]; rfl) (Steps.refl _) (a := b261) (argsL := [(.ref b263)]) (rest := [(.ref b261)]) (lenOf pd___C_V_325 rfl) rfl (by show 2 * 0 + _ ≤ _; exact Nat.le_of_eq rfl) (hb hby at_91) (fun _ _ => ⟨rfl, e269, (by decide : 2 + 1 ≤ _), (by decide : 6 + 2 ≤ _)⟩)
        dsimp only [Pt.U, Pt.locs, Pt.cells, Pt.slots] at X275 l275 y275 z275 st275 hQ275
        subst l275 y275 z275
        obtain ⟨rfl, N275q, K275, Eb275, Cb275, t275, kb275, _, _, _, Vb275, Ab275⟩ := hQ275
        have N275 := Fr.app N269 N275q
        refine own_trH st275 ?_
        have sf277 := (CR264.trans (CR267.trans CR270)).safe A261.lt sb261
        have CR276 := CHr.keep K275 (sfS sf277 sf0) CH270.1
        have CH276 := CH270.trans CR276
        show own_ComesH Z p e below s _ _ _ (T275.setTop (mkF m 94 #[.val (.int p0), .val (.int p1), .val (.int p2), .val (.int p3), .val (.int (p0 &&& (7 : Int32))), .val (.int ((p1 &&& (255 : Int32)).toUInt32.toUInt16.toUInt32.toInt32)), .val (.int ((((p1.toUInt32 >>> ((8 : Int32) &&& 31).toUInt32).toInt32) &&& (255 : Int32)).toUInt32.toUInt16.toUInt32.toInt32)), .unset, .unset, .unset, .unset, .unset, .unset, .unset, .unset, .unset, .unset] [(.ref b261)]))
        have hSb261 : own_Str Z T275.heap b261 [((p1 &&& (255 : Int32)).toUInt32.toUInt16.toUInt32.toInt32), ((((p1.toUInt32 >>> ((8 : Int32) &&& 31).toUInt32).toInt32) &&& (255 : Int32)).toUInt32.toUInt16.toUInt32.toInt32)] := ⟨Eb275, t275, kb275, _, _, Vb275, Cb275, Ab275, StrChars.Road.codOf rfl (fun c hc => (hpb261 c hc).2), fun c hc => own_up (hpb261 c hc), Nat.le_of_ble_eq_true rfl⟩
        refine own_byH (fun _ kS => XS.astore X275.here hx rfl (hb hby at_94) rfl rfl (l' := #[.val (.int p0), .val (.int p1), .val (.int p2), .val (.int p3), .val (.int (p0 &&& (7 : Int32))), .val (.int ((p1 &&& (255 : Int32)).toUInt32.toUInt16.toUInt32.toInt32)), .val (.int ((((p1.toUInt32 >>> ((8 : Int32) &&& 31).toUInt32).toInt32) &&& (255 : Int32)).toUInt32.toUInt16.toUInt32.toInt32)), .val (.ref b261), .unset, .unset, .unset, .unset, .unset, .unset, .unset, .unset, .unset]) rfl kS) ?_
        show own_ComesH Z p e below s _ _ _ (T275.setTop (mkF m 96 #[.val (.int p0), .val (.int p1), .val (.int p2), .val (.int p3), .val (.int (p0 &&& (7 : Int32))), .val (.int ((p1 &&& (255 : Int32)).toUInt32.toUInt16.toUInt32.toInt32)), .val (.int ((((p1.toUInt32 >>> ((8 : Int32) &&& 31).toUInt32).toInt32) &&& (255 : Int32)).toUInt32.toUInt16.toUInt32.toInt32)), .val (.ref b261), .unset, .unset, .unset, .unset, .unset, .unset, .unset, .unset, .unset] []))
        refine own_byH (fun _ kS => XS.iload X275.here hx rfl (hb hby at_96) rfl kS) ?_
        show own_ComesH Z p e below s _ _ _ (T275.setTop (mkF m 98 #[.val (.int p0), .val (.int p1), .val (.int p2), .val (.int p3), .val (.int (p0 &&& (7 : Int32))), .val (.int ((p1 &&& (255 : Int32)).toUInt32.toUInt16.toUInt32.toInt32)), .val (.int ((((p1.toUInt32 >>> ((8 : Int32) &&& 31).toUInt32).toInt32) &&& (255 : Int32)).toUInt32.toUInt16.toUInt32.toInt32)), .val (.ref b261), .unset, .unset, .unset, .unset, .unset, .unset, .unset, .unset, .unset] [(.int ((p1 &&& (255 : Int32)).toUInt32.toUInt16.toUInt32.toInt32))]))
        refine own_byH (fun _ kS => XS.bipush X275.here hx rfl (hb hby at_98) kS) ?_
        show own_ComesH Z p e below s _ _ _ (T275.setTop (mkF m 100 #[.val (.int p0), .val (.int p1), .val (.int p2), .val (.int p3), .val (.int (p0 &&& (7 : Int32))), .val (.int ((p1 &&& (255 : Int32)).toUInt32.toUInt16.toUInt32.toInt32)), .val (.int ((((p1.toUInt32 >>> ((8 : Int32) &&& 31).toUInt32).toInt32) &&& (255 : Int32)).toUInt32.toUInt16.toUInt32.toInt32)), .val (.ref b261), .unset, .unset, .unset, .unset, .unset, .unset, .unset, .unset, .unset] [(.int (49 : Int32)), (.int ((p1 &&& (255 : Int32)).toUInt32.toUInt16.toUInt32.toInt32))]))
        by_cases hx1 : ((p1 &&& (255 : Int32)).toUInt32.toUInt16.toUInt32.toInt32) = (49 : Int32)
        · refine own_byH (fun _ kS => XS.icmpNo X275.here hx rfl (hb hby at_100) rfl (teq hx1).2 kS) ?_
          show own_ComesH Z p e below s _ _ _ (T275.setTop (mkF m 103 #[.val (.int p0), .val (.int p1), .val (.int p2), .val (.int p3), .val (.int (p0 &&& (7 : Int32))), .val (.int ((p1 &&& (255 : Int32)).toUInt32.toUInt16.toUInt32.toInt32)), .val (.int ((((p1.toUInt32 >>> ((8 : Int32) &&& 31).toUInt32).toInt32) &&& (255 : Int32)).toUInt32.toUInt16.toUInt32.toInt32)), .val (.ref b261), .unset, .unset, .unset, .unset, .unset, .unset, .unset, .unset, .unset] []))
          refine own_byH (fun _ kS => XS.iload X275.here hx rfl (hb hby at_103) rfl kS) ?_
          show own_ComesH Z p e below s _ _ _ (T275.setTop (mkF m 105 #[.val (.int p0), .val (.int p1), .val (.int p2), .val (.int p3), .val (.int (p0 &&& (7 : Int32))), .val (.int ((p1 &&& (255 : Int32)).toUInt32.toUInt16.toUInt32.toInt32)), .val (.int ((((p1.toUInt32 >>> ((8 : Int32) &&& 31).toUInt32).toInt32) &&& (255 : Int32)).toUInt32.toUInt16.toUInt32.toInt32)), .val (.ref b261), .unset, .unset, .unset, .unset, .unset, .unset, .unset, .unset, .unset] [(.int ((((p1.toUInt32 >>> ((8 : Int32) &&& 31).toUInt32).toInt32) &&& (255 : Int32)).toUInt32.toUInt16.toUInt32.toInt32))]))
          refine own_byH (fun _ kS => XS.bipush X275.here hx rfl (hb hby at_105) kS) ?_
          show own_ComesH Z p e below s _ _ _ (T275.setTop (mkF m 107 #[.val (.int p0), .val (.int p1), .val (.int p2), .val (.int p3), .val (.int (p0 &&& (7 : Int32))), .val (.int ((p1 &&& (255 : Int32)).toUInt32.toUInt16.toUInt32.toInt32)), .val (.int ((((p1.toUInt32 >>> ((8 : Int32) &&& 31).toUInt32).toInt32) &&& (255 : Int32)).toUInt32.toUInt16.toUInt32.toInt32)), .val (.ref b261), .unset, .unset, .unset, .unset, .unset, .unset, .unset, .unset, .unset] [(.int (50 : Int32)), (.int ((((p1.toUInt32 >>> ((8 : Int32) &&& 31).toUInt32).toInt32) &&& (255 : Int32)).toUInt32.toUInt16.toUInt32.toInt32))]))
          by_cases hy2 : ((((p1.toUInt32 >>> ((8 : Int32) &&& 31).toUInt32).toInt32) &&& (255 : Int32)).toUInt32.toUInt16.toUInt32.toInt32) = (50 : Int32)
          · refine own_byH (fun _ kS => XS.icmpNo X275.here hx rfl (hb hby at_107) rfl (teq hy2).2 kS) ?_
            show own_ComesH Z p e below s _ _ _ (T275.setTop (mkF m 110 #[.val (.int p0), .val (.int p1), .val (.int p2), .val (.int p3), .val (.int (p0 &&& (7 : Int32))), .val (.int ((p1 &&& (255 : Int32)).toUInt32.toUInt16.toUInt32.toInt32)), .val (.int ((((p1.toUInt32 >>> ((8 : Int32) &&& 31).toUInt32).toInt32) &&& (255 : Int32)).toUInt32.toUInt16.toUInt32.toInt32)), .val (.ref b261), .unset, .unset, .unset, .unset, .unset, .unset, .unset, .unset, .unset] []))
            refine own_byH (fun _ kS => XS.iconst X275.here hx rfl (hb hby at_110) kS) ?_
            show own_ComesH Z p e below s _ _ _ (T275.setTop (mkF m 111 #[.val (.int p0), .val (.int p1), .val (.int p2), .val (.int p3), .val (.int (p0 &&& (7 : Int32))), .val (.int ((p1 &&& (255 : Int32)).toUInt32.toUInt16.toUInt32.toInt32)), .val (.int ((((p1.toUInt32 >>> ((8 : Int32) &&& 31).toUInt32).toInt32) &&& (255 : Int32)).toUInt32.toUInt16.toUInt32.toInt32)), .val (.ref b261), .unset, .unset, .unset, .unset, .unset, .unset, .unset, .unset, .unset] [(.int (1 : Int32))]))
            refine own_byH (fun _ kS => XS.goto X275.here hx rfl (pc0 := 111) (pc' := 115) rfl (hb hby at_111) (by decide) (by decide) kS) ?_
            show own_ComesH Z p e below s _ _ _ (T275.setTop (mkF m 115 #[.val (.int p0), .val (.int p1), .val (.int p2), .val (.int p3), .val (.int (p0 &&& (7 : Int32))), .val (.int ((p1 &&& (255 : Int32)).toUInt32.toUInt16.toUInt32.toInt32)), .val (.int ((((p1.toUInt32 >>> ((8 : Int32) &&& 31).toUInt32).toInt32) &&& (255 : Int32)).toUInt32.toUInt16.toUInt32.toInt32)), .val (.ref b261), .unset, .unset, .unset, .unset, .unset, .unset, .unset, .unset, .unset] [(.int (1 : Int32))]))
            refine own_byH (fun _ kS => XS.istore X275.here hx rfl (hb hby at_115) rfl (l' := #[.val (.int p0), .val (.int p1), .val (.int p2), .val (.int p3), .val (.int (p0 &&& (7 : Int32))), .val (.int ((p1 &&& (255 : Int32)).toUInt32.toUInt16.toUInt32.toInt32)), .val (.int ((((p1.toUInt32 >>> ((8 : Int32) &&& 31).toUInt32).toInt32) &&& (255 : Int32)).toUInt32.toUInt16.toUInt32.toInt32)), .val (.ref b261), .val (.int (1 : Int32)), .unset, .unset, .unset, .unset, .unset, .unset, .unset, .unset]) rfl kS) ?_
            show own_ComesH Z p e below s _ _ _ (T275.setTop (mkF m 117 #[.val (.int p0), .val (.int p1), .val (.int p2), .val (.int p3), .val (.int (p0 &&& (7 : Int32))), .val (.int ((p1 &&& (255 : Int32)).toUInt32.toUInt16.toUInt32.toInt32)), .val (.int ((((p1.toUInt32 >>> ((8 : Int32) &&& 31).toUInt32).toInt32) &&& (255 : Int32)).toUInt32.toUInt16.toUInt32.toInt32)), .val (.ref b261), .val (.int (1 : Int32)), .unset, .unset, .unset, .unset, .unset, .unset, .unset, .unset] []))
            refine own_byH (fun _ kS => XS.goto X275.here hx rfl (pc0 := 117) (pc' := 299) rfl (hb hby at_117) (by decide) (by decide) kS) ?_
            show own_ComesH Z p e below s _ _ _ (T275.setTop (mkF m 299 #[.val (.int p0), .val (.int p1), .val (.int p2), .val (.int p3), .val (.int (p0 &&& (7 : Int32))), .val (.int ((p1 &&& (255 : Int32)).toUInt32.toUInt16.toUInt32.toInt32)), .val (.int ((((p1.toUInt32 >>> ((8 : Int32) &&& 31).toUInt32).toInt32) &&& (255 : Int32)).toUInt32.toUInt16.toUInt32.toInt32)), .val (.ref b261), .val (.int (1 : Int32)), .unset, .unset, .unset, .unset, .unset, .unset, .unset, .unset] []))
            exact J299 _ _ _ _ _ (.ref b261) (1 : Int32) (X275.more (by decide) (by decide)) rfl hZ hown hS (Nat.le_trans (Nat.le_trans (Nat.le_trans (Nat.le_trans (Nat.le_trans hk E261.1) E263.1) (Keep.of_wr W266).1) (Keep.of_wr W269).1) K275.1) CH276 N275 (c274.keep K275 (allS g_b261 all0)) (Nat.le_trans (Nat.le_trans (Nat.le_trans (Nat.le_trans (Nat.le_trans Z0 E261.1) E263.1) (Keep.of_wr W266).1) (Keep.of_wr W269).1) K275.1) (Or.inr ⟨_, _, rfl, hSb261, Or.inl ⟨own_y2 hx1 hy2, rfl⟩⟩)
          · refine own_byH (fun _ kS => XS.icmpYes X275.here hx rfl (pc0 := 107) (pc' := 114) rfl (hb hby at_107) rfl (feq hy2).2 (by decide) (by decide) kS) ?_
            show own_ComesH Z p e below s _ _ _ (T275.setTop (mkF m 114 #[.val (.int p0), .val (.int p1), .val (.int p2), .val (.int p3), .val (.int (p0 &&& (7 : Int32))), .val (.int ((p1 &&& (255 : Int32)).toUInt32.toUInt16.toUInt32.toInt32)), .val (.int ((((p1.toUInt32 >>> ((8 : Int32) &&& 31).toUInt32).toInt32) &&& (255 : Int32)).toUInt32.toUInt16.toUInt32.toInt32)), .val (.ref b261), .unset, .unset, .unset, .unset, .unset, .unset, .unset, .unset, .unset] []))
            refine own_byH (fun _ kS => XS.iconst X275.here hx rfl (hb hby at_114) kS) ?_
            show own_ComesH Z p e below s _ _ _ (T275.setTop (mkF m 115 #[.val (.int p0), .val (.int p1), .val (.int p2), .val (.int p3), .val (.int (p0 &&& (7 : Int32))), .val (.int ((p1 &&& (255 : Int32)).toUInt32.toUInt16.toUInt32.toInt32)), .val (.int ((((p1.toUInt32 >>> ((8 : Int32) &&& 31).toUInt32).toInt32) &&& (255 : Int32)).toUInt32.toUInt16.toUInt32.toInt32)), .val (.ref b261), .unset, .unset, .unset, .unset, .unset, .unset, .unset, .unset, .unset] [(.int (0 : Int32))]))
            refine own_byH (fun _ kS => XS.istore X275.here hx rfl (hb hby at_115) rfl (l' := #[.val (.int p0), .val (.int p1), .val (.int p2), .val (.int p3), .val (.int (p0 &&& (7 : Int32))), .val (.int ((p1 &&& (255 : Int32)).toUInt32.toUInt16.toUInt32.toInt32)), .val (.int ((((p1.toUInt32 >>> ((8 : Int32) &&& 31).toUInt32).toInt32) &&& (255 : Int32)).toUInt32.toUInt16.toUInt32.toInt32)), .val (.ref b261), .val (.int (0 : Int32)), .unset, .unset, .unset, .unset, .unset, .unset, .unset, .unset]) rfl kS) ?_
            show own_ComesH Z p e below s _ _ _ (T275.setTop (mkF m 117 #[.val (.int p0), .val (.int p1), .val (.int p2), .val (.int p3), .val (.int (p0 &&& (7 : Int32))), .val (.int ((p1 &&& (255 : Int32)).toUInt32.toUInt16.toUInt32.toInt32)), .val (.int ((((p1.toUInt32 >>> ((8 : Int32) &&& 31).toUInt32).toInt32) &&& (255 : Int32)).toUInt32.toUInt16.toUInt32.toInt32)), .val (.ref b261), .val (.int (0 : Int32)), .unset, .unset, .unset, .unset, .unset, .unset, .unset, .unset] []))
            refine own_byH (fun _ kS => XS.goto X275.here hx rfl (pc0 := 117) (pc' := 299) rfl (hb hby at_117) (by decide) (by decide) kS) ?_
            show own_ComesH Z p e below s _ _ _ (T275.setTop (mkF m 299 #[.val (.int p0), .val (.int p1), .val (.int p2), .val (.int p3), .val (.int (p0 &&& (7 : Int32))), .val (.int ((p1 &&& (255 : Int32)).toUInt32.toUInt16.toUInt32.toInt32)), .val (.int ((((p1.toUInt32 >>> ((8 : Int32) &&& 31).toUInt32).toInt32) &&& (255 : Int32)).toUInt32.toUInt16.toUInt32.toInt32)), .val (.ref b261), .val (.int (0 : Int32)), .unset, .unset, .unset, .unset, .unset, .unset, .unset, .unset] []))
            exact J299 _ _ _ _ _ (.ref b261) (0 : Int32) (X275.more (by decide) (by decide)) rfl hZ hown hS (Nat.le_trans (Nat.le_trans (Nat.le_trans (Nat.le_trans (Nat.le_trans hk E261.1) E263.1) (Keep.of_wr W266).1) (Keep.of_wr W269).1) K275.1) CH276 N275 (c274.keep K275 (allS g_b261 all0)) (Nat.le_trans (Nat.le_trans (Nat.le_trans (Nat.le_trans (Nat.le_trans Z0 E261.1) E263.1) (Keep.of_wr W266).1) (Keep.of_wr W269).1) K275.1) (Or.inr ⟨_, _, rfl, hSb261, Or.inr ⟨own_n2b hy2, rfl⟩⟩)
        · refine own_byH (fun _ kS => XS.icmpYes X275.here hx rfl (pc0 := 100) (pc' := 114) rfl (hb hby at_100) rfl (feq hx1).2 (by decide) (by decide) kS) ?_
          show own_ComesH Z p e below s _ _ _ (T275.setTop (mkF m 114 #[.val (.int p0), .val (.int p1), .val (.int p2), .val (.int p3), .val (.int (p0 &&& (7 : Int32))), .val (.int ((p1 &&& (255 : Int32)).toUInt32.toUInt16.toUInt32.toInt32)), .val (.int ((((p1.toUInt32 >>> ((8 : Int32) &&& 31).toUInt32).toInt32) &&& (255 : Int32)).toUInt32.toUInt16.toUInt32.toInt32)), .val (.ref b261), .unset, .unset, .unset, .unset, .unset, .unset, .unset, .unset, .unset] []))
          refine own_byH (fun _ kS => XS.iconst X275.here hx rfl (hb hby at_114) kS) ?_
          show own_ComesH Z p e below s _ _ _ (T275.setTop (mkF m 115 #[.val (.int p0), .val (.int p1), .val (.int p2), .val (.int p3), .val (.int (p0 &&& (7 : Int32))), .val (.int ((p1 &&& (255 : Int32)).toUInt32.toUInt16.toUInt32.toInt32)), .val (.int ((((p1.toUInt32 >>> ((8 : Int32) &&& 31).toUInt32).toInt32) &&& (255 : Int32)).toUInt32.toUInt16.toUInt32.toInt32)), .val (.ref b261), .unset, .unset, .unset, .unset, .unset, .unset, .unset, .unset, .unset] [(.int (0 : Int32))]))
          refine own_byH (fun _ kS => XS.istore X275.here hx rfl (hb hby at_115) rfl (l' := #[.val (.int p0), .val (.int p1), .val (.int p2), .val (.int p3), .val (.int (p0 &&& (7 : Int32))), .val (.int ((p1 &&& (255 : Int32)).toUInt32.toUInt16.toUInt32.toInt32)), .val (.int ((((p1.toUInt32 >>> ((8 : Int32) &&& 31).toUInt32).toInt32) &&& (255 : Int32)).toUInt32.toUInt16.toUInt32.toInt32)), .val (.ref b261), .val (.int (0 : Int32)), .unset, .unset, .unset, .unset, .unset, .unset, .unset, .unset]) rfl kS) ?_
          show own_ComesH Z p e below s _ _ _ (T275.setTop (mkF m 117 #[.val (.int p0), .val (.int p1), .val (.int p2), .val (.int p3), .val (.int (p0 &&& (7 : Int32))), .val (.int ((p1 &&& (255 : Int32)).toUInt32.toUInt16.toUInt32.toInt32)), .val (.int ((((p1.toUInt32 >>> ((8 : Int32) &&& 31).toUInt32).toInt32) &&& (255 : Int32)).toUInt32.toUInt16.toUInt32.toInt32)), .val (.ref b261), .val (.int (0 : Int32)), .unset, .unset, .unset, .unset, .unset, .unset, .unset, .unset] []))
          refine own_byH (fun _ kS => XS.goto X275.here hx rfl (pc0 := 117) (pc' := 299) rfl (hb hby at_117) (by decide) (by decide) kS) ?_
          show own_ComesH Z p e below s _ _ _ (T275.setTop (mkF m 299 #[.val (.int p0), .val (.int p1), .val (.int p2), .val (.int p3), .val (.int (p0 &&& (7 : Int32))), .val (.int ((p1 &&& (255 : Int32)).toUInt32.toUInt16.toUInt32.toInt32)), .val (.int ((((p1.toUInt32 >>> ((8 : Int32) &&& 31).toUInt32).toInt32) &&& (255 : Int32)).toUInt32.toUInt16.toUInt32.toInt32)), .val (.ref b261), .val (.int (0 : Int32)), .unset, .unset, .unset, .unset, .unset, .unset, .unset, .unset] []))
          exact J299 _ _ _ _ _ (.ref b261) (0 : Int32) (X275.more (by decide) (by decide)) rfl hZ hown hS (Nat.le_trans (Nat.le_trans (Nat.le_trans (Nat.le_trans (Nat.le_trans hk E261.1) E263.1) (Keep.of_wr W266).1) (Keep.of_wr W269).1) K275.1) CH276 N275 (c274.keep K275 (allS g_b261 all0)) (Nat.le_trans (Nat.le_trans (Nat.le_trans (Nat.le_trans (Nat.le_trans Z0 E261.1) E263.1) (Keep.of_wr W266).1) (Keep.of_wr W269).1) K275.1) (Or.inr ⟨_, _, rfl, hSb261, Or.inr ⟨own_n2a hx1, rfl⟩⟩)
      · refine own_byH (fun _ kS => XS.icmpYes X0.here hx rfl (pc0 := 71) (pc' := 120) rfl (hb hby at_71) rfl (feq hm2).2 (by decide) (by decide) kS) ?_
        show own_ComesH Z p e below s _ _ _ (s₁.setTop (mkF m 120 #[.val (.int p0), .val (.int p1), .val (.int p2), .val (.int p3), .val (.int (p0 &&& (7 : Int32))), .val (.int ((p1 &&& (255 : Int32)).toUInt32.toUInt16.toUInt32.toInt32)), .val (.int ((((p1.toUInt32 >>> ((8 : Int32) &&& 31).toUInt32).toInt32) &&& (255 : Int32)).toUInt32.toUInt16.toUInt32.toInt32)), .unset, .unset, .unset, .unset, .unset, .unset, .unset, .unset, .unset, .unset] []))
        refine own_byH (fun _ kS => XS.iload X0.here hx rfl (hb hby at_120) rfl kS) ?_
        show own_ComesH Z p e below s _ _ _ (s₁.setTop (mkF m 122 #[.val (.int p0), .val (.int p1), .val (.int p2), .val (.int p3), .val (.int (p0 &&& (7 : Int32))), .val (.int ((p1 &&& (255 : Int32)).toUInt32.toUInt16.toUInt32.toInt32)), .val (.int ((((p1.toUInt32 >>> ((8 : Int32) &&& 31).toUInt32).toInt32) &&& (255 : Int32)).toUInt32.toUInt16.toUInt32.toInt32)), .unset, .unset, .unset, .unset, .unset, .unset, .unset, .unset, .unset, .unset] [(.int (p0 &&& (7 : Int32)))]))
        refine own_byH (fun _ kS => XS.iconst X0.here hx rfl (hb hby at_122) kS) ?_
        show own_ComesH Z p e below s _ _ _ (s₁.setTop (mkF m 123 #[.val (.int p0), .val (.int p1), .val (.int p2), .val (.int p3), .val (.int (p0 &&& (7 : Int32))), .val (.int ((p1 &&& (255 : Int32)).toUInt32.toUInt16.toUInt32.toInt32)), .val (.int ((((p1.toUInt32 >>> ((8 : Int32) &&& 31).toUInt32).toInt32) &&& (255 : Int32)).toUInt32.toUInt16.toUInt32.toInt32)), .unset, .unset, .unset, .unset, .unset, .unset, .unset, .unset, .unset, .unset] [(.int (3 : Int32)), (.int (p0 &&& (7 : Int32)))]))
        by_cases hm3 : (p0 &&& (7 : Int32)) = (3 : Int32)
        · refine own_byH (fun _ kS => XS.icmpNo X0.here hx rfl (hb hby at_123) rfl (teq hm3).2 kS) ?_
          show own_ComesH Z p e below s _ _ _ (s₁.setTop (mkF m 126 #[.val (.int p0), .val (.int p1), .val (.int p2), .val (.int p3), .val (.int (p0 &&& (7 : Int32))), .val (.int ((p1 &&& (255 : Int32)).toUInt32.toUInt16.toUInt32.toInt32)), .val (.int ((((p1.toUInt32 >>> ((8 : Int32) &&& 31).toUInt32).toInt32) &&& (255 : Int32)).toUInt32.toUInt16.toUInt32.toInt32)), .unset, .unset, .unset, .unset, .unset, .unset, .unset, .unset, .unset, .unset] []))
          obtain ⟨T278, h278, X278, e278, E278, A278, D278, -, st278⟩ := newO X0 hx hZ hown (hw _ (List.mem_of_getElem? (i := 0) rfl)) (hw _ (List.mem_of_getElem? (i := 1) rfl)) (hw _ (List.mem_of_getElem? (i := 2) rfl)) e0 (g := (mkF m 126 #[.val (.int p0), .val (.int p1), .val (.int p2), .val (.int p3), .val (.int (p0 &&& (7 : Int32))), .val (.int ((p1 &&& (255 : Int32)).toUInt32.toUInt16.toUInt32.toInt32)), .val (.int ((((p1.toUInt32 >>> ((8 : Int32) &&& 31).toUInt32).toInt32) &&& (255 : Int32)).toUInt32.toUInt16.toUInt32.toInt32)), .unset, .unset, .unset, .unset, .unset, .unset, .unset, .unset, .unset, .unset] [])) rfl (hb hby at_126) (by decide) (by decide)
          obtain ⟨b278, g278⟩ : ∃ z, z = h0.size := ⟨_, rfl⟩
          rw [← g278] at A278 D278 st278
          have g_b278 : n0 ≤ b278 := Nat.le_trans Z0 (Nat.le_of_eq g278.symm)
          refine own_byH st278 ?_
          have CR279 := CHr.ext E278 CH.1
          have CH279 := CH.trans CR279
          have sb278 := Safe.ext E278 CH.1 (Safe.new (Nat.le_of_eq g278.symm))
          show own_ComesH Z p e below s _ _ _ (T278.setTop (mkF m 129 #[.val (.int p0), .val (.int p1), .val (.int p2), .val (.int p3), .val (.int (p0 &&& (7 : Int32))), .val (.int ((p1 &&& (255 : Int32)).toUInt32.toUInt16.toUInt32.toInt32)), .val (.int ((((p1.toUInt32 >>> ((8 : Int32) &&& 31).toUInt32).toInt32) &&& (255 : Int32)).toUInt32.toUInt16.toUInt32.toInt32)), .unset, .unset, .unset, .unset, .unset, .unset, .unset, .unset, .unset, .unset] [(.ref b278)]))
          refine own_byH (fun _ kS => XS.dup X278.here hx rfl (hb hby at_129) rfl rfl kS) ?_
          show own_ComesH Z p e below s _ _ _ (T278.setTop (mkF m 130 #[.val (.int p0), .val (.int p1), .val (.int p2), .val (.int p3), .val (.int (p0 &&& (7 : Int32))), .val (.int ((p1 &&& (255 : Int32)).toUInt32.toUInt16.toUInt32.toInt32)), .val (.int ((((p1.toUInt32 >>> ((8 : Int32) &&& 31).toUInt32).toInt32) &&& (255 : Int32)).toUInt32.toUInt16.toUInt32.toInt32)), .unset, .unset, .unset, .unset, .unset, .unset, .unset, .unset, .unset, .unset] [(.ref b278), (.ref b278)]))
          refine own_byH (fun _ kS => XS.iconst X278.here hx rfl (hb hby at_130) kS) ?_
          show own_ComesH Z p e below s _ _ _ (T278.setTop (mkF m 131 #[.val (.int p0), .val (.int p1), .val (.int p2), .val (.int p3), .val (.int (p0 &&& (7 : Int32))), .val (.int ((p1 &&& (255 : Int32)).toUInt32.toUInt16.toUInt32.toInt32)), .val (.int ((((p1.toUInt32 >>> ((8 : Int32) &&& 31).toUInt32).toInt32) &&& (255 : Int32)).toUInt32.toUInt16.toUInt32.toInt32)), .unset, .unset, .unset, .unset, .unset, .unset, .unset, .unset, .unset, .unset] [(.int (2 : Int32)), (.ref b278), (.ref b278)]))
          obtain ⟨T280, h280, k280, X280, e280, E280, A280, st280⟩ := newP X278 hx hZ (hw _ (List.mem_of_getElem? (i := 3) rfl)) e278 (g := (mkF m 131 #[.val (.int p0), .val (.int p1), .val (.int p2), .val (.int p3), .val (.int (p0 &&& (7 : Int32))), .val (.int ((p1 &&& (255 : Int32)).toUInt32.toUInt16.toUInt32.toInt32)), .val (.int ((((p1.toUInt32 >>> ((8 : Int32) &&& 31).toUInt32).toInt32) &&& (255 : Int32)).toUInt32.toUInt16.toUInt32.toInt32)), .unset, .unset, .unset, .unset, .unset, .unset, .unset, .unset, .unset, .unset] [(.int (2 : Int32)), (.ref b278), (.ref b278)])) rfl (hb hby at_131) rfl (by decide) (cap := 2) (by decide) (by decide) (by decide) (by decide)
          obtain ⟨b280, g280⟩ : ∃ z, z = h278.size := ⟨_, rfl⟩
          rw [← g280] at A280 st280
          have g_b280 : n0 ≤ b280 := Nat.le_trans (Nat.le_trans Z0 E278.1) (Nat.le_of_eq g280.symm)
          refine own_byH st280 ?_
          have CR281 := CHr.ext E280 CH279.1
          have CH281 := CH279.trans CR281
          have sb280 := Safe.ext E280 CH279.1 (Safe.new (Nat.le_of_eq g280.symm))
          have V_b280 : Arv Z h280 b280 k280 .char (2 : Int32) [(.int (0 : Int32)), (.int (0 : Int32))] (.int (0 : Int32)) := (Arv.new A280 (by decide)).pad (pad_rep [] (.int (0 : Int32)) 2)
          show own_ComesH Z p e below s _ _ _ (T280.setTop (mkF m 133 #[.val (.int p0), .val (.int p1), .val (.int p2), .val (.int p3), .val (.int (p0 &&& (7 : Int32))), .val (.int ((p1 &&& (255 : Int32)).toUInt32.toUInt16.toUInt32.toInt32)), .val (.int ((((p1.toUInt32 >>> ((8 : Int32) &&& 31).toUInt32).toInt32) &&& (255 : Int32)).toUInt32.toUInt16.toUInt32.toInt32)), .unset, .unset, .unset, .unset, .unset, .unset, .unset, .unset, .unset, .unset] [(.ref b280), (.ref b278), (.ref b278)]))
          have sz_b280 : h0.size ≤ b280 := Nat.le_trans ((Keep.refl _ []).ext E278).1 (Nat.le_of_eq g280.symm)
          have nA280 : b278 ≠ b280 := Nat.ne_of_lt (Nat.lt_of_lt_of_le A278.lt (Nat.le_of_eq g280.symm))
          have sz_b278 : h0.size ≤ b278 := Nat.le_of_eq g278.symm
          refine own_byH (fun _ kS => XS.dup X280.here hx rfl (hb hby at_133) rfl rfl kS) ?_
          show own_ComesH Z p e below s _ _ _ (T280.setTop (mkF m 134 #[.val (.int p0), .val (.int p1), .val (.int p2), .val (.int p3), .val (.int (p0 &&& (7 : Int32))), .val (.int ((p1 &&& (255 : Int32)).toUInt32.toUInt16.toUInt32.toInt32)), .val (.int ((((p1.toUInt32 >>> ((8 : Int32) &&& 31).toUInt32).toInt32) &&& (255 : Int32)).toUInt32.toUInt16.toUInt32.toInt32)), .unset, .unset, .unset, .unset, .unset, .unset, .unset, .unset, .unset, .unset] [(.ref b280), (.ref b280), (.ref b278), (.ref b278)]))
          refine own_byH (fun _ kS => XS.iconst X280.here hx rfl (hb hby at_134) kS) ?_
          show own_ComesH Z p e below s _ _ _ (T280.setTop (mkF m 135 #[.val (.int p0), .val (.int p1), .val (.int p2), .val (.int p3), .val (.int (p0 &&& (7 : Int32))), .val (.int ((p1 &&& (255 : Int32)).toUInt32.toUInt16.toUInt32.toInt32)), .val (.int ((((p1.toUInt32 >>> ((8 : Int32) &&& 31).toUInt32).toInt32) &&& (255 : Int32)).toUInt32.toUInt16.toUInt32.toInt32)), .unset, .unset, .unset, .unset, .unset, .unset, .unset, .unset, .unset, .unset] [(.int (0 : Int32)), (.ref b280), (.ref b280), (.ref b278), (.ref b278)]))
          refine own_byH (fun _ kS => XS.bipush X280.here hx rfl (hb hby at_135) kS) ?_
          show own_ComesH Z p e below s _ _ _ (T280.setTop (mkF m 137 #[.val (.int p0), .val (.int p1), .val (.int p2), .val (.int p3), .val (.int (p0 &&& (7 : Int32))), .val (.int ((p1 &&& (255 : Int32)).toUInt32.toUInt16.toUInt32.toInt32)), .val (.int ((((p1.toUInt32 >>> ((8 : Int32) &&& 31).toUInt32).toInt32) &&& (255 : Int32)).toUInt32.toUInt16.toUInt32.toInt32)), .unset, .unset, .unset, .unset, .unset, .unset, .unset, .unset, .unset, .unset] [(.int (49 : Int32)), (.int (0 : Int32)), (.ref b280), (.ref b280), (.ref b278), (.ref b278)]))
          have Vo282 := V_b280
          obtain ⟨cl282, Ar282, qA282, SA282, NA282, HA282, GA282⟩ := Vo282
          have hin282 : ¬ ((0 : Int32) < 0 ∨ cl282.slots.size ≤ ((0 : Int32)).toNatClampNeg) := inb_of SA282 ⟨by decide, by decide⟩
          obtain ⟨T283, h283, X283, e283, W283, st283⟩ := stC X280 hx hZ e280 Ar282 (j := (0 : Int32)) hin282 (g := (mkF m 137 #[.val (.int p0), .val (.int p1), .val (.int p2), .val (.int p3), .val (.int (p0 &&& (7 : Int32))), .val (.int ((p1 &&& (255 : Int32)).toUInt32.toUInt16.toUInt32.toInt32)), .val (.int ((((p1.toUInt32 >>> ((8 : Int32) &&& 31).toUInt32).toInt32) &&& (255 : Int32)).toUInt32.toUInt16.toUInt32.toInt32)), .unset, .unset, .unset, .unset, .unset, .unset, .unset, .unset, .unset, .unset] [(.int (49 : Int32)), (.int (0 : Int32)), (.ref b280), (.ref b280), (.ref b278), (.ref b278)])) rfl rfl (hb hby at_137)
          refine own_byH st283 ?_
          have V283 : Arv Z h283 b280 k280 .char (2 : Int32) [(.int (nar .char (49 : Int32))), (.int (0 : Int32))] (.int (0 : Int32)) := Arv.set Ar282 qA282 SA282 NA282 HA282 GA282 (by first | rfl | exact fits_nar_char _) W283 0 rfl (Nat.le_of_ble_eq_true rfl)
          have CR284 := CHr.wr W283 sb280 CH281.1
          have CH284 := CH281.trans CR284
          have N283 := Fr.snoc X283 N0 g_b280
          show own_ComesH Z p e below s _ _ _ (T283.setTop (mkF m 138 #[.val (.int p0), .val (.int p1), .val (.int p2), .val (.int p3), .val (.int (p0 &&& (7 : Int32))), .val (.int ((p1 &&& (255 : Int32)).toUInt32.toUInt16.toUInt32.toInt32)), .val (.int ((((p1.toUInt32 >>> ((8 : Int32) &&& 31).toUInt32).toInt32) &&& (255 : Int32)).toUInt32.toUInt16.toUInt32.toInt32)), .unset, .unset, .unset, .unset, .unset, .unset, .unset, .unset, .unset, .unset] [(.ref b280), (.ref b278), (.ref b278)]))
          refine own_byH (fun _ kS => XS.dup X283.here hx rfl (hb hby at_138) rfl rfl kS) ?_
          show own_ComesH Z p e below s _ _ _ (T283.setTop (mkF m 139 #[.val (.int p0), .val (.int p1), .val (.int p2), .val (.int p3), .val (.int (p0 &&& (7 : Int32))), .val (.int ((p1 &&& (255 : Int32)).toUInt32.toUInt16.toUInt32.toInt32)), .val (.int ((((p1.toUInt32 >>> ((8 : Int32) &&& 31).toUInt32).toInt32) &&& (255 : Int32)).toUInt32.toUInt16.toUInt32.toInt32)), .unset, .unset, .unset, .unset, .unset, .unset, .unset, .unset, .unset, .unset] [(.ref b280), (.ref b280), (.ref b278), (.ref b278)]))
          refine own_byH (fun _ kS => XS.iconst X283.here hx rfl (hb hby at_139) kS) ?_
          show own_ComesH Z p e below s _ _ _ (T283.setTop (mkF m 140 #[.val (.int p0), .val (.int p1), .val (.int p2), .val (.int p3), .val (.int (p0 &&& (7 : Int32))), .val (.int ((p1 &&& (255 : Int32)).toUInt32.toUInt16.toUInt32.toInt32)), .val (.int ((((p1.toUInt32 >>> ((8 : Int32) &&& 31).toUInt32).toInt32) &&& (255 : Int32)).toUInt32.toUInt16.toUInt32.toInt32)), .unset, .unset, .unset, .unset, .unset, .unset, .unset, .unset, .unset, .unset] [(.int (1 : Int32)), (.ref b280), (.ref b280), (.ref b278), (.ref b278)]))
          refine own_byH (fun _ kS => XS.bipush X283.here hx rfl (hb hby at_140) kS) ?_
          show own_ComesH Z p e below s _ _ _ (T283.setTop (mkF m 142 #[.val (.int p0), .val (.int p1), .val (.int p2), .val (.int p3), .val (.int (p0 &&& (7 : Int32))), .val (.int ((p1 &&& (255 : Int32)).toUInt32.toUInt16.toUInt32.toInt32)), .val (.int ((((p1.toUInt32 >>> ((8 : Int32) &&& 31).toUInt32).toInt32) &&& (255 : Int32)).toUInt32.toUInt16.toUInt32.toInt32)), .unset, .unset, .unset, .unset, .unset, .unset, .unset, .unset, .unset, .unset] [(.int (50 : Int32)), (.int (1 : Int32)), (.ref b280), (.ref b280), (.ref b278), (.ref b278)]))
          have Vo285 := V283
          obtain ⟨cl285, Ar285, qA285, SA285, NA285, HA285, GA285⟩ := Vo285
          have hin285 : ¬ ((1 : Int32) < 0 ∨ cl285.slots.size ≤ ((1 : Int32)).toNatClampNeg) := inb_of SA285 ⟨by decide, by decide⟩
          obtain ⟨T286, h286, X286, e286, W286, st286⟩ := stC X283 hx hZ e283 Ar285 (j := (1 : Int32)) hin285 (g := (mkF m 142 #[.val (.int p0), .val (.int p1), .val (.int p2), .val (.int p3), .val (.int (p0 &&& (7 : Int32))), .val (.int ((p1 &&& (255 : Int32)).toUInt32.toUInt16.toUInt32.toInt32)), .val (.int ((((p1.toUInt32 >>> ((8 : Int32) &&& 31).toUInt32).toInt32) &&& (255 : Int32)).toUInt32.toUInt16.toUInt32.toInt32)), .unset, .unset, .unset, .unset, .unset, .unset, .unset, .unset, .unset, .unset] [(.int (50 : Int32)), (.int (1 : Int32)), (.ref b280), (.ref b280), (.ref b278), (.ref b278)])) rfl rfl (hb hby at_142)
          refine own_byH st286 ?_
          have V286 : Arv Z h286 b280 k280 .char (2 : Int32) [(.int (nar .char (49 : Int32))), (.int (nar .char (50 : Int32)))] (.int (0 : Int32)) := Arv.set Ar285 qA285 SA285 NA285 HA285 GA285 (by first | rfl | exact fits_nar_char _) W286 1 rfl (Nat.le_of_ble_eq_true rfl)
          have sf288 := CR284.safe A280.lt sb280
          have CR287 := CHr.wr W286 sf288 CH284.1
          have CH287 := CH284.trans CR287
          have N286 := Fr.snoc X286 N283 g_b280
          show own_ComesH Z p e below s _ _ _ (T286.setTop (mkF m 143 #[.val (.int p0), .val (.int p1), .val (.int p2), .val (.int p3), .val (.int (p0 &&& (7 : Int32))), .val (.int ((p1 &&& (255 : Int32)).toUInt32.toUInt16.toUInt32.toInt32)), .val (.int ((((p1.toUInt32 >>> ((8 : Int32) &&& 31).toUInt32).toInt32) &&& (255 : Int32)).toUInt32.toUInt16.toUInt32.toInt32)), .unset, .unset, .unset, .unset, .unset, .unset, .unset, .unset, .unset, .unset] [(.ref b280), (.ref b278), (.ref b278)]))
          have Vc := V286
          simp only [own_narc own_49, own_narc own_50] at Vc
          have hpb278 : ∀ c ∈ [(49 : Int32), (50 : Int32)], ¬ c < 0 ∧ ¬ (255 : Int32) < c := fun c hc => by
            simp only [List.mem_cons, List.not_mem_nil, or_false] at hc
            rcases hc with rfl | rfl
            · exact own_49
            · exact own_50
          have c289 := ((((D278 (Or.inr (hw _ (List.mem_of_getElem? (i := 29) rfl))) (ty := (.array .byte)) (by decide)).ext E280).other W283 (Or.inl nA280)).other W286 (Or.inl nA280))
          have c290 := ((((D278 (Or.inr (hw _ (List.mem_of_getElem? (i := 27) rfl))) (ty := .byte) (by decide)).ext E280).other W283 (Or.inl nA280)).other W286 (Or.inl nA280))
          have c291 := ((((O0.ext E278).ext E280).wr W283 g_b280).wr W286 g_b280)
          obtain ⟨vv292, _, ⟨T292, L292, k292, n292⟩, -, X292, ⟨Lc292, hQ292, l292, y292, z292⟩, st292⟩ := X286.specialBack hx (y := (⟨"java/lang/String", "<init>", "([C)V"⟩ : MethodName)) rfl hown (mvT hZ (hw _ (List.mem_of_getElem? (i := 4) rfl))) (mvT hZ (hw _ (List.mem_of_getElem? (i := 5) rfl))) (mvT hZ (hw _ (List.mem_of_getElem? (i := 6) rfl))) (by decide) (StrChars.Road.backV (W := 1) hZ hws (kI := 4) (hw _ (List.mem_of_getElem? (i := 1) rfl)) (cs := [(49 : Int32), (50 : Int32)]) (bs := [(49 : Int32), (50 : Int32)].map (fun c => c.toInt8.toInt32)) (n := 2) (n0 := n0) g_b278 (Nat.le_trans (Nat.le_trans (Nat.le_trans (Nat.le_trans Z0 E278.1) E280.1) (Keep.of_wr W283).1) (Keep.of_wr W286).1) (((A278.ext E280).wr W283).wr W286) c289 c290 Vc (Sz.ext c291.2) hzc rfl rfl (by decide) (by decide) hpb278 rfl (by decide) (by decide)) (g := (mkF m 143 #[.val (.int p0), .val (.int p1), .val (.int p2), .val (.int p3), .val (.int (p0 &&& (7 : Int32))), .val (.int ((p1 &&& (255 : Int32)).toUInt32.toUInt16.toUInt32.toInt32)), .val (.int ((((p1.toUInt32 >>> ((8 : Int32) &&& 31).toUInt32).toInt32) &&& (255 : Int32)).toUInt32.toUInt16.toUInt32.toInt32)), .unset, .unset, .unset, .unset, .unset, .unset, .unset, .unset, .unset, .unset] [(.ref b280), (.ref b278), (.ref b278)])) rfl (by rw [hml]; rfl) (Steps.refl _) (a := b278) (argsL := [(.ref b280)]) (rest := [(.ref b278)]) (lenOf pd___C_V_325 rfl) rfl (by show 2 * 0 + _ ≤ _; exact Nat.le_of_eq rfl) (hb hby at_143) (fun _ _ => ⟨rfl, e286, (by decide : 2 + 1 ≤ _), (by decide : 6 + 2 ≤ _)⟩)
          dsimp only [Pt.U, Pt.locs, Pt.cells, Pt.slots] at X292 l292 y292 z292 st292 hQ292
          subst l292 y292 z292
          obtain ⟨rfl, N292q, K292, Eb292, Cb292, t292, kb292, _, _, _, Vb292, Ab292⟩ := hQ292
          have N292 := Fr.app N286 N292q
          refine own_trH st292 ?_
          have sf294 := (CR281.trans (CR284.trans CR287)).safe A278.lt sb278
          have CR293 := CHr.keep K292 (sfS sf294 sf0) CH287.1
          have CH293 := CH287.trans CR293
          show own_ComesH Z p e below s _ _ _ (T292.setTop (mkF m 146 #[.val (.int p0), .val (.int p1), .val (.int p2), .val (.int p3), .val (.int (p0 &&& (7 : Int32))), .val (.int ((p1 &&& (255 : Int32)).toUInt32.toUInt16.toUInt32.toInt32)), .val (.int ((((p1.toUInt32 >>> ((8 : Int32) &&& 31).toUInt32).toInt32) &&& (255 : Int32)).toUInt32.toUInt16.toUInt32.toInt32)), .unset, .unset, .unset, .unset, .unset, .unset, .unset, .unset, .unset, .unset] [(.ref b278)]))
          have hSb278 : own_Str Z T292.heap b278 [(49 : Int32), (50 : Int32)] := ⟨Eb292, t292, kb292, _, _, Vb292, Cb292, Ab292, StrChars.Road.codOf rfl (fun c hc => (hpb278 c hc).2), fun c hc => own_up (hpb278 c hc), Nat.le_of_ble_eq_true rfl⟩
          refine own_byH (fun _ kS => XS.astore X292.here hx rfl (hb hby at_146) rfl rfl (l' := #[.val (.int p0), .val (.int p1), .val (.int p2), .val (.int p3), .val (.int (p0 &&& (7 : Int32))), .val (.int ((p1 &&& (255 : Int32)).toUInt32.toUInt16.toUInt32.toInt32)), .val (.int ((((p1.toUInt32 >>> ((8 : Int32) &&& 31).toUInt32).toInt32) &&& (255 : Int32)).toUInt32.toUInt16.toUInt32.toInt32)), .val (.ref b278), .unset, .unset, .unset, .unset, .unset, .unset, .unset, .unset, .unset]) rfl kS) ?_
          show own_ComesH Z p e below s _ _ _ (T292.setTop (mkF m 148 #[.val (.int p0), .val (.int p1), .val (.int p2), .val (.int p3), .val (.int (p0 &&& (7 : Int32))), .val (.int ((p1 &&& (255 : Int32)).toUInt32.toUInt16.toUInt32.toInt32)), .val (.int ((((p1.toUInt32 >>> ((8 : Int32) &&& 31).toUInt32).toInt32) &&& (255 : Int32)).toUInt32.toUInt16.toUInt32.toInt32)), .val (.ref b278), .unset, .unset, .unset, .unset, .unset, .unset, .unset, .unset, .unset] []))
          refine own_byH (fun _ kS => XS.iconst X292.here hx rfl (hb hby at_148) kS) ?_
          show own_ComesH Z p e below s _ _ _ (T292.setTop (mkF m 149 #[.val (.int p0), .val (.int p1), .val (.int p2), .val (.int p3), .val (.int (p0 &&& (7 : Int32))), .val (.int ((p1 &&& (255 : Int32)).toUInt32.toUInt16.toUInt32.toInt32)), .val (.int ((((p1.toUInt32 >>> ((8 : Int32) &&& 31).toUInt32).toInt32) &&& (255 : Int32)).toUInt32.toUInt16.toUInt32.toInt32)), .val (.ref b278), .unset, .unset, .unset, .unset, .unset, .unset, .unset, .unset, .unset] [(.int (1 : Int32))]))
          refine own_byH (fun _ kS => XS.istore X292.here hx rfl (hb hby at_149) rfl (l' := #[.val (.int p0), .val (.int p1), .val (.int p2), .val (.int p3), .val (.int (p0 &&& (7 : Int32))), .val (.int ((p1 &&& (255 : Int32)).toUInt32.toUInt16.toUInt32.toInt32)), .val (.int ((((p1.toUInt32 >>> ((8 : Int32) &&& 31).toUInt32).toInt32) &&& (255 : Int32)).toUInt32.toUInt16.toUInt32.toInt32)), .val (.ref b278), .val (.int (1 : Int32)), .unset, .unset, .unset, .unset, .unset, .unset, .unset, .unset]) rfl kS) ?_
          show own_ComesH Z p e below s _ _ _ (T292.setTop (mkF m 151 #[.val (.int p0), .val (.int p1), .val (.int p2), .val (.int p3), .val (.int (p0 &&& (7 : Int32))), .val (.int ((p1 &&& (255 : Int32)).toUInt32.toUInt16.toUInt32.toInt32)), .val (.int ((((p1.toUInt32 >>> ((8 : Int32) &&& 31).toUInt32).toInt32) &&& (255 : Int32)).toUInt32.toUInt16.toUInt32.toInt32)), .val (.ref b278), .val (.int (1 : Int32)), .unset, .unset, .unset, .unset, .unset, .unset, .unset, .unset] []))
          refine own_byH (fun _ kS => XS.goto X292.here hx rfl (pc0 := 151) (pc' := 299) rfl (hb hby at_151) (by decide) (by decide) kS) ?_
          show own_ComesH Z p e below s _ _ _ (T292.setTop (mkF m 299 #[.val (.int p0), .val (.int p1), .val (.int p2), .val (.int p3), .val (.int (p0 &&& (7 : Int32))), .val (.int ((p1 &&& (255 : Int32)).toUInt32.toUInt16.toUInt32.toInt32)), .val (.int ((((p1.toUInt32 >>> ((8 : Int32) &&& 31).toUInt32).toInt32) &&& (255 : Int32)).toUInt32.toUInt16.toUInt32.toInt32)), .val (.ref b278), .val (.int (1 : Int32)), .unset, .unset, .unset, .unset, .unset, .unset, .unset, .unset] []))
          exact J299 _ _ _ _ _ (.ref b278) (1 : Int32) (X292.more (by decide) (by decide)) rfl hZ hown hS (Nat.le_trans (Nat.le_trans (Nat.le_trans (Nat.le_trans (Nat.le_trans hk E278.1) E280.1) (Keep.of_wr W283).1) (Keep.of_wr W286).1) K292.1) CH293 N292 (c291.keep K292 (allS g_b278 all0)) (Nat.le_trans (Nat.le_trans (Nat.le_trans (Nat.le_trans (Nat.le_trans Z0 E278.1) E280.1) (Keep.of_wr W283).1) (Keep.of_wr W286).1) K292.1) (Or.inr ⟨_, _, rfl, hSb278, Or.inl ⟨rfl, rfl⟩⟩)
        · refine own_byH (fun _ kS => XS.icmpYes X0.here hx rfl (pc0 := 123) (pc' := 154) rfl (hb hby at_123) rfl (feq hm3).2 (by decide) (by decide) kS) ?_
          show own_ComesH Z p e below s _ _ _ (s₁.setTop (mkF m 154 #[.val (.int p0), .val (.int p1), .val (.int p2), .val (.int p3), .val (.int (p0 &&& (7 : Int32))), .val (.int ((p1 &&& (255 : Int32)).toUInt32.toUInt16.toUInt32.toInt32)), .val (.int ((((p1.toUInt32 >>> ((8 : Int32) &&& 31).toUInt32).toInt32) &&& (255 : Int32)).toUInt32.toUInt16.toUInt32.toInt32)), .unset, .unset, .unset, .unset, .unset, .unset, .unset, .unset, .unset, .unset] []))
          refine own_byH (fun _ kS => XS.iload X0.here hx rfl (hb hby at_154) rfl kS) ?_
          show own_ComesH Z p e below s _ _ _ (s₁.setTop (mkF m 156 #[.val (.int p0), .val (.int p1), .val (.int p2), .val (.int p3), .val (.int (p0 &&& (7 : Int32))), .val (.int ((p1 &&& (255 : Int32)).toUInt32.toUInt16.toUInt32.toInt32)), .val (.int ((((p1.toUInt32 >>> ((8 : Int32) &&& 31).toUInt32).toInt32) &&& (255 : Int32)).toUInt32.toUInt16.toUInt32.toInt32)), .unset, .unset, .unset, .unset, .unset, .unset, .unset, .unset, .unset, .unset] [(.int (p0 &&& (7 : Int32)))]))
          refine own_byH (fun _ kS => XS.iconst X0.here hx rfl (hb hby at_156) kS) ?_
          show own_ComesH Z p e below s _ _ _ (s₁.setTop (mkF m 157 #[.val (.int p0), .val (.int p1), .val (.int p2), .val (.int p3), .val (.int (p0 &&& (7 : Int32))), .val (.int ((p1 &&& (255 : Int32)).toUInt32.toUInt16.toUInt32.toInt32)), .val (.int ((((p1.toUInt32 >>> ((8 : Int32) &&& 31).toUInt32).toInt32) &&& (255 : Int32)).toUInt32.toUInt16.toUInt32.toInt32)), .unset, .unset, .unset, .unset, .unset, .unset, .unset, .unset, .unset, .unset] [(.int (4 : Int32)), (.int (p0 &&& (7 : Int32)))]))
          by_cases hm4 : (p0 &&& (7 : Int32)) = (4 : Int32)
          · refine own_byH (fun _ kS => XS.icmpNo X0.here hx rfl (hb hby at_157) rfl (teq hm4).2 kS) ?_
            show own_ComesH Z p e below s _ _ _ (s₁.setTop (mkF m 160 #[.val (.int p0), .val (.int p1), .val (.int p2), .val (.int p3), .val (.int (p0 &&& (7 : Int32))), .val (.int ((p1 &&& (255 : Int32)).toUInt32.toUInt16.toUInt32.toInt32)), .val (.int ((((p1.toUInt32 >>> ((8 : Int32) &&& 31).toUInt32).toInt32) &&& (255 : Int32)).toUInt32.toUInt16.toUInt32.toInt32)), .unset, .unset, .unset, .unset, .unset, .unset, .unset, .unset, .unset, .unset] []))
            obtain ⟨T295, h295, X295, e295, E295, A295, D295, -, st295⟩ := newO X0 hx hZ hown (hw _ (List.mem_of_getElem? (i := 0) rfl)) (hw _ (List.mem_of_getElem? (i := 1) rfl)) (hw _ (List.mem_of_getElem? (i := 2) rfl)) e0 (g := (mkF m 160 #[.val (.int p0), .val (.int p1), .val (.int p2), .val (.int p3), .val (.int (p0 &&& (7 : Int32))), .val (.int ((p1 &&& (255 : Int32)).toUInt32.toUInt16.toUInt32.toInt32)), .val (.int ((((p1.toUInt32 >>> ((8 : Int32) &&& 31).toUInt32).toInt32) &&& (255 : Int32)).toUInt32.toUInt16.toUInt32.toInt32)), .unset, .unset, .unset, .unset, .unset, .unset, .unset, .unset, .unset, .unset] [])) rfl (hb hby at_160) (by decide) (by decide)
            obtain ⟨b295, g295⟩ : ∃ z, z = h0.size := ⟨_, rfl⟩
            rw [← g295] at A295 D295 st295
            have g_b295 : n0 ≤ b295 := Nat.le_trans Z0 (Nat.le_of_eq g295.symm)
            refine own_byH st295 ?_
            have CR296 := CHr.ext E295 CH.1
            have CH296 := CH.trans CR296
            have sb295 := Safe.ext E295 CH.1 (Safe.new (Nat.le_of_eq g295.symm))
            show own_ComesH Z p e below s _ _ _ (T295.setTop (mkF m 163 #[.val (.int p0), .val (.int p1), .val (.int p2), .val (.int p3), .val (.int (p0 &&& (7 : Int32))), .val (.int ((p1 &&& (255 : Int32)).toUInt32.toUInt16.toUInt32.toInt32)), .val (.int ((((p1.toUInt32 >>> ((8 : Int32) &&& 31).toUInt32).toInt32) &&& (255 : Int32)).toUInt32.toUInt16.toUInt32.toInt32)), .unset, .unset, .unset, .unset, .unset, .unset, .unset, .unset, .unset, .unset] [(.ref b295)]))
            refine own_byH (fun _ kS => XS.dup X295.here hx rfl (hb hby at_163) rfl rfl kS) ?_
            show own_ComesH Z p e below s _ _ _ (T295.setTop (mkF m 164 #[.val (.int p0), .val (.int p1), .val (.int p2), .val (.int p3), .val (.int (p0 &&& (7 : Int32))), .val (.int ((p1 &&& (255 : Int32)).toUInt32.toUInt16.toUInt32.toInt32)), .val (.int ((((p1.toUInt32 >>> ((8 : Int32) &&& 31).toUInt32).toInt32) &&& (255 : Int32)).toUInt32.toUInt16.toUInt32.toInt32)), .unset, .unset, .unset, .unset, .unset, .unset, .unset, .unset, .unset, .unset] [(.ref b295), (.ref b295)]))
            refine own_byH (fun _ kS => XS.iconst X295.here hx rfl (hb hby at_164) kS) ?_
            show own_ComesH Z p e below s _ _ _ (T295.setTop (mkF m 165 #[.val (.int p0), .val (.int p1), .val (.int p2), .val (.int p3), .val (.int (p0 &&& (7 : Int32))), .val (.int ((p1 &&& (255 : Int32)).toUInt32.toUInt16.toUInt32.toInt32)), .val (.int ((((p1.toUInt32 >>> ((8 : Int32) &&& 31).toUInt32).toInt32) &&& (255 : Int32)).toUInt32.toUInt16.toUInt32.toInt32)), .unset, .unset, .unset, .unset, .unset, .unset, .unset, .unset, .unset, .unset] [(.int (3 : Int32)), (.ref b295), (.ref b295)]))
            obtain ⟨T297, h297, k297, X297, e297, E297, A297, st297⟩ := newP X295 hx hZ (hw _ (List.mem_of_getElem? (i := 3) rfl)) e295 (g := (mkF m 165 #[.val (.int p0), .val (.int p1), .val (.int p2), .val (.int p3), .val (.int (p0 &&& (7 : Int32))), .val (.int ((p1 &&& (255 : Int32)).toUInt32.toUInt16.toUInt32.toInt32)), .val (.int ((((p1.toUInt32 >>> ((8 : Int32) &&& 31).toUInt32).toInt32) &&& (255 : Int32)).toUInt32.toUInt16.toUInt32.toInt32)), .unset, .unset, .unset, .unset, .unset, .unset, .unset, .unset, .unset, .unset] [(.int (3 : Int32)), (.ref b295), (.ref b295)])) rfl (hb hby at_165) rfl (by decide) (cap := 3) (by decide) (by decide) (by decide) (by decide)
            obtain ⟨b297, g297⟩ : ∃ z, z = h295.size := ⟨_, rfl⟩
            rw [← g297] at A297 st297
            have g_b297 : n0 ≤ b297 := Nat.le_trans (Nat.le_trans Z0 E295.1) (Nat.le_of_eq g297.symm)
            refine own_byH st297 ?_
            have CR298 := CHr.ext E297 CH296.1
            have CH298 := CH296.trans CR298
            have sb297 := Safe.ext E297 CH296.1 (Safe.new (Nat.le_of_eq g297.symm))
            have V_b297 : Arv Z h297 b297 k297 .char (3 : Int32) [(.int (0 : Int32)), (.int (0 : Int32)), (.int (0 : Int32))] (.int (0 : Int32)) := (Arv.new A297 (by decide)).pad (pad_rep [] (.int (0 : Int32)) 3)
            show own_ComesH Z p e below s _ _ _ (T297.setTop (mkF m 167 #[.val (.int p0), .val (.int p1), .val (.int p2), .val (.int p3), .val (.int (p0 &&& (7 : Int32))), .val (.int ((p1 &&& (255 : Int32)).toUInt32.toUInt16.toUInt32.toInt32)), .val (.int ((((p1.toUInt32 >>> ((8 : Int32) &&& 31).toUInt32).toInt32) &&& (255 : Int32)).toUInt32.toUInt16.toUInt32.toInt32)), .unset, .unset, .unset, .unset, .unset, .unset, .unset, .unset, .unset, .unset] [(.ref b297), (.ref b295), (.ref b295)]))
            have sz_b297 : h0.size ≤ b297 := Nat.le_trans ((Keep.refl _ []).ext E295).1 (Nat.le_of_eq g297.symm)
            have nA297 : b295 ≠ b297 := Nat.ne_of_lt (Nat.lt_of_lt_of_le A295.lt (Nat.le_of_eq g297.symm))
            have sz_b295 : h0.size ≤ b295 := Nat.le_of_eq g295.symm
            refine own_byH (fun _ kS => XS.dup X297.here hx rfl (hb hby at_167) rfl rfl kS) ?_
            show own_ComesH Z p e below s _ _ _ (T297.setTop (mkF m 168 #[.val (.int p0), .val (.int p1), .val (.int p2), .val (.int p3), .val (.int (p0 &&& (7 : Int32))), .val (.int ((p1 &&& (255 : Int32)).toUInt32.toUInt16.toUInt32.toInt32)), .val (.int ((((p1.toUInt32 >>> ((8 : Int32) &&& 31).toUInt32).toInt32) &&& (255 : Int32)).toUInt32.toUInt16.toUInt32.toInt32)), .unset, .unset, .unset, .unset, .unset, .unset, .unset, .unset, .unset, .unset] [(.ref b297), (.ref b297), (.ref b295), (.ref b295)]))
            refine own_byH (fun _ kS => XS.iconst X297.here hx rfl (hb hby at_168) kS) ?_
            show own_ComesH Z p e below s _ _ _ (T297.setTop (mkF m 169 #[.val (.int p0), .val (.int p1), .val (.int p2), .val (.int p3), .val (.int (p0 &&& (7 : Int32))), .val (.int ((p1 &&& (255 : Int32)).toUInt32.toUInt16.toUInt32.toInt32)), .val (.int ((((p1.toUInt32 >>> ((8 : Int32) &&& 31).toUInt32).toInt32) &&& (255 : Int32)).toUInt32.toUInt16.toUInt32.toInt32)), .unset, .unset, .unset, .unset, .unset, .unset, .unset, .unset, .unset, .unset] [(.int (0 : Int32)), (.ref b297), (.ref b297), (.ref b295), (.ref b295)]))
            refine own_byH (fun _ kS => XS.bipush X297.here hx rfl (hb hby at_169) kS) ?_
            show own_ComesH Z p e below s _ _ _ (T297.setTop (mkF m 171 #[.val (.int p0), .val (.int p1), .val (.int p2), .val (.int p3), .val (.int (p0 &&& (7 : Int32))), .val (.int ((p1 &&& (255 : Int32)).toUInt32.toUInt16.toUInt32.toInt32)), .val (.int ((((p1.toUInt32 >>> ((8 : Int32) &&& 31).toUInt32).toInt32) &&& (255 : Int32)).toUInt32.toUInt16.toUInt32.toInt32)), .unset, .unset, .unset, .unset, .unset, .unset, .unset, .unset, .unset, .unset] [(.int (49 : Int32)), (.int (0 : Int32)), (.ref b297), (.ref b297), (.ref b295), (.ref b295)]))
            have Vo299 := V_b297
            obtain ⟨cl299, Ar299, qA299, SA299, NA299, HA299, GA299⟩ := Vo299
            have hin299 : ¬ ((0 : Int32) < 0 ∨ cl299.slots.size ≤ ((0 : Int32)).toNatClampNeg) := inb_of SA299 ⟨by decide, by decide⟩
            obtain ⟨T300, h300, X300, e300, W300, st300⟩ := stC X297 hx hZ e297 Ar299 (j := (0 : Int32)) hin299 (g := (mkF m 171 #[.val (.int p0), .val (.int p1), .val (.int p2), .val (.int p3), .val (.int (p0 &&& (7 : Int32))), .val (.int ((p1 &&& (255 : Int32)).toUInt32.toUInt16.toUInt32.toInt32)), .val (.int ((((p1.toUInt32 >>> ((8 : Int32) &&& 31).toUInt32).toInt32) &&& (255 : Int32)).toUInt32.toUInt16.toUInt32.toInt32)), .unset, .unset, .unset, .unset, .unset, .unset, .unset, .unset, .unset, .unset] [(.int (49 : Int32)), (.int (0 : Int32)), (.ref b297), (.ref b297), (.ref b295), (.ref b295)])) rfl rfl (hb hby at_171)
            refine own_byH st300 ?_
            have V300 : Arv Z h300 b297 k297 .char (3 : Int32) [(.int (nar .char (49 : Int32))), (.int (0 : Int32)), (.int (0 : Int32))] (.int (0 : Int32)) := Arv.set Ar299 qA299 SA299 NA299 HA299 GA299 (by first | rfl | exact fits_nar_char _) W300 0 rfl (Nat.le_of_ble_eq_true rfl)
            have CR301 := CHr.wr W300 sb297 CH298.1
            have CH301 := CH298.trans CR301
            have N300 := Fr.snoc X300 N0 g_b297
            show own_ComesH Z p e below s _ _ _ (T300.setTop (mkF m 172 #[.val (.int p0), .val (.int p1), .val (.int p2), .val (.int p3), .val (.int (p0 &&& (7 : Int32))), .val (.int ((p1 &&& (255 : Int32)).toUInt32.toUInt16.toUInt32.toInt32)), .val (.int ((((p1.toUInt32 >>> ((8 : Int32) &&& 31).toUInt32).toInt32) &&& (255 : Int32)).toUInt32.toUInt16.toUInt32.toInt32)), .unset, .unset, .unset, .unset, .unset, .unset, .unset, .unset, .unset, .unset] [(.ref b297), (.ref b295), (.ref b295)]))
            refine own_byH (fun _ kS => XS.dup X300.here hx rfl (hb hby at_172) rfl rfl kS) ?_
            show own_ComesH Z p e below s _ _ _ (T300.setTop (mkF m 173 #[.val (.int p0), .val (.int p1), .val (.int p2), .val (.int p3), .val (.int (p0 &&& (7 : Int32))), .val (.int ((p1 &&& (255 : Int32)).toUInt32.toUInt16.toUInt32.toInt32)), .val (.int ((((p1.toUInt32 >>> ((8 : Int32) &&& 31).toUInt32).toInt32) &&& (255 : Int32)).toUInt32.toUInt16.toUInt32.toInt32)), .unset, .unset, .unset, .unset, .unset, .unset, .unset, .unset, .unset, .unset] [(.ref b297), (.ref b297), (.ref b295), (.ref b295)]))
            refine own_byH (fun _ kS => XS.iconst X300.here hx rfl (hb hby at_173) kS) ?_
            show own_ComesH Z p e below s _ _ _ (T300.setTop (mkF m 174 #[.val (.int p0), .val (.int p1), .val (.int p2), .val (.int p3), .val (.int (p0 &&& (7 : Int32))), .val (.int ((p1 &&& (255 : Int32)).toUInt32.toUInt16.toUInt32.toInt32)), .val (.int ((((p1.toUInt32 >>> ((8 : Int32) &&& 31).toUInt32).toInt32) &&& (255 : Int32)).toUInt32.toUInt16.toUInt32.toInt32)), .unset, .unset, .unset, .unset, .unset, .unset, .unset, .unset, .unset, .unset] [(.int (1 : Int32)), (.ref b297), (.ref b297), (.ref b295), (.ref b295)]))
            refine own_byH (fun _ kS => XS.bipush X300.here hx rfl (hb hby at_174) kS) ?_
            show own_ComesH Z p e below s _ _ _ (T300.setTop (mkF m 176 #[.val (.int p0), .val (.int p1), .val (.int p2), .val (.int p3), .val (.int (p0 &&& (7 : Int32))), .val (.int ((p1 &&& (255 : Int32)).toUInt32.toUInt16.toUInt32.toInt32)), .val (.int ((((p1.toUInt32 >>> ((8 : Int32) &&& 31).toUInt32).toInt32) &&& (255 : Int32)).toUInt32.toUInt16.toUInt32.toInt32)), .unset, .unset, .unset, .unset, .unset, .unset, .unset, .unset, .unset, .unset] [(.int (50 : Int32)), (.int (1 : Int32)), (.ref b297), (.ref b297), (.ref b295), (.ref b295)]))
            have Vo302 := V300
            obtain ⟨cl302, Ar302, qA302, SA302, NA302, HA302, GA302⟩ := Vo302
            have hin302 : ¬ ((1 : Int32) < 0 ∨ cl302.slots.size ≤ ((1 : Int32)).toNatClampNeg) := inb_of SA302 ⟨by decide, by decide⟩
            obtain ⟨T303, h303, X303, e303, W303, st303⟩ := stC X300 hx hZ e300 Ar302 (j := (1 : Int32)) hin302 (g := (mkF m 176 #[.val (.int p0), .val (.int p1), .val (.int p2), .val (.int p3), .val (.int (p0 &&& (7 : Int32))), .val (.int ((p1 &&& (255 : Int32)).toUInt32.toUInt16.toUInt32.toInt32)), .val (.int ((((p1.toUInt32 >>> ((8 : Int32) &&& 31).toUInt32).toInt32) &&& (255 : Int32)).toUInt32.toUInt16.toUInt32.toInt32)), .unset, .unset, .unset, .unset, .unset, .unset, .unset, .unset, .unset, .unset] [(.int (50 : Int32)), (.int (1 : Int32)), (.ref b297), (.ref b297), (.ref b295), (.ref b295)])) rfl rfl (hb hby at_176)
            refine own_byH st303 ?_
            have V303 : Arv Z h303 b297 k297 .char (3 : Int32) [(.int (nar .char (49 : Int32))), (.int (nar .char (50 : Int32))), (.int (0 : Int32))] (.int (0 : Int32)) := Arv.set Ar302 qA302 SA302 NA302 HA302 GA302 (by first | rfl | exact fits_nar_char _) W303 1 rfl (Nat.le_of_ble_eq_true rfl)
            have sf305 := CR301.safe A297.lt sb297
            have CR304 := CHr.wr W303 sf305 CH301.1
            have CH304 := CH301.trans CR304
            have N303 := Fr.snoc X303 N300 g_b297
            show own_ComesH Z p e below s _ _ _ (T303.setTop (mkF m 177 #[.val (.int p0), .val (.int p1), .val (.int p2), .val (.int p3), .val (.int (p0 &&& (7 : Int32))), .val (.int ((p1 &&& (255 : Int32)).toUInt32.toUInt16.toUInt32.toInt32)), .val (.int ((((p1.toUInt32 >>> ((8 : Int32) &&& 31).toUInt32).toInt32) &&& (255 : Int32)).toUInt32.toUInt16.toUInt32.toInt32)), .unset, .unset, .unset, .unset, .unset, .unset, .unset, .unset, .unset, .unset] [(.ref b297), (.ref b295), (.ref b295)]))
            refine own_byH (fun _ kS => XS.dup X303.here hx rfl (hb hby at_177) rfl rfl kS) ?_
            show own_ComesH Z p e below s _ _ _ (T303.setTop (mkF m 178 #[.val (.int p0), .val (.int p1), .val (.int p2), .val (.int p3), .val (.int (p0 &&& (7 : Int32))), .val (.int ((p1 &&& (255 : Int32)).toUInt32.toUInt16.toUInt32.toInt32)), .val (.int ((((p1.toUInt32 >>> ((8 : Int32) &&& 31).toUInt32).toInt32) &&& (255 : Int32)).toUInt32.toUInt16.toUInt32.toInt32)), .unset, .unset, .unset, .unset, .unset, .unset, .unset, .unset, .unset, .unset] [(.ref b297), (.ref b297), (.ref b295), (.ref b295)]))
            refine own_byH (fun _ kS => XS.iconst X303.here hx rfl (hb hby at_178) kS) ?_
            show own_ComesH Z p e below s _ _ _ (T303.setTop (mkF m 179 #[.val (.int p0), .val (.int p1), .val (.int p2), .val (.int p3), .val (.int (p0 &&& (7 : Int32))), .val (.int ((p1 &&& (255 : Int32)).toUInt32.toUInt16.toUInt32.toInt32)), .val (.int ((((p1.toUInt32 >>> ((8 : Int32) &&& 31).toUInt32).toInt32) &&& (255 : Int32)).toUInt32.toUInt16.toUInt32.toInt32)), .unset, .unset, .unset, .unset, .unset, .unset, .unset, .unset, .unset, .unset] [(.int (2 : Int32)), (.ref b297), (.ref b297), (.ref b295), (.ref b295)]))
            refine own_byH (fun _ kS => XS.iload X303.here hx rfl (hb hby at_179) rfl kS) ?_
            show own_ComesH Z p e below s _ _ _ (T303.setTop (mkF m 181 #[.val (.int p0), .val (.int p1), .val (.int p2), .val (.int p3), .val (.int (p0 &&& (7 : Int32))), .val (.int ((p1 &&& (255 : Int32)).toUInt32.toUInt16.toUInt32.toInt32)), .val (.int ((((p1.toUInt32 >>> ((8 : Int32) &&& 31).toUInt32).toInt32) &&& (255 : Int32)).toUInt32.toUInt16.toUInt32.toInt32)), .unset, .unset, .unset, .unset, .unset, .unset, .unset, .unset, .unset, .unset] [(.int ((p1 &&& (255 : Int32)).toUInt32.toUInt16.toUInt32.toInt32)), (.int (2 : Int32)), (.ref b297), (.ref b297), (.ref b295), (.ref b295)]))
            have Vo306 := V303
            obtain ⟨cl306, Ar306, qA306, SA306, NA306, HA306, GA306⟩ := Vo306
            have hin306 : ¬ ((2 : Int32) < 0 ∨ cl306.slots.size ≤ ((2 : Int32)).toNatClampNeg) := inb_of SA306 ⟨by decide, by decide⟩
            obtain ⟨T307, h307, X307, e307, W307, st307⟩ := stC X303 hx hZ e303 Ar306 (j := (2 : Int32)) hin306 (g := (mkF m 181 #[.val (.int p0), .val (.int p1), .val (.int p2), .val (.int p3), .val (.int (p0 &&& (7 : Int32))), .val (.int ((p1 &&& (255 : Int32)).toUInt32.toUInt16.toUInt32.toInt32)), .val (.int ((((p1.toUInt32 >>> ((8 : Int32) &&& 31).toUInt32).toInt32) &&& (255 : Int32)).toUInt32.toUInt16.toUInt32.toInt32)), .unset, .unset, .unset, .unset, .unset, .unset, .unset, .unset, .unset, .unset] [(.int ((p1 &&& (255 : Int32)).toUInt32.toUInt16.toUInt32.toInt32)), (.int (2 : Int32)), (.ref b297), (.ref b297), (.ref b295), (.ref b295)])) rfl rfl (hb hby at_181)
            refine own_byH st307 ?_
            have V307 : Arv Z h307 b297 k297 .char (3 : Int32) [(.int (nar .char (49 : Int32))), (.int (nar .char (50 : Int32))), (.int (nar .char ((p1 &&& (255 : Int32)).toUInt32.toUInt16.toUInt32.toInt32)))] (.int (0 : Int32)) := Arv.set Ar306 qA306 SA306 NA306 HA306 GA306 (by first | rfl | exact fits_nar_char _) W307 2 rfl (Nat.le_of_ble_eq_true rfl)
            have sf309 := CR304.safe (Nat.lt_of_lt_of_le A297.lt CR301.2.1) sf305
            have CR308 := CHr.wr W307 sf309 CH304.1
            have CH308 := CH304.trans CR308
            have N307 := Fr.snoc X307 N303 g_b297
            show own_ComesH Z p e below s _ _ _ (T307.setTop (mkF m 182 #[.val (.int p0), .val (.int p1), .val (.int p2), .val (.int p3), .val (.int (p0 &&& (7 : Int32))), .val (.int ((p1 &&& (255 : Int32)).toUInt32.toUInt16.toUInt32.toInt32)), .val (.int ((((p1.toUInt32 >>> ((8 : Int32) &&& 31).toUInt32).toInt32) &&& (255 : Int32)).toUInt32.toUInt16.toUInt32.toInt32)), .unset, .unset, .unset, .unset, .unset, .unset, .unset, .unset, .unset, .unset] [(.ref b297), (.ref b295), (.ref b295)]))
            have Vc := V307
            simp only [own_narc hX, own_narc own_49, own_narc own_50] at Vc
            have hpb295 : ∀ c ∈ [(49 : Int32), (50 : Int32), ((p1 &&& (255 : Int32)).toUInt32.toUInt16.toUInt32.toInt32)], ¬ c < 0 ∧ ¬ (255 : Int32) < c := fun c hc => by
              simp only [List.mem_cons, List.not_mem_nil, or_false] at hc
              rcases hc with rfl | rfl | rfl
              · exact own_49
              · exact own_50
              · exact hX
            have c310 := (((((D295 (Or.inr (hw _ (List.mem_of_getElem? (i := 29) rfl))) (ty := (.array .byte)) (by decide)).ext E297).other W300 (Or.inl nA297)).other W303 (Or.inl nA297)).other W307 (Or.inl nA297))
            have c311 := (((((D295 (Or.inr (hw _ (List.mem_of_getElem? (i := 27) rfl))) (ty := .byte) (by decide)).ext E297).other W300 (Or.inl nA297)).other W303 (Or.inl nA297)).other W307 (Or.inl nA297))
            have c312 := (((((O0.ext E295).ext E297).wr W300 g_b297).wr W303 g_b297).wr W307 g_b297)
            obtain ⟨vv313, _, ⟨T313, L313, k313, n313⟩, -, X313, ⟨Lc313, hQ313, l313, y313, z313⟩, st313⟩ := X307.specialBack hx (y := (⟨"java/lang/String", "<init>", "([C)V"⟩ : MethodName)) rfl hown (mvT hZ (hw _ (List.mem_of_getElem? (i := 4) rfl))) (mvT hZ (hw _ (List.mem_of_getElem? (i := 5) rfl))) (mvT hZ (hw _ (List.mem_of_getElem? (i := 6) rfl))) (by decide) (StrChars.Road.backV (W := 1) hZ hws (kI := 4) (hw _ (List.mem_of_getElem? (i := 1) rfl)) (cs := [(49 : Int32), (50 : Int32), ((p1 &&& (255 : Int32)).toUInt32.toUInt16.toUInt32.toInt32)]) (bs := [(49 : Int32), (50 : Int32), ((p1 &&& (255 : Int32)).toUInt32.toUInt16.toUInt32.toInt32)].map (fun c => c.toInt8.toInt32)) (n := 3) (n0 := n0) g_b295 (Nat.le_trans (Nat.le_trans (Nat.le_trans (Nat.le_trans (Nat.le_trans Z0 E295.1) E297.1) (Keep.of_wr W300).1) (Keep.of_wr W303).1) (Keep.of_wr W307).1) ((((A295.ext E297).wr W300).wr W303).wr W307) c310 c311 Vc (Sz.ext c312.2) hzc rfl rfl (by decide) (by decide) hpb295 rfl (by decide) (by decide)) (g := (mkF m 182 #[.val (.int p0), .val (.int p1), .val (.int p2), .val (.int p3), .val (.int (p0 &&& (7 : Int32))), .val (.int ((p1 &&& (255 : Int32)).toUInt32.toUInt16.toUInt32.toInt32)), .val (.int ((((p1.toUInt32 >>> ((8 : Int32) &&& 31).toUInt32).toInt32) &&& (255 : Int32)).toUInt32.toUInt16.toUInt32.toInt32)), .unset, .unset, .unset, .unset, .unset, .unset, .unset, .unset, .unset, .unset] [(.ref b297), (.ref b295), (.ref b295)])) rfl (by rw [hml]; rfl) (Steps.refl _) (a := b295) (argsL := [(.ref b297)]) (rest := [(.ref b295)]) (lenOf pd___C_V_325 rfl) rfl (by show 2 * 0 + _ ≤ _; exact Nat.le_of_eq rfl) (hb hby at_182) (fun _ _ => ⟨rfl, e307, (by decide : 2 + 1 ≤ _), (by decide : 7 + 3 ≤ _)⟩)
            dsimp only [Pt.U, Pt.locs, Pt.cells, Pt.slots] at X313 l313 y313 z313 st313 hQ313
            subst l313 y313 z313
            obtain ⟨rfl, N313q, K313, Eb313, Cb313, t313, kb313, _, _, _, Vb313, Ab313⟩ := hQ313
            have N313 := Fr.app N307 N313q
            refine own_trH st313 ?_
            have sf315 := (CR298.trans (CR301.trans (CR304.trans CR308))).safe A295.lt sb295
            have CR314 := CHr.keep K313 (sfS sf315 sf0) CH308.1
            have CH314 := CH308.trans CR314
            show own_ComesH Z p e below s _ _ _ (T313.setTop (mkF m 185 #[.val (.int p0), .val (.int p1), .val (.int p2), .val (.int p3), .val (.int (p0 &&& (7 : Int32))), .val (.int ((p1 &&& (255 : Int32)).toUInt32.toUInt16.toUInt32.toInt32)), .val (.int ((((p1.toUInt32 >>> ((8 : Int32) &&& 31).toUInt32).toInt32) &&& (255 : Int32)).toUInt32.toUInt16.toUInt32.toInt32)), .unset, .unset, .unset, .unset, .unset, .unset, .unset, .unset, .unset, .unset] [(.ref b295)]))
            have hSb295 : own_Str Z T313.heap b295 [(49 : Int32), (50 : Int32), ((p1 &&& (255 : Int32)).toUInt32.toUInt16.toUInt32.toInt32)] := ⟨Eb313, t313, kb313, _, _, Vb313, Cb313, Ab313, StrChars.Road.codOf rfl (fun c hc => (hpb295 c hc).2), fun c hc => own_up (hpb295 c hc), Nat.le_of_ble_eq_true rfl⟩
            refine own_byH (fun _ kS => XS.astore X313.here hx rfl (hb hby at_185) rfl rfl (l' := #[.val (.int p0), .val (.int p1), .val (.int p2), .val (.int p3), .val (.int (p0 &&& (7 : Int32))), .val (.int ((p1 &&& (255 : Int32)).toUInt32.toUInt16.toUInt32.toInt32)), .val (.int ((((p1.toUInt32 >>> ((8 : Int32) &&& 31).toUInt32).toInt32) &&& (255 : Int32)).toUInt32.toUInt16.toUInt32.toInt32)), .val (.ref b295), .unset, .unset, .unset, .unset, .unset, .unset, .unset, .unset, .unset]) rfl kS) ?_
            show own_ComesH Z p e below s _ _ _ (T313.setTop (mkF m 187 #[.val (.int p0), .val (.int p1), .val (.int p2), .val (.int p3), .val (.int (p0 &&& (7 : Int32))), .val (.int ((p1 &&& (255 : Int32)).toUInt32.toUInt16.toUInt32.toInt32)), .val (.int ((((p1.toUInt32 >>> ((8 : Int32) &&& 31).toUInt32).toInt32) &&& (255 : Int32)).toUInt32.toUInt16.toUInt32.toInt32)), .val (.ref b295), .unset, .unset, .unset, .unset, .unset, .unset, .unset, .unset, .unset] []))
            refine own_byH (fun _ kS => XS.iconst X313.here hx rfl (hb hby at_187) kS) ?_
            show own_ComesH Z p e below s _ _ _ (T313.setTop (mkF m 188 #[.val (.int p0), .val (.int p1), .val (.int p2), .val (.int p3), .val (.int (p0 &&& (7 : Int32))), .val (.int ((p1 &&& (255 : Int32)).toUInt32.toUInt16.toUInt32.toInt32)), .val (.int ((((p1.toUInt32 >>> ((8 : Int32) &&& 31).toUInt32).toInt32) &&& (255 : Int32)).toUInt32.toUInt16.toUInt32.toInt32)), .val (.ref b295), .unset, .unset, .unset, .unset, .unset, .unset, .unset, .unset, .unset] [(.int (0 : Int32))]))
            refine own_byH (fun _ kS => XS.istore X313.here hx rfl (hb hby at_188) rfl (l' := #[.val (.int p0), .val (.int p1), .val (.int p2), .val (.int p3), .val (.int (p0 &&& (7 : Int32))), .val (.int ((p1 &&& (255 : Int32)).toUInt32.toUInt16.toUInt32.toInt32)), .val (.int ((((p1.toUInt32 >>> ((8 : Int32) &&& 31).toUInt32).toInt32) &&& (255 : Int32)).toUInt32.toUInt16.toUInt32.toInt32)), .val (.ref b295), .val (.int (0 : Int32)), .unset, .unset, .unset, .unset, .unset, .unset, .unset, .unset]) rfl kS) ?_
            show own_ComesH Z p e below s _ _ _ (T313.setTop (mkF m 190 #[.val (.int p0), .val (.int p1), .val (.int p2), .val (.int p3), .val (.int (p0 &&& (7 : Int32))), .val (.int ((p1 &&& (255 : Int32)).toUInt32.toUInt16.toUInt32.toInt32)), .val (.int ((((p1.toUInt32 >>> ((8 : Int32) &&& 31).toUInt32).toInt32) &&& (255 : Int32)).toUInt32.toUInt16.toUInt32.toInt32)), .val (.ref b295), .val (.int (0 : Int32)), .unset, .unset, .unset, .unset, .unset, .unset, .unset, .unset] []))
            refine own_byH (fun _ kS => XS.goto X313.here hx rfl (pc0 := 190) (pc' := 299) rfl (hb hby at_190) (by decide) (by decide) kS) ?_
            show own_ComesH Z p e below s _ _ _ (T313.setTop (mkF m 299 #[.val (.int p0), .val (.int p1), .val (.int p2), .val (.int p3), .val (.int (p0 &&& (7 : Int32))), .val (.int ((p1 &&& (255 : Int32)).toUInt32.toUInt16.toUInt32.toInt32)), .val (.int ((((p1.toUInt32 >>> ((8 : Int32) &&& 31).toUInt32).toInt32) &&& (255 : Int32)).toUInt32.toUInt16.toUInt32.toInt32)), .val (.ref b295), .val (.int (0 : Int32)), .unset, .unset, .unset, .unset, .unset, .unset, .unset, .unset] []))
            exact J299 _ _ _ _ _ (.ref b295) (0 : Int32) (X313.more (by decide) (by decide)) rfl hZ hown hS (Nat.le_trans (Nat.le_trans (Nat.le_trans (Nat.le_trans (Nat.le_trans (Nat.le_trans hk E295.1) E297.1) (Keep.of_wr W300).1) (Keep.of_wr W303).1) (Keep.of_wr W307).1) K313.1) CH314 N313 (c312.keep K313 (allS g_b295 all0)) (Nat.le_trans (Nat.le_trans (Nat.le_trans (Nat.le_trans (Nat.le_trans (Nat.le_trans Z0 E295.1) E297.1) (Keep.of_wr W300).1) (Keep.of_wr W303).1) (Keep.of_wr W307).1) K313.1) (Or.inr ⟨_, _, rfl, hSb295, Or.inr ⟨own_n3 _ _ _, rfl⟩⟩)
          · refine own_byH (fun _ kS => XS.icmpYes X0.here hx rfl (pc0 := 157) (pc' := 193) rfl (hb hby at_157) rfl (feq hm4).2 (by decide) (by decide) kS) ?_
            show own_ComesH Z p e below s _ _ _ (s₁.setTop (mkF m 193 #[.val (.int p0), .val (.int p1), .val (.int p2), .val (.int p3), .val (.int (p0 &&& (7 : Int32))), .val (.int ((p1 &&& (255 : Int32)).toUInt32.toUInt16.toUInt32.toInt32)), .val (.int ((((p1.toUInt32 >>> ((8 : Int32) &&& 31).toUInt32).toInt32) &&& (255 : Int32)).toUInt32.toUInt16.toUInt32.toInt32)), .unset, .unset, .unset, .unset, .unset, .unset, .unset, .unset, .unset, .unset] []))
            refine own_byH (fun _ kS => XS.iload X0.here hx rfl (hb hby at_193) rfl kS) ?_
            show own_ComesH Z p e below s _ _ _ (s₁.setTop (mkF m 195 #[.val (.int p0), .val (.int p1), .val (.int p2), .val (.int p3), .val (.int (p0 &&& (7 : Int32))), .val (.int ((p1 &&& (255 : Int32)).toUInt32.toUInt16.toUInt32.toInt32)), .val (.int ((((p1.toUInt32 >>> ((8 : Int32) &&& 31).toUInt32).toInt32) &&& (255 : Int32)).toUInt32.toUInt16.toUInt32.toInt32)), .unset, .unset, .unset, .unset, .unset, .unset, .unset, .unset, .unset, .unset] [(.int (p0 &&& (7 : Int32)))]))
            refine own_byH (fun _ kS => XS.iconst X0.here hx rfl (hb hby at_195) kS) ?_
            show own_ComesH Z p e below s _ _ _ (s₁.setTop (mkF m 196 #[.val (.int p0), .val (.int p1), .val (.int p2), .val (.int p3), .val (.int (p0 &&& (7 : Int32))), .val (.int ((p1 &&& (255 : Int32)).toUInt32.toUInt16.toUInt32.toInt32)), .val (.int ((((p1.toUInt32 >>> ((8 : Int32) &&& 31).toUInt32).toInt32) &&& (255 : Int32)).toUInt32.toUInt16.toUInt32.toInt32)), .unset, .unset, .unset, .unset, .unset, .unset, .unset, .unset, .unset, .unset] [(.int (5 : Int32)), (.int (p0 &&& (7 : Int32)))]))
            by_cases hm5 : (p0 &&& (7 : Int32)) = (5 : Int32)
            · refine own_byH (fun _ kS => XS.icmpNo X0.here hx rfl (hb hby at_196) rfl (teq hm5).2 kS) ?_
              show own_ComesH Z p e below s _ _ _ (s₁.setTop (mkF m 199 #[.val (.int p0), .val (.int p1), .val (.int p2), .val (.int p3), .val (.int (p0 &&& (7 : Int32))), .val (.int ((p1 &&& (255 : Int32)).toUInt32.toUInt16.toUInt32.toInt32)), .val (.int ((((p1.toUInt32 >>> ((8 : Int32) &&& 31).toUInt32).toInt32) &&& (255 : Int32)).toUInt32.toUInt16.toUInt32.toInt32)), .unset, .unset, .unset, .unset, .unset, .unset, .unset, .unset, .unset, .unset] []))
              obtain ⟨T316, h316, X316, e316, E316, A316, D316, -, st316⟩ := newO X0 hx hZ hown (hw _ (List.mem_of_getElem? (i := 0) rfl)) (hw _ (List.mem_of_getElem? (i := 1) rfl)) (hw _ (List.mem_of_getElem? (i := 2) rfl)) e0 (g := (mkF m 199 #[.val (.int p0), .val (.int p1), .val (.int p2), .val (.int p3), .val (.int (p0 &&& (7 : Int32))), .val (.int ((p1 &&& (255 : Int32)).toUInt32.toUInt16.toUInt32.toInt32)), .val (.int ((((p1.toUInt32 >>> ((8 : Int32) &&& 31).toUInt32).toInt32) &&& (255 : Int32)).toUInt32.toUInt16.toUInt32.toInt32)), .unset, .unset, .unset, .unset, .unset, .unset, .unset, .unset, .unset, .unset] [])) rfl (hb hby at_199) (by decide) (by decide)
              obtain ⟨b316, g316⟩ : ∃ z, z = h0.size := ⟨_, rfl⟩
              rw [← g316] at A316 D316 st316
              have g_b316 : n0 ≤ b316 := Nat.le_trans Z0 (Nat.le_of_eq g316.symm)
              refine own_byH st316 ?_
              have CR317 := CHr.ext E316 CH.1
              have CH317 := CH.trans CR317
              have sb316 := Safe.ext E316 CH.1 (Safe.new (Nat.le_of_eq g316.symm))
              show own_ComesH Z p e below s _ _ _ (T316.setTop (mkF m 202 #[.val (.int p0), .val (.int p1), .val (.int p2), .val (.int p3), .val (.int (p0 &&& (7 : Int32))), .val (.int ((p1 &&& (255 : Int32)).toUInt32.toUInt16.toUInt32.toInt32)), .val (.int ((((p1.toUInt32 >>> ((8 : Int32) &&& 31).toUInt32).toInt32) &&& (255 : Int32)).toUInt32.toUInt16.toUInt32.toInt32)), .unset, .unset, .unset, .unset, .unset, .unset, .unset, .unset, .unset, .unset] [(.ref b316)]))
              refine own_byH (fun _ kS => XS.dup X316.here hx rfl (hb hby at_202) rfl rfl kS) ?_
              show own_ComesH Z p e below s _ _ _ (T316.setTop (mkF m 203 #[.val (.int p0), .val (.int p1), .val (.int p2), .val (.int p3), .val (.int (p0 &&& (7 : Int32))), .val (.int ((p1 &&& (255 : Int32)).toUInt32.toUInt16.toUInt32.toInt32)), .val (.int ((((p1.toUInt32 >>> ((8 : Int32) &&& 31).toUInt32).toInt32) &&& (255 : Int32)).toUInt32.toUInt16.toUInt32.toInt32)), .unset, .unset, .unset, .unset, .unset, .unset, .unset, .unset, .unset, .unset] [(.ref b316), (.ref b316)]))
              refine own_byH (fun _ kS => XS.iconst X316.here hx rfl (hb hby at_203) kS) ?_
              show own_ComesH Z p e below s _ _ _ (T316.setTop (mkF m 204 #[.val (.int p0), .val (.int p1), .val (.int p2), .val (.int p3), .val (.int (p0 &&& (7 : Int32))), .val (.int ((p1 &&& (255 : Int32)).toUInt32.toUInt16.toUInt32.toInt32)), .val (.int ((((p1.toUInt32 >>> ((8 : Int32) &&& 31).toUInt32).toInt32) &&& (255 : Int32)).toUInt32.toUInt16.toUInt32.toInt32)), .unset, .unset, .unset, .unset, .unset, .unset, .unset, .unset, .unset, .unset] [(.int (0 : Int32)), (.ref b316), (.ref b316)]))
              obtain ⟨T318, h318, k318, X318, e318, E318, A318, st318⟩ := newP X316 hx hZ (hw _ (List.mem_of_getElem? (i := 3) rfl)) e316 (g := (mkF m 204 #[.val (.int p0), .val (.int p1), .val (.int p2), .val (.int p3), .val (.int (p0 &&& (7 : Int32))), .val (.int ((p1 &&& (255 : Int32)).toUInt32.toUInt16.toUInt32.toInt32)), .val (.int ((((p1.toUInt32 >>> ((8 : Int32) &&& 31).toUInt32).toInt32) &&& (255 : Int32)).toUInt32.toUInt16.toUInt32.toInt32)), .unset, .unset, .unset, .unset, .unset, .unset, .unset, .unset, .unset, .unset] [(.int (0 : Int32)), (.ref b316), (.ref b316)])) rfl (hb hby at_204) rfl (by decide) (cap := 0) (by decide) (by decide) (by decide) (by decide)
              obtain ⟨b318, g318⟩ : ∃ z, z = h316.size := ⟨_, rfl⟩
              rw [← g318] at A318 st318
              have g_b318 : n0 ≤ b318 := Nat.le_trans (Nat.le_trans Z0 E316.1) (Nat.le_of_eq g318.symm)
              refine own_byH st318 ?_
              have CR319 := CHr.ext E318 CH317.1
              have CH319 := CH317.trans CR319
              have sb318 := Safe.ext E318 CH317.1 (Safe.new (Nat.le_of_eq g318.symm))
              have V_b318 : Arv Z h318 b318 k318 .char (0 : Int32) [] (.int (0 : Int32)) := (Arv.new A318 (by decide)).pad (pad_rep [] (.int (0 : Int32)) 0)
              show own_ComesH Z p e below s _ _ _ (T318.setTop (mkF m 206 #[.val (.int p0), .val (.int p1), .val (.int p2), .val (.int p3), .val (.int (p0 &&& (7 : Int32))), .val (.int ((p1 &&& (255 : Int32)).toUInt32.toUInt16.toUInt32.toInt32)), .val (.int ((((p1.toUInt32 >>> ((8 : Int32) &&& 31).toUInt32).toInt32) &&& (255 : Int32)).toUInt32.toUInt16.toUInt32.toInt32)), .unset, .unset, .unset, .unset, .unset, .unset, .unset, .unset, .unset, .unset] [(.ref b318), (.ref b316), (.ref b316)]))
              have sz_b318 : h0.size ≤ b318 := Nat.le_trans ((Keep.refl _ []).ext E316).1 (Nat.le_of_eq g318.symm)
              have nA318 : b316 ≠ b318 := Nat.ne_of_lt (Nat.lt_of_lt_of_le A316.lt (Nat.le_of_eq g318.symm))
              have sz_b316 : h0.size ≤ b316 := Nat.le_of_eq g316.symm
              have c320 := ((D316 (Or.inr (hw _ (List.mem_of_getElem? (i := 29) rfl))) (ty := (.array .byte)) (by decide)).ext E318)
              have c321 := ((D316 (Or.inr (hw _ (List.mem_of_getElem? (i := 27) rfl))) (ty := .byte) (by decide)).ext E318)
              obtain ⟨_, _, ⟨T322, L322, k322, n322⟩, -, Xw322, hs322, gr322, ⟨Lc322, hQ322, l322, y322, z322, CQ322⟩, st322⟩ := X318.specialBackS hx (y := (⟨"java/lang/String", "<init>", "([C)V"⟩ : MethodName)) rfl hown (mvT hZ (hw _ (List.mem_of_getElem? (i := 4) rfl))) (mvT hZ (hw _ (List.mem_of_getElem? (i := 5) rfl))) (mvT hZ (hw _ (List.mem_of_getElem? (i := 6) rfl))) (by decide) (backOfSH (W := 1) (rm1 l Z a0 hw [] b316 b318 k318 h318 n0 (Nat.le_trans (Nat.le_trans Z0 E316.1) E318.1) (A316.ext E318) c320 c321 g_b316 V_b318) hZ (hw _ (List.mem_of_getElem? (i := 6) rfl)) (hw _ (List.mem_of_getElem? (i := 2) rfl)) (by decide) (by decide) hEL CH319.1) (g := (mkF m 206 #[.val (.int p0), .val (.int p1), .val (.int p2), .val (.int p3), .val (.int (p0 &&& (7 : Int32))), .val (.int ((p1 &&& (255 : Int32)).toUInt32.toUInt16.toUInt32.toInt32)), .val (.int ((((p1.toUInt32 >>> ((8 : Int32) &&& 31).toUInt32).toInt32) &&& (255 : Int32)).toUInt32.toUInt16.toUInt32.toInt32)), .unset, .unset, .unset, .unset, .unset, .unset, .unset, .unset, .unset, .unset] [(.ref b318), (.ref b316), (.ref b316)])) rfl (by rw [hml]; rfl) (Steps.refl _) (a := b316) (argsL := [(.ref b318)]) (rest := [(.ref b316)]) (lenOf pd___C_V_325 rfl) rfl (by show 2 * 0 + _ ≤ _; exact Nat.le_of_eq rfl) (hb hby at_206) (fun _ _ => ⟨rfl, e318, (by decide : 2 + 4 ≤ _), (by decide : 4 + 8 ≤ _)⟩)
              dsimp only [Pt.U, Pt.locs, Pt.cells, Pt.slots] at Xw322 l322 y322 z322 st322 hQ322 hs322 gr322 CQ322
              subst l322 y322 z322
              obtain ⟨X322, hS322, hZ322, hown322⟩ := rebS hS (by rw [e318]; exact (Nat.le_trans (Nat.le_trans hk E316.1) E318.1)) Xw322 hs322 gr322 hZ hown
              obtain ⟨rfl, N322q, K322, Y322⟩ := hQ322
              have N322 := Fr.app N0 N322q
              refine own_trH st322 ?_
              have CR323 := CQ322
              have CH323 := CH319.trans CR323
              show own_ComesH Z p e below s _ _ _ (T322.setTop (mkF m 209 #[.val (.int p0), .val (.int p1), .val (.int p2), .val (.int p3), .val (.int (p0 &&& (7 : Int32))), .val (.int ((p1 &&& (255 : Int32)).toUInt32.toUInt16.toUInt32.toInt32)), .val (.int ((((p1.toUInt32 >>> ((8 : Int32) &&& 31).toUInt32).toInt32) &&& (255 : Int32)).toUInt32.toUInt16.toUInt32.toInt32)), .unset, .unset, .unset, .unset, .unset, .unset, .unset, .unset, .unset, .unset] [(.ref b316)]))
              have hSb316 := Y322
              refine own_byH (fun _ kS => XS.astore X322.here hx rfl (hb hby at_209) rfl rfl (l' := #[.val (.int p0), .val (.int p1), .val (.int p2), .val (.int p3), .val (.int (p0 &&& (7 : Int32))), .val (.int ((p1 &&& (255 : Int32)).toUInt32.toUInt16.toUInt32.toInt32)), .val (.int ((((p1.toUInt32 >>> ((8 : Int32) &&& 31).toUInt32).toInt32) &&& (255 : Int32)).toUInt32.toUInt16.toUInt32.toInt32)), .val (.ref b316), .unset, .unset, .unset, .unset, .unset, .unset, .unset, .unset, .unset]) rfl kS) ?_
              show own_ComesH Z p e below s _ _ _ (T322.setTop (mkF m 211 #[.val (.int p0), .val (.int p1), .val (.int p2), .val (.int p3), .val (.int (p0 &&& (7 : Int32))), .val (.int ((p1 &&& (255 : Int32)).toUInt32.toUInt16.toUInt32.toInt32)), .val (.int ((((p1.toUInt32 >>> ((8 : Int32) &&& 31).toUInt32).toInt32) &&& (255 : Int32)).toUInt32.toUInt16.toUInt32.toInt32)), .val (.ref b316), .unset, .unset, .unset, .unset, .unset, .unset, .unset, .unset, .unset] []))
              refine own_byH (fun _ kS => XS.iconst X322.here hx rfl (hb hby at_211) kS) ?_
              show own_ComesH Z p e below s _ _ _ (T322.setTop (mkF m 212 #[.val (.int p0), .val (.int p1), .val (.int p2), .val (.int p3), .val (.int (p0 &&& (7 : Int32))), .val (.int ((p1 &&& (255 : Int32)).toUInt32.toUInt16.toUInt32.toInt32)), .val (.int ((((p1.toUInt32 >>> ((8 : Int32) &&& 31).toUInt32).toInt32) &&& (255 : Int32)).toUInt32.toUInt16.toUInt32.toInt32)), .val (.ref b316), .unset, .unset, .unset, .unset, .unset, .unset, .unset, .unset, .unset] [(.int (0 : Int32))]))
              refine own_byH (fun _ kS => XS.istore X322.here hx rfl (hb hby at_212) rfl (l' := #[.val (.int p0), .val (.int p1), .val (.int p2), .val (.int p3), .val (.int (p0 &&& (7 : Int32))), .val (.int ((p1 &&& (255 : Int32)).toUInt32.toUInt16.toUInt32.toInt32)), .val (.int ((((p1.toUInt32 >>> ((8 : Int32) &&& 31).toUInt32).toInt32) &&& (255 : Int32)).toUInt32.toUInt16.toUInt32.toInt32)), .val (.ref b316), .val (.int (0 : Int32)), .unset, .unset, .unset, .unset, .unset, .unset, .unset, .unset]) rfl kS) ?_
              show own_ComesH Z p e below s _ _ _ (T322.setTop (mkF m 214 #[.val (.int p0), .val (.int p1), .val (.int p2), .val (.int p3), .val (.int (p0 &&& (7 : Int32))), .val (.int ((p1 &&& (255 : Int32)).toUInt32.toUInt16.toUInt32.toInt32)), .val (.int ((((p1.toUInt32 >>> ((8 : Int32) &&& 31).toUInt32).toInt32) &&& (255 : Int32)).toUInt32.toUInt16.toUInt32.toInt32)), .val (.ref b316), .val (.int (0 : Int32)), .unset, .unset, .unset, .unset, .unset, .unset, .unset, .unset] []))
              refine own_byH (fun _ kS => XS.goto X322.here hx rfl (pc0 := 214) (pc' := 299) rfl (hb hby at_214) (by decide) (by decide) kS) ?_
              show own_ComesH Z p e below s _ _ _ (T322.setTop (mkF m 299 #[.val (.int p0), .val (.int p1), .val (.int p2), .val (.int p3), .val (.int (p0 &&& (7 : Int32))), .val (.int ((p1 &&& (255 : Int32)).toUInt32.toUInt16.toUInt32.toInt32)), .val (.int ((((p1.toUInt32 >>> ((8 : Int32) &&& 31).toUInt32).toInt32) &&& (255 : Int32)).toUInt32.toUInt16.toUInt32.toInt32)), .val (.ref b316), .val (.int (0 : Int32)), .unset, .unset, .unset, .unset, .unset, .unset, .unset, .unset] []))
              have c324 := (O0.ext (own_ext ((((Keep.refl _ []).ext E316).ext E318).trans K322 (allS (Or.inr sz_b316) all0))))
              exact J299 _ _ _ _ _ (.ref b316) (0 : Int32) (X322.more (by decide) (by decide)) rfl hZ322 hown322 hS322 (Nat.le_refl (Array.size T322.heap)) CH323 N322 c324 (Nat.le_trans (Nat.le_trans (Nat.le_trans Z0 E316.1) E318.1) K322.1) (Or.inr ⟨_, _, rfl, hSb316, Or.inr ⟨own_n0, rfl⟩⟩)
            · refine own_byH (fun _ kS => XS.icmpYes X0.here hx rfl (pc0 := 196) (pc' := 217) rfl (hb hby at_196) rfl (feq hm5).2 (by decide) (by decide) kS) ?_
              show own_ComesH Z p e below s _ _ _ (s₁.setTop (mkF m 217 #[.val (.int p0), .val (.int p1), .val (.int p2), .val (.int p3), .val (.int (p0 &&& (7 : Int32))), .val (.int ((p1 &&& (255 : Int32)).toUInt32.toUInt16.toUInt32.toInt32)), .val (.int ((((p1.toUInt32 >>> ((8 : Int32) &&& 31).toUInt32).toInt32) &&& (255 : Int32)).toUInt32.toUInt16.toUInt32.toInt32)), .unset, .unset, .unset, .unset, .unset, .unset, .unset, .unset, .unset, .unset] []))
              refine own_byH (fun _ kS => XS.iload X0.here hx rfl (hb hby at_217) rfl kS) ?_
              show own_ComesH Z p e below s _ _ _ (s₁.setTop (mkF m 219 #[.val (.int p0), .val (.int p1), .val (.int p2), .val (.int p3), .val (.int (p0 &&& (7 : Int32))), .val (.int ((p1 &&& (255 : Int32)).toUInt32.toUInt16.toUInt32.toInt32)), .val (.int ((((p1.toUInt32 >>> ((8 : Int32) &&& 31).toUInt32).toInt32) &&& (255 : Int32)).toUInt32.toUInt16.toUInt32.toInt32)), .unset, .unset, .unset, .unset, .unset, .unset, .unset, .unset, .unset, .unset] [(.int (p0 &&& (7 : Int32)))]))
              refine own_byH (fun _ kS => XS.bipush X0.here hx rfl (hb hby at_219) kS) ?_
              show own_ComesH Z p e below s _ _ _ (s₁.setTop (mkF m 221 #[.val (.int p0), .val (.int p1), .val (.int p2), .val (.int p3), .val (.int (p0 &&& (7 : Int32))), .val (.int ((p1 &&& (255 : Int32)).toUInt32.toUInt16.toUInt32.toInt32)), .val (.int ((((p1.toUInt32 >>> ((8 : Int32) &&& 31).toUInt32).toInt32) &&& (255 : Int32)).toUInt32.toUInt16.toUInt32.toInt32)), .unset, .unset, .unset, .unset, .unset, .unset, .unset, .unset, .unset, .unset] [(.int (6 : Int32)), (.int (p0 &&& (7 : Int32)))]))
              by_cases hm6 : (p0 &&& (7 : Int32)) = (6 : Int32)
              · refine own_byH (fun _ kS => XS.icmpNo X0.here hx rfl (hb hby at_221) rfl (teq hm6).2 kS) ?_
                show own_ComesH Z p e below s _ _ _ (s₁.setTop (mkF m 224 #[.val (.int p0), .val (.int p1), .val (.int p2), .val (.int p3), .val (.int (p0 &&& (7 : Int32))), .val (.int ((p1 &&& (255 : Int32)).toUInt32.toUInt16.toUInt32.toInt32)), .val (.int ((((p1.toUInt32 >>> ((8 : Int32) &&& 31).toUInt32).toInt32) &&& (255 : Int32)).toUInt32.toUInt16.toUInt32.toInt32)), .unset, .unset, .unset, .unset, .unset, .unset, .unset, .unset, .unset, .unset] []))
                obtain ⟨T325, h325, X325, e325, E325, A325, D325, -, st325⟩ := newO X0 hx hZ hown (hw _ (List.mem_of_getElem? (i := 0) rfl)) (hw _ (List.mem_of_getElem? (i := 1) rfl)) (hw _ (List.mem_of_getElem? (i := 2) rfl)) e0 (g := (mkF m 224 #[.val (.int p0), .val (.int p1), .val (.int p2), .val (.int p3), .val (.int (p0 &&& (7 : Int32))), .val (.int ((p1 &&& (255 : Int32)).toUInt32.toUInt16.toUInt32.toInt32)), .val (.int ((((p1.toUInt32 >>> ((8 : Int32) &&& 31).toUInt32).toInt32) &&& (255 : Int32)).toUInt32.toUInt16.toUInt32.toInt32)), .unset, .unset, .unset, .unset, .unset, .unset, .unset, .unset, .unset, .unset] [])) rfl (hb hby at_224) (by decide) (by decide)
                obtain ⟨b325, g325⟩ : ∃ z, z = h0.size := ⟨_, rfl⟩
                rw [← g325] at A325 D325 st325
                have g_b325 : n0 ≤ b325 := Nat.le_trans Z0 (Nat.le_of_eq g325.symm)
                refine own_byH st325 ?_
                have CR326 := CHr.ext E325 CH.1
                have CH326 := CH.trans CR326
                have sb325 := Safe.ext E325 CH.1 (Safe.new (Nat.le_of_eq g325.symm))
                show own_ComesH Z p e below s _ _ _ (T325.setTop (mkF m 227 #[.val (.int p0), .val (.int p1), .val (.int p2), .val (.int p3), .val (.int (p0 &&& (7 : Int32))), .val (.int ((p1 &&& (255 : Int32)).toUInt32.toUInt16.toUInt32.toInt32)), .val (.int ((((p1.toUInt32 >>> ((8 : Int32) &&& 31).toUInt32).toInt32) &&& (255 : Int32)).toUInt32.toUInt16.toUInt32.toInt32)), .unset, .unset, .unset, .unset, .unset, .unset, .unset, .unset, .unset, .unset] [(.ref b325)]))
                refine own_byH (fun _ kS => XS.dup X325.here hx rfl (hb hby at_227) rfl rfl kS) ?_
                show own_ComesH Z p e below s _ _ _ (T325.setTop (mkF m 228 #[.val (.int p0), .val (.int p1), .val (.int p2), .val (.int p3), .val (.int (p0 &&& (7 : Int32))), .val (.int ((p1 &&& (255 : Int32)).toUInt32.toUInt16.toUInt32.toInt32)), .val (.int ((((p1.toUInt32 >>> ((8 : Int32) &&& 31).toUInt32).toInt32) &&& (255 : Int32)).toUInt32.toUInt16.toUInt32.toInt32)), .unset, .unset, .unset, .unset, .unset, .unset, .unset, .unset, .unset, .unset] [(.ref b325), (.ref b325)]))
                refine own_byH (fun _ kS => XS.iconst X325.here hx rfl (hb hby at_228) kS) ?_
                show own_ComesH Z p e below s _ _ _ (T325.setTop (mkF m 229 #[.val (.int p0), .val (.int p1), .val (.int p2), .val (.int p3), .val (.int (p0 &&& (7 : Int32))), .val (.int ((p1 &&& (255 : Int32)).toUInt32.toUInt16.toUInt32.toInt32)), .val (.int ((((p1.toUInt32 >>> ((8 : Int32) &&& 31).toUInt32).toInt32) &&& (255 : Int32)).toUInt32.toUInt16.toUInt32.toInt32)), .unset, .unset, .unset, .unset, .unset, .unset, .unset, .unset, .unset, .unset] [(.int (2 : Int32)), (.ref b325), (.ref b325)]))
                obtain ⟨T327, h327, k327, X327, e327, E327, A327, st327⟩ := newP X325 hx hZ (hw _ (List.mem_of_getElem? (i := 3) rfl)) e325 (g := (mkF m 229 #[.val (.int p0), .val (.int p1), .val (.int p2), .val (.int p3), .val (.int (p0 &&& (7 : Int32))), .val (.int ((p1 &&& (255 : Int32)).toUInt32.toUInt16.toUInt32.toInt32)), .val (.int ((((p1.toUInt32 >>> ((8 : Int32) &&& 31).toUInt32).toInt32) &&& (255 : Int32)).toUInt32.toUInt16.toUInt32.toInt32)), .unset, .unset, .unset, .unset, .unset, .unset, .unset, .unset, .unset, .unset] [(.int (2 : Int32)), (.ref b325), (.ref b325)])) rfl (hb hby at_229) rfl (by decide) (cap := 2) (by decide) (by decide) (by decide) (by decide)
                obtain ⟨b327, g327⟩ : ∃ z, z = h325.size := ⟨_, rfl⟩
                rw [← g327] at A327 st327
                have g_b327 : n0 ≤ b327 := Nat.le_trans (Nat.le_trans Z0 E325.1) (Nat.le_of_eq g327.symm)
                refine own_byH st327 ?_
                have CR328 := CHr.ext E327 CH326.1
                have CH328 := CH326.trans CR328
                have sb327 := Safe.ext E327 CH326.1 (Safe.new (Nat.le_of_eq g327.symm))
                have V_b327 : Arv Z h327 b327 k327 .char (2 : Int32) [(.int (0 : Int32)), (.int (0 : Int32))] (.int (0 : Int32)) := (Arv.new A327 (by decide)).pad (pad_rep [] (.int (0 : Int32)) 2)
                show own_ComesH Z p e below s _ _ _ (T327.setTop (mkF m 231 #[.val (.int p0), .val (.int p1), .val (.int p2), .val (.int p3), .val (.int (p0 &&& (7 : Int32))), .val (.int ((p1 &&& (255 : Int32)).toUInt32.toUInt16.toUInt32.toInt32)), .val (.int ((((p1.toUInt32 >>> ((8 : Int32) &&& 31).toUInt32).toInt32) &&& (255 : Int32)).toUInt32.toUInt16.toUInt32.toInt32)), .unset, .unset, .unset, .unset, .unset, .unset, .unset, .unset, .unset, .unset] [(.ref b327), (.ref b325), (.ref b325)]))
                have sz_b327 : h0.size ≤ b327 := Nat.le_trans ((Keep.refl _ []).ext E325).1 (Nat.le_of_eq g327.symm)
                have nA327 : b325 ≠ b327 := Nat.ne_of_lt (Nat.lt_of_lt_of_le A325.lt (Nat.le_of_eq g327.symm))
                have sz_b325 : h0.size ≤ b325 := Nat.le_of_eq g325.symm
                refine own_byH (fun _ kS => XS.dup X327.here hx rfl (hb hby at_231) rfl rfl kS) ?_
                show own_ComesH Z p e below s _ _ _ (T327.setTop (mkF m 232 #[.val (.int p0), .val (.int p1), .val (.int p2), .val (.int p3), .val (.int (p0 &&& (7 : Int32))), .val (.int ((p1 &&& (255 : Int32)).toUInt32.toUInt16.toUInt32.toInt32)), .val (.int ((((p1.toUInt32 >>> ((8 : Int32) &&& 31).toUInt32).toInt32) &&& (255 : Int32)).toUInt32.toUInt16.toUInt32.toInt32)), .unset, .unset, .unset, .unset, .unset, .unset, .unset, .unset, .unset, .unset] [(.ref b327), (.ref b327), (.ref b325), (.ref b325)]))
                refine own_byH (fun _ kS => XS.iconst X327.here hx rfl (hb hby at_232) kS) ?_
                show own_ComesH Z p e below s _ _ _ (T327.setTop (mkF m 233 #[.val (.int p0), .val (.int p1), .val (.int p2), .val (.int p3), .val (.int (p0 &&& (7 : Int32))), .val (.int ((p1 &&& (255 : Int32)).toUInt32.toUInt16.toUInt32.toInt32)), .val (.int ((((p1.toUInt32 >>> ((8 : Int32) &&& 31).toUInt32).toInt32) &&& (255 : Int32)).toUInt32.toUInt16.toUInt32.toInt32)), .unset, .unset, .unset, .unset, .unset, .unset, .unset, .unset, .unset, .unset] [(.int (0 : Int32)), (.ref b327), (.ref b327), (.ref b325), (.ref b325)]))
                refine own_byH (fun _ kS => XS.bipush X327.here hx rfl (hb hby at_233) kS) ?_
                show own_ComesH Z p e below s _ _ _ (T327.setTop (mkF m 235 #[.val (.int p0), .val (.int p1), .val (.int p2), .val (.int p3), .val (.int (p0 &&& (7 : Int32))), .val (.int ((p1 &&& (255 : Int32)).toUInt32.toUInt16.toUInt32.toInt32)), .val (.int ((((p1.toUInt32 >>> ((8 : Int32) &&& 31).toUInt32).toInt32) &&& (255 : Int32)).toUInt32.toUInt16.toUInt32.toInt32)), .unset, .unset, .unset, .unset, .unset, .unset, .unset, .unset, .unset, .unset] [(.int (49 : Int32)), (.int (0 : Int32)), (.ref b327), (.ref b327), (.ref b325), (.ref b325)]))
                have Vo329 := V_b327
                obtain ⟨cl329, Ar329, qA329, SA329, NA329, HA329, GA329⟩ := Vo329
                have hin329 : ¬ ((0 : Int32) < 0 ∨ cl329.slots.size ≤ ((0 : Int32)).toNatClampNeg) := inb_of SA329 ⟨by decide, by decide⟩
                obtain ⟨T330, h330, X330, e330, W330, st330⟩ := stC X327 hx hZ e327 Ar329 (j := (0 : Int32)) hin329 (g := (mkF m 235 #[.val (.int p0), .val (.int p1), .val (.int p2), .val (.int p3), .val (.int (p0 &&& (7 : Int32))), .val (.int ((p1 &&& (255 : Int32)).toUInt32.toUInt16.toUInt32.toInt32)), .val (.int ((((p1.toUInt32 >>> ((8 : Int32) &&& 31).toUInt32).toInt32) &&& (255 : Int32)).toUInt32.toUInt16.toUInt32.toInt32)), .unset, .unset, .unset, .unset, .unset, .unset, .unset, .unset, .unset, .unset] [(.int (49 : Int32)), (.int (0 : Int32)), (.ref b327), (.ref b327), (.ref b325), (.ref b325)])) rfl rfl (hb hby at_235)
                refine own_byH st330 ?_
                have V330 : Arv Z h330 b327 k327 .char (2 : Int32) [(.int (nar .char (49 : Int32))), (.int (0 : Int32))] (.int (0 : Int32)) := Arv.set Ar329 qA329 SA329 NA329 HA329 GA329 (by first | rfl | exact fits_nar_char _) W330 0 rfl (Nat.le_of_ble_eq_true rfl)
                have CR331 := CHr.wr W330 sb327 CH328.1
                have CH331 := CH328.trans CR331
                have N330 := Fr.snoc X330 N0 g_b327
                show own_ComesH Z p e below s _ _ _ (T330.setTop (mkF m 236 #[.val (.int p0), .val (.int p1), .val (.int p2), .val (.int p3), .val (.int (p0 &&& (7 : Int32))), .val (.int ((p1 &&& (255 : Int32)).toUInt32.toUInt16.toUInt32.toInt32)), .val (.int ((((p1.toUInt32 >>> ((8 : Int32) &&& 31).toUInt32).toInt32) &&& (255 : Int32)).toUInt32.toUInt16.toUInt32.toInt32)), .unset, .unset, .unset, .unset, .unset, .unset, .unset, .unset, .unset, .unset] [(.ref b327), (.ref b325), (.ref b325)]))
                refine own_byH (fun _ kS => XS.dup X330.here hx rfl (hb hby at_236) rfl rfl kS) ?_
                show own_ComesH Z p e below s _ _ _ (T330.setTop (mkF m 237 #[.val (.int p0), .val (.int p1), .val (.int p2), .val (.int p3), .val (.int (p0 &&& (7 : Int32))), .val (.int ((p1 &&& (255 : Int32)).toUInt32.toUInt16.toUInt32.toInt32)), .val (.int ((((p1.toUInt32 >>> ((8 : Int32) &&& 31).toUInt32).toInt32) &&& (255 : Int32)).toUInt32.toUInt16.toUInt32.toInt32)), .unset, .unset, .unset, .unset, .unset, .unset, .unset, .unset, .unset, .unset] [(.ref b327), (.ref b327), (.ref b325), (.ref b325)]))
                refine own_byH (fun _ kS => XS.iconst X330.here hx rfl (hb hby at_237) kS) ?_
                show own_ComesH Z p e below s _ _ _ (T330.setTop (mkF m 238 #[.val (.int p0), .val (.int p1), .val (.int p2), .val (.int p3), .val (.int (p0 &&& (7 : Int32))), .val (.int ((p1 &&& (255 : Int32)).toUInt32.toUInt16.toUInt32.toInt32)), .val (.int ((((p1.toUInt32 >>> ((8 : Int32) &&& 31).toUInt32).toInt32) &&& (255 : Int32)).toUInt32.toUInt16.toUInt32.toInt32)), .unset, .unset, .unset, .unset, .unset, .unset, .unset, .unset, .unset, .unset] [(.int (1 : Int32)), (.ref b327), (.ref b327), (.ref b325), (.ref b325)]))
                refine own_byH (fun _ kS => XS.iload X330.here hx rfl (hb hby at_238) rfl kS) ?_
                show own_ComesH Z p e below s _ _ _ (T330.setTop (mkF m 240 #[.val (.int p0), .val (.int p1), .val (.int p2), .val (.int p3), .val (.int (p0 &&& (7 : Int32))), .val (.int ((p1 &&& (255 : Int32)).toUInt32.toUInt16.toUInt32.toInt32)), .val (.int ((((p1.toUInt32 >>> ((8 : Int32) &&& 31).toUInt32).toInt32) &&& (255 : Int32)).toUInt32.toUInt16.toUInt32.toInt32)), .unset, .unset, .unset, .unset, .unset, .unset, .unset, .unset, .unset, .unset] [(.int ((p1 &&& (255 : Int32)).toUInt32.toUInt16.toUInt32.toInt32)), (.int (1 : Int32)), (.ref b327), (.ref b327), (.ref b325), (.ref b325)]))
                have Vo332 := V330
                obtain ⟨cl332, Ar332, qA332, SA332, NA332, HA332, GA332⟩ := Vo332
                have hin332 : ¬ ((1 : Int32) < 0 ∨ cl332.slots.size ≤ ((1 : Int32)).toNatClampNeg) := inb_of SA332 ⟨by decide, by decide⟩
                obtain ⟨T333, h333, X333, e333, W333, st333⟩ := stC X330 hx hZ e330 Ar332 (j := (1 : Int32)) hin332 (g := (mkF m 240 #[.val (.int p0), .val (.int p1), .val (.int p2), .val (.int p3), .val (.int (p0 &&& (7 : Int32))), .val (.int ((p1 &&& (255 : Int32)).toUInt32.toUInt16.toUInt32.toInt32)), .val (.int ((((p1.toUInt32 >>> ((8 : Int32) &&& 31).toUInt32).toInt32) &&& (255 : Int32)).toUInt32.toUInt16.toUInt32.toInt32)), .unset, .unset, .unset, .unset, .unset, .unset, .unset, .unset, .unset, .unset] [(.int ((p1 &&& (255 : Int32)).toUInt32.toUInt16.toUInt32.toInt32)), (.int (1 : Int32)), (.ref b327), (.ref b327), (.ref b325), (.ref b325)])) rfl rfl (hb hby at_240)
                refine own_byH st333 ?_
                have V333 : Arv Z h333 b327 k327 .char (2 : Int32) [(.int (nar .char (49 : Int32))), (.int (nar .char ((p1 &&& (255 : Int32)).toUInt32.toUInt16.toUInt32.toInt32)))] (.int (0 : Int32)) := Arv.set Ar332 qA332 SA332 NA332 HA332 GA332 (by first | rfl | exact fits_nar_char _) W333 1 rfl (Nat.le_of_ble_eq_true rfl)
                have sf335 := CR331.safe A327.lt sb327
                have CR334 := CHr.wr W333 sf335 CH331.1
                have CH334 := CH331.trans CR334
                have N333 := Fr.snoc X333 N330 g_b327
                show own_ComesH Z p e below s _ _ _ (T333.setTop (mkF m 241 #[.val (.int p0), .val (.int p1), .val (.int p2), .val (.int p3), .val (.int (p0 &&& (7 : Int32))), .val (.int ((p1 &&& (255 : Int32)).toUInt32.toUInt16.toUInt32.toInt32)), .val (.int ((((p1.toUInt32 >>> ((8 : Int32) &&& 31).toUInt32).toInt32) &&& (255 : Int32)).toUInt32.toUInt16.toUInt32.toInt32)), .unset, .unset, .unset, .unset, .unset, .unset, .unset, .unset, .unset, .unset] [(.ref b327), (.ref b325), (.ref b325)]))
                have Vc := V333
                simp only [own_narc hX, own_narc own_49] at Vc
                have hpb325 : ∀ c ∈ [(49 : Int32), ((p1 &&& (255 : Int32)).toUInt32.toUInt16.toUInt32.toInt32)], ¬ c < 0 ∧ ¬ (255 : Int32) < c := fun c hc => by
                  simp only [List.mem_cons, List.not_mem_nil, or_false] at hc
                  rcases hc with rfl | rfl
                  · exact own_49
                  · exact hX
                have c336 := ((((D325 (Or.inr (hw _ (List.mem_of_getElem? (i := 29) rfl))) (ty := (.array .byte)) (by decide)).ext E327).other W330 (Or.inl nA327)).other W333 (Or.inl nA327))
                have c337 := ((((D325 (Or.inr (hw _ (List.mem_of_getElem? (i := 27) rfl))) (ty := .byte) (by decide)).ext E327).other W330 (Or.inl nA327)).other W333 (Or.inl nA327))
                have c338 := ((((O0.ext E325).ext E327).wr W330 g_b327).wr W333 g_b327)
                obtain ⟨vv339, _, ⟨T339, L339, k339, n339⟩, -, X339, ⟨Lc339, hQ339, l339, y339, z339⟩, st339⟩ := X333.specialBack hx (y := (⟨"java/lang/String", "<init>", "([C)V"⟩ : MethodName)) rfl hown (mvT hZ (hw _ (List.mem_of_getElem? (i := 4) rfl))) (mvT hZ (hw _ (List.mem_of_getElem? (i := 5) rfl))) (mvT hZ (hw _ (List.mem_of_getElem? (i := 6) rfl))) (by decide) (StrChars.Road.backV (W := 1) hZ hws (kI := 4) (hw _ (List.mem_of_getElem? (i := 1) rfl)) (cs := [(49 : Int32), ((p1 &&& (255 : Int32)).toUInt32.toUInt16.toUInt32.toInt32)]) (bs := [(49 : Int32), ((p1 &&& (255 : Int32)).toUInt32.toUInt16.toUInt32.toInt32)].map (fun c => c.toInt8.toInt32)) (n := 2) (n0 := n0) g_b325 (Nat.le_trans (Nat.le_trans (Nat.le_trans (Nat.le_trans Z0 E325.1) E327.1) (Keep.of_wr W330).1) (Keep.of_wr W333).1) (((A325.ext E327).wr W330).wr W333) c336 c337 Vc (Sz.ext c338.2) hzc rfl rfl (by decide) (by decide) hpb325 rfl (by decide) (by decide)) (g := (mkF m 241 #[.val (.int p0), .val (.int p1), .val (.int p2), .val (.int p3), .val (.int (p0 &&& (7 : Int32))), .val (.int ((p1 &&& (255 : Int32)).toUInt32.toUInt16.toUInt32.toInt32)), .val (.int ((((p1.toUInt32 >>> ((8 : Int32) &&& 31).toUInt32).toInt32) &&& (255 : Int32)).toUInt32.toUInt16.toUInt32.toInt32)), .unset, .unset, .unset, .unset, .unset, .unset, .unset, .unset, .unset, .unset] [(.ref b327), (.ref b325), (.ref b325)])) rfl (by rw [hml]; rfl) (Steps.refl _) (a := b325) (argsL := [(.ref b327)]) (rest := [(.ref b325)]) (lenOf pd___C_V_325 rfl) rfl (by show 2 * 0 + _ ≤ _; exact Nat.le_of_eq rfl) (hb hby at_241) (fun _ _ => ⟨rfl, e333, (by decide : 2 + 1 ≤ _), (by decide : 6 + 2 ≤ _)⟩)
                dsimp only [Pt.U, Pt.locs, Pt.cells, Pt.slots] at X339 l339 y339 z339 st339 hQ339
                subst l339 y339 z339
                obtain ⟨rfl, N339q, K339, Eb339, Cb339, t339, kb339, _, _, _, Vb339, Ab339⟩ := hQ339
                have N339 := Fr.app N333 N339q
                refine own_trH st339 ?_
                have sf341 := (CR328.trans (CR331.trans CR334)).safe A325.lt sb325
                have CR340 := CHr.keep K339 (sfS sf341 sf0) CH334.1
                have CH340 := CH334.trans CR340
                show own_ComesH Z p e below s _ _ _ (T339.setTop (mkF m 244 #[.val (.int p0), .val (.int p1), .val (.int p2), .val (.int p3), .val (.int (p0 &&& (7 : Int32))), .val (.int ((p1 &&& (255 : Int32)).toUInt32.toUInt16.toUInt32.toInt32)), .val (.int ((((p1.toUInt32 >>> ((8 : Int32) &&& 31).toUInt32).toInt32) &&& (255 : Int32)).toUInt32.toUInt16.toUInt32.toInt32)), .unset, .unset, .unset, .unset, .unset, .unset, .unset, .unset, .unset, .unset] [(.ref b325)]))
                have hSb325 : own_Str Z T339.heap b325 [(49 : Int32), ((p1 &&& (255 : Int32)).toUInt32.toUInt16.toUInt32.toInt32)] := ⟨Eb339, t339, kb339, _, _, Vb339, Cb339, Ab339, StrChars.Road.codOf rfl (fun c hc => (hpb325 c hc).2), fun c hc => own_up (hpb325 c hc), Nat.le_of_ble_eq_true rfl⟩
                refine own_byH (fun _ kS => XS.astore X339.here hx rfl (hb hby at_244) rfl rfl (l' := #[.val (.int p0), .val (.int p1), .val (.int p2), .val (.int p3), .val (.int (p0 &&& (7 : Int32))), .val (.int ((p1 &&& (255 : Int32)).toUInt32.toUInt16.toUInt32.toInt32)), .val (.int ((((p1.toUInt32 >>> ((8 : Int32) &&& 31).toUInt32).toInt32) &&& (255 : Int32)).toUInt32.toUInt16.toUInt32.toInt32)), .val (.ref b325), .unset, .unset, .unset, .unset, .unset, .unset, .unset, .unset, .unset]) rfl kS) ?_
                show own_ComesH Z p e below s _ _ _ (T339.setTop (mkF m 246 #[.val (.int p0), .val (.int p1), .val (.int p2), .val (.int p3), .val (.int (p0 &&& (7 : Int32))), .val (.int ((p1 &&& (255 : Int32)).toUInt32.toUInt16.toUInt32.toInt32)), .val (.int ((((p1.toUInt32 >>> ((8 : Int32) &&& 31).toUInt32).toInt32) &&& (255 : Int32)).toUInt32.toUInt16.toUInt32.toInt32)), .val (.ref b325), .unset, .unset, .unset, .unset, .unset, .unset, .unset, .unset, .unset] []))
                refine own_byH (fun _ kS => XS.iload X339.here hx rfl (hb hby at_246) rfl kS) ?_
                show own_ComesH Z p e below s _ _ _ (T339.setTop (mkF m 248 #[.val (.int p0), .val (.int p1), .val (.int p2), .val (.int p3), .val (.int (p0 &&& (7 : Int32))), .val (.int ((p1 &&& (255 : Int32)).toUInt32.toUInt16.toUInt32.toInt32)), .val (.int ((((p1.toUInt32 >>> ((8 : Int32) &&& 31).toUInt32).toInt32) &&& (255 : Int32)).toUInt32.toUInt16.toUInt32.toInt32)), .val (.ref b325), .unset, .unset, .unset, .unset, .unset, .unset, .unset, .unset, .unset] [(.int ((p1 &&& (255 : Int32)).toUInt32.toUInt16.toUInt32.toInt32))]))
                refine own_byH (fun _ kS => XS.bipush X339.here hx rfl (hb hby at_248) kS) ?_
                show own_ComesH Z p e below s _ _ _ (T339.setTop (mkF m 250 #[.val (.int p0), .val (.int p1), .val (.int p2), .val (.int p3), .val (.int (p0 &&& (7 : Int32))), .val (.int ((p1 &&& (255 : Int32)).toUInt32.toUInt16.toUInt32.toInt32)), .val (.int ((((p1.toUInt32 >>> ((8 : Int32) &&& 31).toUInt32).toInt32) &&& (255 : Int32)).toUInt32.toUInt16.toUInt32.toInt32)), .val (.ref b325), .unset, .unset, .unset, .unset, .unset, .unset, .unset, .unset, .unset] [(.int (50 : Int32)), (.int ((p1 &&& (255 : Int32)).toUInt32.toUInt16.toUInt32.toInt32))]))
                by_cases hx2 : ((p1 &&& (255 : Int32)).toUInt32.toUInt16.toUInt32.toInt32) = (50 : Int32)
                · refine own_byH (fun _ kS => XS.icmpNo X339.here hx rfl (hb hby at_250) rfl (teq hx2).2 kS) ?_
                  show own_ComesH Z p e below s _ _ _ (T339.setTop (mkF m 253 #[.val (.int p0), .val (.int p1), .val (.int p2), .val (.int p3), .val (.int (p0 &&& (7 : Int32))), .val (.int ((p1 &&& (255 : Int32)).toUInt32.toUInt16.toUInt32.toInt32)), .val (.int ((((p1.toUInt32 >>> ((8 : Int32) &&& 31).toUInt32).toInt32) &&& (255 : Int32)).toUInt32.toUInt16.toUInt32.toInt32)), .val (.ref b325), .unset, .unset, .unset, .unset, .unset, .unset, .unset, .unset, .unset] []))
                  refine own_byH (fun _ kS => XS.iconst X339.here hx rfl (hb hby at_253) kS) ?_
                  show own_ComesH Z p e below s _ _ _ (T339.setTop (mkF m 254 #[.val (.int p0), .val (.int p1), .val (.int p2), .val (.int p3), .val (.int (p0 &&& (7 : Int32))), .val (.int ((p1 &&& (255 : Int32)).toUInt32.toUInt16.toUInt32.toInt32)), .val (.int ((((p1.toUInt32 >>> ((8 : Int32) &&& 31).toUInt32).toInt32) &&& (255 : Int32)).toUInt32.toUInt16.toUInt32.toInt32)), .val (.ref b325), .unset, .unset, .unset, .unset, .unset, .unset, .unset, .unset, .unset] [(.int (1 : Int32))]))
                  refine own_byH (fun _ kS => XS.goto X339.here hx rfl (pc0 := 254) (pc' := 258) rfl (hb hby at_254) (by decide) (by decide) kS) ?_
                  show own_ComesH Z p e below s _ _ _ (T339.setTop (mkF m 258 #[.val (.int p0), .val (.int p1), .val (.int p2), .val (.int p3), .val (.int (p0 &&& (7 : Int32))), .val (.int ((p1 &&& (255 : Int32)).toUInt32.toUInt16.toUInt32.toInt32)), .val (.int ((((p1.toUInt32 >>> ((8 : Int32) &&& 31).toUInt32).toInt32) &&& (255 : Int32)).toUInt32.toUInt16.toUInt32.toInt32)), .val (.ref b325), .unset, .unset, .unset, .unset, .unset, .unset, .unset, .unset, .unset] [(.int (1 : Int32))]))
                  refine own_byH (fun _ kS => XS.istore X339.here hx rfl (hb hby at_258) rfl (l' := #[.val (.int p0), .val (.int p1), .val (.int p2), .val (.int p3), .val (.int (p0 &&& (7 : Int32))), .val (.int ((p1 &&& (255 : Int32)).toUInt32.toUInt16.toUInt32.toInt32)), .val (.int ((((p1.toUInt32 >>> ((8 : Int32) &&& 31).toUInt32).toInt32) &&& (255 : Int32)).toUInt32.toUInt16.toUInt32.toInt32)), .val (.ref b325), .val (.int (1 : Int32)), .unset, .unset, .unset, .unset, .unset, .unset, .unset, .unset]) rfl kS) ?_
                  show own_ComesH Z p e below s _ _ _ (T339.setTop (mkF m 260 #[.val (.int p0), .val (.int p1), .val (.int p2), .val (.int p3), .val (.int (p0 &&& (7 : Int32))), .val (.int ((p1 &&& (255 : Int32)).toUInt32.toUInt16.toUInt32.toInt32)), .val (.int ((((p1.toUInt32 >>> ((8 : Int32) &&& 31).toUInt32).toInt32) &&& (255 : Int32)).toUInt32.toUInt16.toUInt32.toInt32)), .val (.ref b325), .val (.int (1 : Int32)), .unset, .unset, .unset, .unset, .unset, .unset, .unset, .unset] []))
                  refine own_byH (fun _ kS => XS.goto X339.here hx rfl (pc0 := 260) (pc' := 299) rfl (hb hby at_260) (by decide) (by decide) kS) ?_
                  show own_ComesH Z p e below s _ _ _ (T339.setTop (mkF m 299 #[.val (.int p0), .val (.int p1), .val (.int p2), .val (.int p3), .val (.int (p0 &&& (7 : Int32))), .val (.int ((p1 &&& (255 : Int32)).toUInt32.toUInt16.toUInt32.toInt32)), .val (.int ((((p1.toUInt32 >>> ((8 : Int32) &&& 31).toUInt32).toInt32) &&& (255 : Int32)).toUInt32.toUInt16.toUInt32.toInt32)), .val (.ref b325), .val (.int (1 : Int32)), .unset, .unset, .unset, .unset, .unset, .unset, .unset, .unset] []))
                  exact J299 _ _ _ _ _ (.ref b325) (1 : Int32) (X339.more (by decide) (by decide)) rfl hZ hown hS (Nat.le_trans (Nat.le_trans (Nat.le_trans (Nat.le_trans (Nat.le_trans hk E325.1) E327.1) (Keep.of_wr W330).1) (Keep.of_wr W333).1) K339.1) CH340 N339 (c338.keep K339 (allS g_b325 all0)) (Nat.le_trans (Nat.le_trans (Nat.le_trans (Nat.le_trans (Nat.le_trans Z0 E325.1) E327.1) (Keep.of_wr W330).1) (Keep.of_wr W333).1) K339.1) (Or.inr ⟨_, _, rfl, hSb325, Or.inl ⟨own_y2 rfl hx2, rfl⟩⟩)
                · refine own_byH (fun _ kS => XS.icmpYes X339.here hx rfl (pc0 := 250) (pc' := 257) rfl (hb hby at_250) rfl (feq hx2).2 (by decide) (by decide) kS) ?_
                  show own_ComesH Z p e below s _ _ _ (T339.setTop (mkF m 257 #[.val (.int p0), .val (.int p1), .val (.int p2), .val (.int p3), .val (.int (p0 &&& (7 : Int32))), .val (.int ((p1 &&& (255 : Int32)).toUInt32.toUInt16.toUInt32.toInt32)), .val (.int ((((p1.toUInt32 >>> ((8 : Int32) &&& 31).toUInt32).toInt32) &&& (255 : Int32)).toUInt32.toUInt16.toUInt32.toInt32)), .val (.ref b325), .unset, .unset, .unset, .unset, .unset, .unset, .unset, .unset, .unset] []))
                  refine own_byH (fun _ kS => XS.iconst X339.here hx rfl (hb hby at_257) kS) ?_
                  show own_ComesH Z p e below s _ _ _ (T339.setTop (mkF m 258 #[.val (.int p0), .val (.int p1), .val (.int p2), .val (.int p3), .val (.int (p0 &&& (7 : Int32))), .val (.int ((p1 &&& (255 : Int32)).toUInt32.toUInt16.toUInt32.toInt32)), .val (.int ((((p1.toUInt32 >>> ((8 : Int32) &&& 31).toUInt32).toInt32) &&& (255 : Int32)).toUInt32.toUInt16.toUInt32.toInt32)), .val (.ref b325), .unset, .unset, .unset, .unset, .unset, .unset, .unset, .unset, .unset] [(.int (0 : Int32))]))
                  refine own_byH (fun _ kS => XS.istore X339.here hx rfl (hb hby at_258) rfl (l' := #[.val (.int p0), .val (.int p1), .val (.int p2), .val (.int p3), .val (.int (p0 &&& (7 : Int32))), .val (.int ((p1 &&& (255 : Int32)).toUInt32.toUInt16.toUInt32.toInt32)), .val (.int ((((p1.toUInt32 >>> ((8 : Int32) &&& 31).toUInt32).toInt32) &&& (255 : Int32)).toUInt32.toUInt16.toUInt32.toInt32)), .val (.ref b325), .val (.int (0 : Int32)), .unset, .unset, .unset, .unset, .unset, .unset, .unset, .unset]) rfl kS) ?_
                  show own_ComesH Z p e below s _ _ _ (T339.setTop (mkF m 260 #[.val (.int p0), .val (.int p1), .val (.int p2), .val (.int p3), .val (.int (p0 &&& (7 : Int32))), .val (.int ((p1 &&& (255 : Int32)).toUInt32.toUInt16.toUInt32.toInt32)), .val (.int ((((p1.toUInt32 >>> ((8 : Int32) &&& 31).toUInt32).toInt32) &&& (255 : Int32)).toUInt32.toUInt16.toUInt32.toInt32)), .val (.ref b325), .val (.int (0 : Int32)), .unset, .unset, .unset, .unset, .unset, .unset, .unset, .unset] []))
                  refine own_byH (fun _ kS => XS.goto X339.here hx rfl (pc0 := 260) (pc' := 299) rfl (hb hby at_260) (by decide) (by decide) kS) ?_
                  show own_ComesH Z p e below s _ _ _ (T339.setTop (mkF m 299 #[.val (.int p0), .val (.int p1), .val (.int p2), .val (.int p3), .val (.int (p0 &&& (7 : Int32))), .val (.int ((p1 &&& (255 : Int32)).toUInt32.toUInt16.toUInt32.toInt32)), .val (.int ((((p1.toUInt32 >>> ((8 : Int32) &&& 31).toUInt32).toInt32) &&& (255 : Int32)).toUInt32.toUInt16.toUInt32.toInt32)), .val (.ref b325), .val (.int (0 : Int32)), .unset, .unset, .unset, .unset, .unset, .unset, .unset, .unset] []))
                  exact J299 _ _ _ _ _ (.ref b325) (0 : Int32) (X339.more (by decide) (by decide)) rfl hZ hown hS (Nat.le_trans (Nat.le_trans (Nat.le_trans (Nat.le_trans (Nat.le_trans hk E325.1) E327.1) (Keep.of_wr W330).1) (Keep.of_wr W333).1) K339.1) CH340 N339 (c338.keep K339 (allS g_b325 all0)) (Nat.le_trans (Nat.le_trans (Nat.le_trans (Nat.le_trans (Nat.le_trans Z0 E325.1) E327.1) (Keep.of_wr W330).1) (Keep.of_wr W333).1) K339.1) (Or.inr ⟨_, _, rfl, hSb325, Or.inr ⟨own_n2b hx2, rfl⟩⟩)
              · refine own_byH (fun _ kS => XS.icmpYes X0.here hx rfl (pc0 := 221) (pc' := 263) rfl (hb hby at_221) rfl (feq hm6).2 (by decide) (by decide) kS) ?_
                show own_ComesH Z p e below s _ _ _ (s₁.setTop (mkF m 263 #[.val (.int p0), .val (.int p1), .val (.int p2), .val (.int p3), .val (.int (p0 &&& (7 : Int32))), .val (.int ((p1 &&& (255 : Int32)).toUInt32.toUInt16.toUInt32.toInt32)), .val (.int ((((p1.toUInt32 >>> ((8 : Int32) &&& 31).toUInt32).toInt32) &&& (255 : Int32)).toUInt32.toUInt16.toUInt32.toInt32)), .unset, .unset, .unset, .unset, .unset, .unset, .unset, .unset, .unset, .unset] []))
                obtain ⟨T342, h342, X342, e342, E342, A342, D342, -, st342⟩ := newO X0 hx hZ hown (hw _ (List.mem_of_getElem? (i := 0) rfl)) (hw _ (List.mem_of_getElem? (i := 1) rfl)) (hw _ (List.mem_of_getElem? (i := 2) rfl)) e0 (g := (mkF m 263 #[.val (.int p0), .val (.int p1), .val (.int p2), .val (.int p3), .val (.int (p0 &&& (7 : Int32))), .val (.int ((p1 &&& (255 : Int32)).toUInt32.toUInt16.toUInt32.toInt32)), .val (.int ((((p1.toUInt32 >>> ((8 : Int32) &&& 31).toUInt32).toInt32) &&& (255 : Int32)).toUInt32.toUInt16.toUInt32.toInt32)), .unset, .unset, .unset, .unset, .unset, .unset, .unset, .unset, .unset, .unset] [])) rfl (hb hby at_263) (by decide) (by decide)
                obtain ⟨b342, g342⟩ : ∃ z, z = h0.size := ⟨_, rfl⟩
                rw [← g342] at A342 D342 st342
                have g_b342 : n0 ≤ b342 := Nat.le_trans Z0 (Nat.le_of_eq g342.symm)
                refine own_byH st342 ?_
                have CR343 := CHr.ext E342 CH.1
                have CH343 := CH.trans CR343
                have sb342 := Safe.ext E342 CH.1 (Safe.new (Nat.le_of_eq g342.symm))
                show own_ComesH Z p e below s _ _ _ (T342.setTop (mkF m 266 #[.val (.int p0), .val (.int p1), .val (.int p2), .val (.int p3), .val (.int (p0 &&& (7 : Int32))), .val (.int ((p1 &&& (255 : Int32)).toUInt32.toUInt16.toUInt32.toInt32)), .val (.int ((((p1.toUInt32 >>> ((8 : Int32) &&& 31).toUInt32).toInt32) &&& (255 : Int32)).toUInt32.toUInt16.toUInt32.toInt32)), .unset, .unset, .unset, .unset, .unset, .unset, .unset, .unset, .unset, .unset] [(.ref b342)]))
                refine own_byH (fun _ kS => XS.dup X342.here hx rfl (hb hby at_266) rfl rfl kS) ?_
                show own_ComesH Z p e below s _ _ _ (T342.setTop (mkF m 267 #[.val (.int p0), .val (.int p1), .val (.int p2), .val (.int p3), .val (.int (p0 &&& (7 : Int32))), .val (.int ((p1 &&& (255 : Int32)).toUInt32.toUInt16.toUInt32.toInt32)), .val (.int ((((p1.toUInt32 >>> ((8 : Int32) &&& 31).toUInt32).toInt32) &&& (255 : Int32)).toUInt32.toUInt16.toUInt32.toInt32)), .unset, .unset, .unset, .unset, .unset, .unset, .unset, .unset, .unset, .unset] [(.ref b342), (.ref b342)]))
                refine own_byH (fun _ kS => XS.iconst X342.here hx rfl (hb hby at_267) kS) ?_
                show own_ComesH Z p e below s _ _ _ (T342.setTop (mkF m 268 #[.val (.int p0), .val (.int p1), .val (.int p2), .val (.int p3), .val (.int (p0 &&& (7 : Int32))), .val (.int ((p1 &&& (255 : Int32)).toUInt32.toUInt16.toUInt32.toInt32)), .val (.int ((((p1.toUInt32 >>> ((8 : Int32) &&& 31).toUInt32).toInt32) &&& (255 : Int32)).toUInt32.toUInt16.toUInt32.toInt32)), .unset, .unset, .unset, .unset, .unset, .unset, .unset, .unset, .unset, .unset] [(.int (2 : Int32)), (.ref b342), (.ref b342)]))
                obtain ⟨T344, h344, k344, X344, e344, E344, A344, st344⟩ := newP X342 hx hZ (hw _ (List.mem_of_getElem? (i := 3) rfl)) e342 (g := (mkF m 268 #[.val (.int p0), .val (.int p1), .val (.int p2), .val (.int p3), .val (.int (p0 &&& (7 : Int32))), .val (.int ((p1 &&& (255 : Int32)).toUInt32.toUInt16.toUInt32.toInt32)), .val (.int ((((p1.toUInt32 >>> ((8 : Int32) &&& 31).toUInt32).toInt32) &&& (255 : Int32)).toUInt32.toUInt16.toUInt32.toInt32)), .unset, .unset, .unset, .unset, .unset, .unset, .unset, .unset, .unset, .unset] [(.int (2 : Int32)), (.ref b342), (.ref b342)])) rfl (hb hby at_268) rfl (by decide) (cap := 2) (by decide) (by decide) (by decide) (by decide)
                obtain ⟨b344, g344⟩ : ∃ z, z = h342.size := ⟨_, rfl⟩
                rw [← g344] at A344 st344
                have g_b344 : n0 ≤ b344 := Nat.le_trans (Nat.le_trans Z0 E342.1) (Nat.le_of_eq g344.symm)
                refine own_byH st344 ?_
                have CR345 := CHr.ext E344 CH343.1
                have CH345 := CH343.trans CR345
                have sb344 := Safe.ext E344 CH343.1 (Safe.new (Nat.le_of_eq g344.symm))
                have V_b344 : Arv Z h344 b344 k344 .char (2 : Int32) [(.int (0 : Int32)), (.int (0 : Int32))] (.int (0 : Int32)) := (Arv.new A344 (by decide)).pad (pad_rep [] (.int (0 : Int32)) 2)
                show own_ComesH Z p e below s _ _ _ (T344.setTop (mkF m 270 #[.val (.int p0), .val (.int p1), .val (.int p2), .val (.int p3), .val (.int (p0 &&& (7 : Int32))), .val (.int ((p1 &&& (255 : Int32)).toUInt32.toUInt16.toUInt32.toInt32)), .val (.int ((((p1.toUInt32 >>> ((8 : Int32) &&& 31).toUInt32).toInt32) &&& (255 : Int32)).toUInt32.toUInt16.toUInt32.toInt32)), .unset, .unset, .unset, .unset, .unset, .unset, .unset, .unset, .unset, .unset] [(.ref b344), (.ref b342), (.ref b342)]))
                have sz_b344 : h0.size ≤ b344 := Nat.le_trans ((Keep.refl _ []).ext E342).1 (Nat.le_of_eq g344.symm)
                have nA344 : b342 ≠ b344 := Nat.ne_of_lt (Nat.lt_of_lt_of_le A342.lt (Nat.le_of_eq g344.symm))
                have sz_b342 : h0.size ≤ b342 := Nat.le_of_eq g342.symm
                refine own_byH (fun _ kS => XS.dup X344.here hx rfl (hb hby at_270) rfl rfl kS) ?_
                show own_ComesH Z p e below s _ _ _ (T344.setTop (mkF m 271 #[.val (.int p0), .val (.int p1), .val (.int p2), .val (.int p3), .val (.int (p0 &&& (7 : Int32))), .val (.int ((p1 &&& (255 : Int32)).toUInt32.toUInt16.toUInt32.toInt32)), .val (.int ((((p1.toUInt32 >>> ((8 : Int32) &&& 31).toUInt32).toInt32) &&& (255 : Int32)).toUInt32.toUInt16.toUInt32.toInt32)), .unset, .unset, .unset, .unset, .unset, .unset, .unset, .unset, .unset, .unset] [(.ref b344), (.ref b344), (.ref b342), (.ref b342)]))
                refine own_byH (fun _ kS => XS.iconst X344.here hx rfl (hb hby at_271) kS) ?_
                show own_ComesH Z p e below s _ _ _ (T344.setTop (mkF m 272 #[.val (.int p0), .val (.int p1), .val (.int p2), .val (.int p3), .val (.int (p0 &&& (7 : Int32))), .val (.int ((p1 &&& (255 : Int32)).toUInt32.toUInt16.toUInt32.toInt32)), .val (.int ((((p1.toUInt32 >>> ((8 : Int32) &&& 31).toUInt32).toInt32) &&& (255 : Int32)).toUInt32.toUInt16.toUInt32.toInt32)), .unset, .unset, .unset, .unset, .unset, .unset, .unset, .unset, .unset, .unset] [(.int (0 : Int32)), (.ref b344), (.ref b344), (.ref b342), (.ref b342)]))
                refine own_byH (fun _ kS => XS.iload X344.here hx rfl (hb hby at_272) rfl kS) ?_
                show own_ComesH Z p e below s _ _ _ (T344.setTop (mkF m 274 #[.val (.int p0), .val (.int p1), .val (.int p2), .val (.int p3), .val (.int (p0 &&& (7 : Int32))), .val (.int ((p1 &&& (255 : Int32)).toUInt32.toUInt16.toUInt32.toInt32)), .val (.int ((((p1.toUInt32 >>> ((8 : Int32) &&& 31).toUInt32).toInt32) &&& (255 : Int32)).toUInt32.toUInt16.toUInt32.toInt32)), .unset, .unset, .unset, .unset, .unset, .unset, .unset, .unset, .unset, .unset] [(.int ((p1 &&& (255 : Int32)).toUInt32.toUInt16.toUInt32.toInt32)), (.int (0 : Int32)), (.ref b344), (.ref b344), (.ref b342), (.ref b342)]))
                have Vo346 := V_b344
                obtain ⟨cl346, Ar346, qA346, SA346, NA346, HA346, GA346⟩ := Vo346
                have hin346 : ¬ ((0 : Int32) < 0 ∨ cl346.slots.size ≤ ((0 : Int32)).toNatClampNeg) := inb_of SA346 ⟨by decide, by decide⟩
                obtain ⟨T347, h347, X347, e347, W347, st347⟩ := stC X344 hx hZ e344 Ar346 (j := (0 : Int32)) hin346 (g := (mkF m 274 #[.val (.int p0), .val (.int p1), .val (.int p2), .val (.int p3), .val (.int (p0 &&& (7 : Int32))), .val (.int ((p1 &&& (255 : Int32)).toUInt32.toUInt16.toUInt32.toInt32)), .val (.int ((((p1.toUInt32 >>> ((8 : Int32) &&& 31).toUInt32).toInt32) &&& (255 : Int32)).toUInt32.toUInt16.toUInt32.toInt32)), .unset, .unset, .unset, .unset, .unset, .unset, .unset, .unset, .unset, .unset] [(.int ((p1 &&& (255 : Int32)).toUInt32.toUInt16.toUInt32.toInt32)), (.int (0 : Int32)), (.ref b344), (.ref b344), (.ref b342), (.ref b342)])) rfl rfl (hb hby at_274)
                refine own_byH st347 ?_
                have V347 : Arv Z h347 b344 k344 .char (2 : Int32) [(.int (nar .char ((p1 &&& (255 : Int32)).toUInt32.toUInt16.toUInt32.toInt32))), (.int (0 : Int32))] (.int (0 : Int32)) := Arv.set Ar346 qA346 SA346 NA346 HA346 GA346 (by first | rfl | exact fits_nar_char _) W347 0 rfl (Nat.le_of_ble_eq_true rfl)
                have CR348 := CHr.wr W347 sb344 CH345.1
                have CH348 := CH345.trans CR348
                have N347 := Fr.snoc X347 N0 g_b344
                show own_ComesH Z p e below s _ _ _ (T347.setTop (mkF m 275 #[.val (.int p0), .val (.int p1), .val (.int p2), .val (.int p3), .val (.int (p0 &&& (7 : Int32))), .val (.int ((p1 &&& (255 : Int32)).toUInt32.toUInt16.toUInt32.toInt32)), .val (.int ((((p1.toUInt32 >>> ((8 : Int32) &&& 31).toUInt32).toInt32) &&& (255 : Int32)).toUInt32.toUInt16.toUInt32.toInt32)), .unset, .unset, .unset, .unset, .unset, .unset, .unset, .unset, .unset, .unset] [(.ref b344), (.ref b342), (.ref b342)]))
                refine own_byH (fun _ kS => XS.dup X347.here hx rfl (hb hby at_275) rfl rfl kS) ?_
                show own_ComesH Z p e below s _ _ _ (T347.setTop (mkF m 276 #[.val (.int p0), .val (.int p1), .val (.int p2), .val (.int p3), .val (.int (p0 &&& (7 : Int32))), .val (.int ((p1 &&& (255 : Int32)).toUInt32.toUInt16.toUInt32.toInt32)), .val (.int ((((p1.toUInt32 >>> ((8 : Int32) &&& 31).toUInt32).toInt32) &&& (255 : Int32)).toUInt32.toUInt16.toUInt32.toInt32)), .unset, .unset, .unset, .unset, .unset, .unset, .unset, .unset, .unset, .unset] [(.ref b344), (.ref b344), (.ref b342), (.ref b342)]))
                refine own_byH (fun _ kS => XS.iconst X347.here hx rfl (hb hby at_276) kS) ?_
                show own_ComesH Z p e below s _ _ _ (T347.setTop (mkF m 277 #[.val (.int p0), .val (.int p1), .val (.int p2), .val (.int p3), .val (.int (p0 &&& (7 : Int32))), .val (.int ((p1 &&& (255 : Int32)).toUInt32.toUInt16.toUInt32.toInt32)), .val (.int ((((p1.toUInt32 >>> ((8 : Int32) &&& 31).toUInt32).toInt32) &&& (255 : Int32)).toUInt32.toUInt16.toUInt32.toInt32)), .unset, .unset, .unset, .unset, .unset, .unset, .unset, .unset, .unset, .unset] [(.int (1 : Int32)), (.ref b344), (.ref b344), (.ref b342), (.ref b342)]))
                refine own_byH (fun _ kS => XS.bipush X347.here hx rfl (hb hby at_277) kS) ?_
                show own_ComesH Z p e below s _ _ _ (T347.setTop (mkF m 279 #[.val (.int p0), .val (.int p1), .val (.int p2), .val (.int p3), .val (.int (p0 &&& (7 : Int32))), .val (.int ((p1 &&& (255 : Int32)).toUInt32.toUInt16.toUInt32.toInt32)), .val (.int ((((p1.toUInt32 >>> ((8 : Int32) &&& 31).toUInt32).toInt32) &&& (255 : Int32)).toUInt32.toUInt16.toUInt32.toInt32)), .unset, .unset, .unset, .unset, .unset, .unset, .unset, .unset, .unset, .unset] [(.int (50 : Int32)), (.int (1 : Int32)), (.ref b344), (.ref b344), (.ref b342), (.ref b342)]))
                have Vo349 := V347
                obtain ⟨cl349, Ar349, qA349, SA349, NA349, HA349, GA349⟩ := Vo349
                have hin349 : ¬ ((1 : Int32) < 0 ∨ cl349.slots.size ≤ ((1 : Int32)).toNatClampNeg) := inb_of SA349 ⟨by decide, by decide⟩
                obtain ⟨T350, h350, X350, e350, W350, st350⟩ := stC X347 hx hZ e347 Ar349 (j := (1 : Int32)) hin349 (g := (mkF m 279 #[.val (.int p0), .val (.int p1), .val (.int p2), .val (.int p3), .val (.int (p0 &&& (7 : Int32))), .val (.int ((p1 &&& (255 : Int32)).toUInt32.toUInt16.toUInt32.toInt32)), .val (.int ((((p1.toUInt32 >>> ((8 : Int32) &&& 31).toUInt32).toInt32) &&& (255 : Int32)).toUInt32.toUInt16.toUInt32.toInt32)), .unset, .unset, .unset, .unset, .unset, .unset, .unset, .unset, .unset, .unset] [(.int (50 : Int32)), (.int (1 : Int32)), (.ref b344), (.ref b344), (.ref b342), (.ref b342)])) rfl rfl (hb hby at_279)
                refine own_byH st350 ?_
                have V350 : Arv Z h350 b344 k344 .char (2 : Int32) [(.int (nar .char ((p1 &&& (255 : Int32)).toUInt32.toUInt16.toUInt32.toInt32))), (.int (nar .char (50 : Int32)))] (.int (0 : Int32)) := Arv.set Ar349 qA349 SA349 NA349 HA349 GA349 (by first | rfl | exact fits_nar_char _) W350 1 rfl (Nat.le_of_ble_eq_true rfl)
                have sf352 := CR348.safe A344.lt sb344
                have CR351 := CHr.wr W350 sf352 CH348.1
                have CH351 := CH348.trans CR351
                have N350 := Fr.snoc X350 N347 g_b344
                show own_ComesH Z p e below s _ _ _ (T350.setTop (mkF m 280 #[.val (.int p0), .val (.int p1), .val (.int p2), .val (.int p3), .val (.int (p0 &&& (7 : Int32))), .val (.int ((p1 &&& (255 : Int32)).toUInt32.toUInt16.toUInt32.toInt32)), .val (.int ((((p1.toUInt32 >>> ((8 : Int32) &&& 31).toUInt32).toInt32) &&& (255 : Int32)).toUInt32.toUInt16.toUInt32.toInt32)), .unset, .unset, .unset, .unset, .unset, .unset, .unset, .unset, .unset, .unset] [(.ref b344), (.ref b342), (.ref b342)]))
                have Vc := V350
                simp only [own_narc hX, own_narc own_50] at Vc
                have hpb342 : ∀ c ∈ [((p1 &&& (255 : Int32)).toUInt32.toUInt16.toUInt32.toInt32), (50 : Int32)], ¬ c < 0 ∧ ¬ (255 : Int32) < c := fun c hc => by
                  simp only [List.mem_cons, List.not_mem_nil, or_false] at hc
                  rcases hc with rfl | rfl
                  · exact hX
                  · exact own_50
                have c353 := ((((D342 (Or.inr (hw _ (List.mem_of_getElem? (i := 29) rfl))) (ty := (.array .byte)) (by decide)).ext E344).other W347 (Or.inl nA344)).other W350 (Or.inl nA344))
                have c354 := ((((D342 (Or.inr (hw _ (List.mem_of_getElem? (i := 27) rfl))) (ty := .byte) (by decide)).ext E344).other W347 (Or.inl nA344)).other W350 (Or.inl nA344))
                have c355 := ((((O0.ext E342).ext E344).wr W347 g_b344).wr W350 g_b344)
                obtain ⟨vv356, _, ⟨T356, L356, k356, n356⟩, -, X356, ⟨Lc356, hQ356, l356, y356, z356⟩, st356⟩ := X350.specialBack hx (y := (⟨"java/lang/String", "<init>", "([C)V"⟩ : MethodName)) rfl hown (mvT hZ (hw _ (List.mem_of_getElem? (i := 4) rfl))) (mvT hZ (hw _ (List.mem_of_getElem? (i := 5) rfl))) (mvT hZ (hw _ (List.mem_of_getElem? (i := 6) rfl))) (by decide) (StrChars.Road.backV (W := 1) hZ hws (kI := 4) (hw _ (List.mem_of_getElem? (i := 1) rfl)) (cs := [((p1 &&& (255 : Int32)).toUInt32.toUInt16.toUInt32.toInt32), (50 : Int32)]) (bs := [((p1 &&& (255 : Int32)).toUInt32.toUInt16.toUInt32.toInt32), (50 : Int32)].map (fun c => c.toInt8.toInt32)) (n := 2) (n0 := n0) g_b342 (Nat.le_trans (Nat.le_trans (Nat.le_trans (Nat.le_trans Z0 E342.1) E344.1) (Keep.of_wr W347).1) (Keep.of_wr W350).1) (((A342.ext E344).wr W347).wr W350) c353 c354 Vc (Sz.ext c355.2) hzc rfl rfl (by decide) (by decide) hpb342 rfl (by decide) (by decide)) (g := (mkF m 280 #[.val (.int p0), .val (.int p1), .val (.int p2), .val (.int p3), .val (.int (p0 &&& (7 : Int32))), .val (.int ((p1 &&& (255 : Int32)).toUInt32.toUInt16.toUInt32.toInt32)), .val (.int ((((p1.toUInt32 >>> ((8 : Int32) &&& 31).toUInt32).toInt32) &&& (255 : Int32)).toUInt32.toUInt16.toUInt32.toInt32)), .unset, .unset, .unset, .unset, .unset, .unset, .unset, .unset, .unset, .unset] [(.ref b344), (.ref b342), (.ref b342)])) rfl (by rw [hml]; rfl) (Steps.refl _) (a := b342) (argsL := [(.ref b344)]) (rest := [(.ref b342)]) (lenOf pd___C_V_325 rfl) rfl (by show 2 * 0 + _ ≤ _; exact Nat.le_of_eq rfl) (hb hby at_280) (fun _ _ => ⟨rfl, e350, (by decide : 2 + 1 ≤ _), (by decide : 6 + 2 ≤ _)⟩)
                dsimp only [Pt.U, Pt.locs, Pt.cells, Pt.slots] at X356 l356 y356 z356 st356 hQ356
                subst l356 y356 z356
                obtain ⟨rfl, N356q, K356, Eb356, Cb356, t356, kb356, _, _, _, Vb356, Ab356⟩ := hQ356
                have N356 := Fr.app N350 N356q
                refine own_trH st356 ?_
                have sf358 := (CR345.trans (CR348.trans CR351)).safe A342.lt sb342
                have CR357 := CHr.keep K356 (sfS sf358 sf0) CH351.1
                have CH357 := CH351.trans CR357
                show own_ComesH Z p e below s _ _ _ (T356.setTop (mkF m 283 #[.val (.int p0), .val (.int p1), .val (.int p2), .val (.int p3), .val (.int (p0 &&& (7 : Int32))), .val (.int ((p1 &&& (255 : Int32)).toUInt32.toUInt16.toUInt32.toInt32)), .val (.int ((((p1.toUInt32 >>> ((8 : Int32) &&& 31).toUInt32).toInt32) &&& (255 : Int32)).toUInt32.toUInt16.toUInt32.toInt32)), .unset, .unset, .unset, .unset, .unset, .unset, .unset, .unset, .unset, .unset] [(.ref b342)]))
                have hSb342 : own_Str Z T356.heap b342 [((p1 &&& (255 : Int32)).toUInt32.toUInt16.toUInt32.toInt32), (50 : Int32)] := ⟨Eb356, t356, kb356, _, _, Vb356, Cb356, Ab356, StrChars.Road.codOf rfl (fun c hc => (hpb342 c hc).2), fun c hc => own_up (hpb342 c hc), Nat.le_of_ble_eq_true rfl⟩
                refine own_byH (fun _ kS => XS.astore X356.here hx rfl (hb hby at_283) rfl rfl (l' := #[.val (.int p0), .val (.int p1), .val (.int p2), .val (.int p3), .val (.int (p0 &&& (7 : Int32))), .val (.int ((p1 &&& (255 : Int32)).toUInt32.toUInt16.toUInt32.toInt32)), .val (.int ((((p1.toUInt32 >>> ((8 : Int32) &&& 31).toUInt32).toInt32) &&& (255 : Int32)).toUInt32.toUInt16.toUInt32.toInt32)), .val (.ref b342), .unset, .unset, .unset, .unset, .unset, .unset, .unset, .unset, .unset]) rfl kS) ?_
                show own_ComesH Z p e below s _ _ _ (T356.setTop (mkF m 285 #[.val (.int p0), .val (.int p1), .val (.int p2), .val (.int p3), .val (.int (p0 &&& (7 : Int32))), .val (.int ((p1 &&& (255 : Int32)).toUInt32.toUInt16.toUInt32.toInt32)), .val (.int ((((p1.toUInt32 >>> ((8 : Int32) &&& 31).toUInt32).toInt32) &&& (255 : Int32)).toUInt32.toUInt16.toUInt32.toInt32)), .val (.ref b342), .unset, .unset, .unset, .unset, .unset, .unset, .unset, .unset, .unset] []))
                refine own_byH (fun _ kS => XS.iload X356.here hx rfl (hb hby at_285) rfl kS) ?_
                show own_ComesH Z p e below s _ _ _ (T356.setTop (mkF m 287 #[.val (.int p0), .val (.int p1), .val (.int p2), .val (.int p3), .val (.int (p0 &&& (7 : Int32))), .val (.int ((p1 &&& (255 : Int32)).toUInt32.toUInt16.toUInt32.toInt32)), .val (.int ((((p1.toUInt32 >>> ((8 : Int32) &&& 31).toUInt32).toInt32) &&& (255 : Int32)).toUInt32.toUInt16.toUInt32.toInt32)), .val (.ref b342), .unset, .unset, .unset, .unset, .unset, .unset, .unset, .unset, .unset] [(.int ((p1 &&& (255 : Int32)).toUInt32.toUInt16.toUInt32.toInt32))]))
                refine own_byH (fun _ kS => XS.bipush X356.here hx rfl (hb hby at_287) kS) ?_
                show own_ComesH Z p e below s _ _ _ (T356.setTop (mkF m 289 #[.val (.int p0), .val (.int p1), .val (.int p2), .val (.int p3), .val (.int (p0 &&& (7 : Int32))), .val (.int ((p1 &&& (255 : Int32)).toUInt32.toUInt16.toUInt32.toInt32)), .val (.int ((((p1.toUInt32 >>> ((8 : Int32) &&& 31).toUInt32).toInt32) &&& (255 : Int32)).toUInt32.toUInt16.toUInt32.toInt32)), .val (.ref b342), .unset, .unset, .unset, .unset, .unset, .unset, .unset, .unset, .unset] [(.int (49 : Int32)), (.int ((p1 &&& (255 : Int32)).toUInt32.toUInt16.toUInt32.toInt32))]))
                by_cases hx1 : ((p1 &&& (255 : Int32)).toUInt32.toUInt16.toUInt32.toInt32) = (49 : Int32)
                · refine own_byH (fun _ kS => XS.icmpNo X356.here hx rfl (hb hby at_289) rfl (teq hx1).2 kS) ?_
                  show own_ComesH Z p e below s _ _ _ (T356.setTop (mkF m 292 #[.val (.int p0), .val (.int p1), .val (.int p2), .val (.int p3), .val (.int (p0 &&& (7 : Int32))), .val (.int ((p1 &&& (255 : Int32)).toUInt32.toUInt16.toUInt32.toInt32)), .val (.int ((((p1.toUInt32 >>> ((8 : Int32) &&& 31).toUInt32).toInt32) &&& (255 : Int32)).toUInt32.toUInt16.toUInt32.toInt32)), .val (.ref b342), .unset, .unset, .unset, .unset, .unset, .unset, .unset, .unset, .unset] []))
                  refine own_byH (fun _ kS => XS.iconst X356.here hx rfl (hb hby at_292) kS) ?_
                  show own_ComesH Z p e below s _ _ _ (T356.setTop (mkF m 293 #[.val (.int p0), .val (.int p1), .val (.int p2), .val (.int p3), .val (.int (p0 &&& (7 : Int32))), .val (.int ((p1 &&& (255 : Int32)).toUInt32.toUInt16.toUInt32.toInt32)), .val (.int ((((p1.toUInt32 >>> ((8 : Int32) &&& 31).toUInt32).toInt32) &&& (255 : Int32)).toUInt32.toUInt16.toUInt32.toInt32)), .val (.ref b342), .unset, .unset, .unset, .unset, .unset, .unset, .unset, .unset, .unset] [(.int (1 : Int32))]))
                  refine own_byH (fun _ kS => XS.goto X356.here hx rfl (pc0 := 293) (pc' := 297) rfl (hb hby at_293) (by decide) (by decide) kS) ?_
                  show own_ComesH Z p e below s _ _ _ (T356.setTop (mkF m 297 #[.val (.int p0), .val (.int p1), .val (.int p2), .val (.int p3), .val (.int (p0 &&& (7 : Int32))), .val (.int ((p1 &&& (255 : Int32)).toUInt32.toUInt16.toUInt32.toInt32)), .val (.int ((((p1.toUInt32 >>> ((8 : Int32) &&& 31).toUInt32).toInt32) &&& (255 : Int32)).toUInt32.toUInt16.toUInt32.toInt32)), .val (.ref b342), .unset, .unset, .unset, .unset, .unset, .unset, .unset, .unset, .unset] [(.int (1 : Int32))]))
                  refine own_byH (fun _ kS => XS.istore X356.here hx rfl (hb hby at_297) rfl (l' := #[.val (.int p0), .val (.int p1), .val (.int p2), .val (.int p3), .val (.int (p0 &&& (7 : Int32))), .val (.int ((p1 &&& (255 : Int32)).toUInt32.toUInt16.toUInt32.toInt32)), .val (.int ((((p1.toUInt32 >>> ((8 : Int32) &&& 31).toUInt32).toInt32) &&& (255 : Int32)).toUInt32.toUInt16.toUInt32.toInt32)), .val (.ref b342), .val (.int (1 : Int32)), .unset, .unset, .unset, .unset, .unset, .unset, .unset, .unset]) rfl kS) ?_
                  show own_ComesH Z p e below s _ _ _ (T356.setTop (mkF m 299 #[.val (.int p0), .val (.int p1), .val (.int p2), .val (.int p3), .val (.int (p0 &&& (7 : Int32))), .val (.int ((p1 &&& (255 : Int32)).toUInt32.toUInt16.toUInt32.toInt32)), .val (.int ((((p1.toUInt32 >>> ((8 : Int32) &&& 31).toUInt32).toInt32) &&& (255 : Int32)).toUInt32.toUInt16.toUInt32.toInt32)), .val (.ref b342), .val (.int (1 : Int32)), .unset, .unset, .unset, .unset, .unset, .unset, .unset, .unset] []))
                  exact J299 _ _ _ _ _ (.ref b342) (1 : Int32) (X356.more (by decide) (by decide)) rfl hZ hown hS (Nat.le_trans (Nat.le_trans (Nat.le_trans (Nat.le_trans (Nat.le_trans hk E342.1) E344.1) (Keep.of_wr W347).1) (Keep.of_wr W350).1) K356.1) CH357 N356 (c355.keep K356 (allS g_b342 all0)) (Nat.le_trans (Nat.le_trans (Nat.le_trans (Nat.le_trans (Nat.le_trans Z0 E342.1) E344.1) (Keep.of_wr W347).1) (Keep.of_wr W350).1) K356.1) (Or.inr ⟨_, _, rfl, hSb342, Or.inl ⟨own_y2 hx1 rfl, rfl⟩⟩)
                · refine own_byH (fun _ kS => XS.icmpYes X356.here hx rfl (pc0 := 289) (pc' := 296) rfl (hb hby at_289) rfl (feq hx1).2 (by decide) (by decide) kS) ?_
                  show own_ComesH Z p e below s _ _ _ (T356.setTop (mkF m 296 #[.val (.int p0), .val (.int p1), .val (.int p2), .val (.int p3), .val (.int (p0 &&& (7 : Int32))), .val (.int ((p1 &&& (255 : Int32)).toUInt32.toUInt16.toUInt32.toInt32)), .val (.int ((((p1.toUInt32 >>> ((8 : Int32) &&& 31).toUInt32).toInt32) &&& (255 : Int32)).toUInt32.toUInt16.toUInt32.toInt32)), .val (.ref b342), .unset, .unset, .unset, .unset, .unset, .unset, .unset, .unset, .unset] []))
                  refine own_byH (fun _ kS => XS.iconst X356.here hx rfl (hb hby at_296) kS) ?_
                  show own_ComesH Z p e below s _ _ _ (T356.setTop (mkF m 297 #[.val (.int p0), .val (.int p1), .val (.int p2), .val (.int p3), .val (.int (p0 &&& (7 : Int32))), .val (.int ((p1 &&& (255 : Int32)).toUInt32.toUInt16.toUInt32.toInt32)), .val (.int ((((p1.toUInt32 >>> ((8 : Int32) &&& 31).toUInt32).toInt32) &&& (255 : Int32)).toUInt32.toUInt16.toUInt32.toInt32)), .val (.ref b342), .unset, .unset, .unset, .unset, .unset, .unset, .unset, .unset, .unset] [(.int (0 : Int32))]))
                  refine own_byH (fun _ kS => XS.istore X356.here hx rfl (hb hby at_297) rfl (l' := #[.val (.int p0), .val (.int p1), .val (.int p2), .val (.int p3), .val (.int (p0 &&& (7 : Int32))), .val (.int ((p1 &&& (255 : Int32)).toUInt32.toUInt16.toUInt32.toInt32)), .val (.int ((((p1.toUInt32 >>> ((8 : Int32) &&& 31).toUInt32).toInt32) &&& (255 : Int32)).toUInt32.toUInt16.toUInt32.toInt32)), .val (.ref b342), .val (.int (0 : Int32)), .unset, .unset, .unset, .unset, .unset, .unset, .unset, .unset]) rfl kS) ?_
                  show own_ComesH Z p e below s _ _ _ (T356.setTop (mkF m 299 #[.val (.int p0), .val (.int p1), .val (.int p2), .val (.int p3), .val (.int (p0 &&& (7 : Int32))), .val (.int ((p1 &&& (255 : Int32)).toUInt32.toUInt16.toUInt32.toInt32)), .val (.int ((((p1.toUInt32 >>> ((8 : Int32) &&& 31).toUInt32).toInt32) &&& (255 : Int32)).toUInt32.toUInt16.toUInt32.toInt32)), .val (.ref b342), .val (.int (0 : Int32)), .unset, .unset, .unset, .unset, .unset, .unset, .unset, .unset] []))
                  exact J299 _ _ _ _ _ (.ref b342) (0 : Int32) (X356.more (by decide) (by decide)) rfl hZ hown hS (Nat.le_trans (Nat.le_trans (Nat.le_trans (Nat.le_trans (Nat.le_trans hk E342.1) E344.1) (Keep.of_wr W347).1) (Keep.of_wr W350).1) K356.1) CH357 N356 (c355.keep K356 (allS g_b342 all0)) (Nat.le_trans (Nat.le_trans (Nat.le_trans (Nat.le_trans (Nat.le_trans Z0 E342.1) E344.1) (Keep.of_wr W347).1) (Keep.of_wr W350).1) K356.1) (Or.inr ⟨_, _, rfl, hSb342, Or.inr ⟨own_n2a hx1, rfl⟩⟩)
set_option maxRecDepth 65536 in
set_option maxHeartbeats 40000000 in
theorem comes_1 {Post : Tables → Env → Array Value → State → Outcome → State → Prop} (hpost : ∀ tb e args s v u, (limb_1_1.after args s (.returned v) u = true ∧ limb_1_2.after args s (.returned v) u = true ∧ True) → ReturnedEndW s (.returned v) u (Jvm.fieldLocs frame_1_writes args s ++ Jvm.arrayLocs frame_1_arrays args s ++ Jvm.staticLocs frame_1_statics s) 64 8448 → Post tb e args s (.returned v) u) :
    ArmFor flags0 classFile x code maxLocals ret World_1 tables_1 room_1 Calls_1 rest_1 Pre_1 Post := by
  intro l hfl _ _ p e ha hc hk s m args below hf hA hF happ hP
  obtain ⟨hcalls, hrest, hpre⟩ := hP
  obtain ⟨-, -, -, hnamed, -, -, -, hat⟩ := (Spec.applies_iff hf).mp happ
  obtain ⟨hg, hn⟩ := and_e (Cond.before_iff.mp (show (Jvm.Cond.and given_1 narrow_1).before args s = true from hpre))
  obtain ⟨hcount, hk0⟩ := and_e hg
  obtain ⟨ha0, hk1⟩ := and_e hk0
  obtain ⟨ha1, hk2⟩ := and_e hk1
  obtain ⟨ha2, hk3⟩ := and_e hk2
  have ha3 := hk3
  obtain ⟨w0, w1, w2, w3, rfl⟩ : ∃ w0 w1 w2 w3 : Value, args = #[w0, w1, w2, w3] := by
    have hs : args.size = 4 := by simpa [Cond.value, given_1] using hcount
    obtain ⟨L⟩ := args
    match L, hs with
    | [w0, w1, w2, w3], _ => exact ⟨w0, w1, w2, w3, rfl⟩
  have hw := fun d (hd : d ∈ tables_1) => atoms_spec (ws := Jvm.Cond.code x code maxLocals ret :: tables_1) hat d (List.mem_cons_of_mem _ hd)
  have hfit : Fit s := fun {y c} hc i hi => by
    obtain ⟨ha, rfl⟩ := Array.getElem?_eq_some_iff.mp hc
    have q := List.all_eq_true.mp ((Array.all_eq_true_iff_forall_mem.mp hF) _ (Array.getElem_mem ha)) i (List.mem_range.mpr hi)
    simpa [Array.getElem?_eq_getElem hi] using q
  obtain ⟨hsets, hown0⟩ := atoms_of _ (rest_1_c_eq ▸ (show rest_1_c.before _ s = true from hrest))
  obtain ⟨i0, ei0⟩ := is_v ha0
  obtain rfl : w0 = (.int i0) := Option.some.inj ei0
  obtain ⟨i1, ei1⟩ := is_v ha1
  obtain rfl : w1 = (.int i1) := Option.some.inj ei1
  obtain ⟨i2, ei2⟩ := is_v ha2
  obtain rfl : w2 = (.int i2) := Option.some.inj ei2
  obtain ⟨i3, ei3⟩ := is_v ha3
  obtain rfl : w3 = (.int i3) := Option.some.inj ei3
  obtain ⟨zc, ezc⟩ := is_v (Cond.before_iff.mp (hsets _ (List.mem_of_getElem? (i := 1) rfl)))
  have Sz := Sta.start ezc (Or.inl (hsets _ (List.mem_of_getElem? (i := 0) rfl)))
  have hzc : ¬ zc = 0 := gotF (Cond.eq_ints ezc (Term.int_eval (0))) (not_v (Cond.before_iff.mp (hsets _ (List.mem_of_getElem? (i := 2) rfl))))
  have hCH : CHv s own_EL s.vm s.heap := CHv.start (own_EW hw) (fun pp hpp => hcalls.1 pp ((by decide : ∀ q ∈ own_EL, q ∈ consts_1) pp hpp)) (hsets _ (List.mem_of_getElem? (i := 2) rfl)) (hw _ (List.mem_of_getElem? (i := 19) rfl)) (hw _ (List.mem_of_getElem? (i := 1) rfl))
  obtain ⟨n, o, h1, h2, h3, _, L, rfl, ⟨rfl, N⟩, _, hq⟩ := rm0 l s _ hw tables_1 i0 i1 i2 i3 zc s.heap s.heap.size (Nat.le_refl _) (Old.start s) Sz hzc p e ha hc hk s m _ below hf ((Spec.applies_iff_loose hf).mp happ).1 ⟨rfl, State.Warmed39.refl s, rfl, hCH⟩ trivial
  refine ⟨n, _, h1, h2, h3, hpost _ _ _ _ _ _ ⟨Cond.after_iff.mpr rfl, Cond.after_iff.mpr (eq_i res_at (Term.int_eval (1)) rfl), trivial⟩ ⟨hq.1, hq.2.1, hq.2.2.1, (hq.2.2.2.sift fun y hy => Or.inr (N y hy)).mono (by decide) (by decide)⟩⟩
theorem main_1_1 : Claimed_1_1 := comes_1 fun _ _ _ _ _ _ h hF => ⟨h.1, hF⟩
theorem main_1_2 : Claimed_1_2 := comes_1 fun _ _ _ _ _ _ h hF => ⟨h.2.1, hF⟩
end Jvm.Pilot.@@N@@
namespace Jvm.Pilot.@@N@@
open Jvm Jvm.ClassFile Sem Op Lib Jvm.Free Jvm.Stand Jvm.Pilot.@@N@@.Jvm.D
/-! MADE BY PROGRAM (witnessworld.py) out of the Statement's table words and the real class files: 21 classes; the members and pool entries that the words name. The judged class is class 1, her method 1. -/
namespace start1
open Jvm.ClassFile
def u (s : String) : CpInfo := .utf8 (stringToUtf16 s)
/-- a pool by its gaps: so many unusable entries, then the entry; so many at the end -/
def gap : Nat → List CpInfo → List CpInfo
  | 0, r => r
  | n + 1, r => .unusable :: gap n r
def poolList (es : List (Nat × CpInfo)) (last : Nat) : List CpInfo := es.foldr (fun e r => gap e.1 (e.2 :: r)) (gap last [])
def pool (es : List (Nat × CpInfo)) (last : Nat) : Array CpInfo := ⟨poolList es last⟩
def fileOf (pool : Array CpInfo) (this : Nat) (attrs : Array Attribute := #[]) (ms : Array MethodInfo := #[]) (fl : Nat := 33) (sup : Nat := 0) (ifs : Array Nat := #[]) (fds : Array FieldInfo := #[]) : ClassFile where
  minorVersion := 0
  majorVersion := 65
  constantPool := pool
  accessFlags := fl
  thisClass := this
  superClass := sup
  interfaces := ifs
  fields := fds
  methods := ms
  attributes := attrs
def plain (name : String) (sup : Option ClassId) : Class where
  name := name
  kind := .ordinary
  loader := none
  accessFlags := 33
  super := sup
  interfaces := #[]
  cf := none
  fields := #[]
  methods := #[]
  instanceTypes := #[]
  staticTypes := #[]
  resolved := #[]
  callSites := []
  init := .initialized
  statics := none
  mirror := none

def pool0 : Array CpInfo := pool [(5, u "<init>"), (0, u "()V"), (1, .class_ 10), (1, u "java/lang/Object")] 113

def k0c0 : Code := { maxStack := 0, maxLocals := 1, code := object_method_1_code, exceptionTable := #[], attributes := #[] }
def k0m0 : Method := { name := "<init>", desc := "()V", sig := { parameters := [], returnType := none }, accessFlags := 1, code := some k0c0 }
/-- java/lang/Object -/
def k0 : Class := { plain "java/lang/Object" none with
  accessFlags := 33
  interfaces := #[]
  cf := some (fileOf pool0 8 #[] #[{ accessFlags := 1, nameIndex := 5, descriptorIndex := 6, attributes := #[] }] 33 0 #[] #[])
  fields := #[]
  methods := #[k0m0]
  instanceTypes := #[]
  staticTypes := #[]
  resolved := Array.replicate 124 none
  statics := none }

def pool1 : Array CpInfo := pool [(2, .class_ 4), (1, u "java/lang/Object"), (0, u "<init>"), (0, u "()V"), (0, .class_ 8), (0, u "java/lang/String"), (0, .methodref 7 10), (0, .nameAndType 5 11), (0, u "([C)V"), (0, .methodref 7 13), (0, .nameAndType 14 15), (0, u "valueOf"), (0, u "(C)Ljava/lang/String;"), (0, .class_ 17), (0, u "com/example/beija_flor/beijaflor/brcode/BrCode"), (0, .string 19), (0, u "0000"), (0, .string 21), (0, u "986"), (0, .string 23), (0, u "BR"), (0, .string 25), (0, u "N"), (0, .string 27), (0, u "C"), (0, .string 29), (0, u "ABCD"), (0, .methodref 16 31), (0, .nameAndType 5 32), (0, u "(Ljava/lang/String;Ljava/lang/String;Ljava/lang/String;Ljava/lang/String;Ljava/lang/String;Ljava/lang/String;Ljava/lang/String;Ljava/lang/String;Ljava/lang/String;Ljava/lang/String;Ljava/lang/String;Ljava/lang/String;)V"), (0, .methodref 16 34), (0, .nameAndType 35 36), (0, u "isDynamic"), (0, u "()Z"), (0, .class_ 38), (0, u "com/example/beija_flor/beijaflor/brcode/BrCodeIsDynamicPinLaw"), (2, u "law"), (0, u "(IIII)Z")] 3

def k1m0 : Method := { name := "<init>", desc := "()V", sig := { parameters := [], returnType := none }, accessFlags := 1, code := none }
def k1c1 : Code := { maxStack := 14, maxLocals := 17, code := code, exceptionTable := #[], attributes := #[] }
def k1m1 : Method := { name := "law", desc := "(IIII)Z", sig := { parameters := [.int, .int, .int, .int], returnType := some .boolean }, accessFlags := 9, code := some k1c1 }
/-- com/example/beija_flor/beijaflor/brcode/BrCodeIsDynamicPinLaw -/
def k1 : Class := { plain "com/example/beija_flor/beijaflor/brcode/BrCodeIsDynamicPinLaw" (some 0) with
  accessFlags := 49
  interfaces := #[]
  cf := some (fileOf pool1 37 #[] #[{ accessFlags := 1, nameIndex := 5, descriptorIndex := 6, attributes := #[] }, { accessFlags := 9, nameIndex := 41, descriptorIndex := 42, attributes := #[] }] 49 2 #[] #[])
  fields := #[]
  methods := #[k1m0, k1m1]
  instanceTypes := #[]
  staticTypes := #[]
  resolved := Array.replicate 46 none
  statics := none }

def pool2 : Array CpInfo := pool [(1, .class_ 2), (0, u "java/io/Serializable"), (0, .class_ 4), (0, u "java/lang/Object")] 2

/-- java/io/Serializable -/
def k2 : Class := { plain "java/io/Serializable" (some 0) with
  accessFlags := 1537
  interfaces := #[]
  cf := some (fileOf pool2 1 #[] #[] 1537 3 #[] #[])
  fields := #[]
  methods := #[]
  instanceTypes := #[]
  staticTypes := #[]
  resolved := Array.replicate 7 none
  statics := none }

def pool3 : Array CpInfo := pool [(1, .class_ 2), (0, u "java/lang/Comparable"), (0, .class_ 4), (0, u "java/lang/Object")] 7

/-- java/lang/Comparable -/
def k3 : Class := { plain "java/lang/Comparable" (some 0) with
  accessFlags := 1537
  interfaces := #[]
  cf := some (fileOf pool3 1 #[] #[] 1537 3 #[] #[])
  fields := #[]
  methods := #[]
  instanceTypes := #[]
  staticTypes := #[]
  resolved := Array.replicate 12 none
  statics := none }

def pool4 : Array CpInfo := pool [(2, .class_ 4), (1, u "java/lang/CharSequence"), (42, .class_ 48), (0, u "java/lang/CharSequence$1CodePointIterator"), (10, .class_ 60), (0, u "java/lang/CharSequence$1CharIterator"), (5, .class_ 67), (0, u "java/lang/Object")] 63

/-- java/lang/CharSequence -/
def k4 : Class := { plain "java/lang/CharSequence" (some 0) with
  accessFlags := 1537
  interfaces := #[]
  cf := some (fileOf pool4 2 #[.nestMembers #[47, 59]] #[] 1537 66 #[] #[])
  fields := #[]
  methods := #[]
  instanceTypes := #[]
  staticTypes := #[]
  resolved := Array.replicate 131 none
  statics := none }

def pool5 : Array CpInfo := pool [(1, .class_ 2), (0, u "java/lang/constant/Constable"), (0, .class_ 4), (0, u "java/lang/Object")] 6

/-- java/lang/constant/Constable -/
def k5 : Class := { plain "java/lang/constant/Constable" (some 0) with
  accessFlags := 1537
  interfaces := #[]
  cf := some (fileOf pool5 1 #[] #[] 1537 3 #[] #[])
  fields := #[]
  methods := #[]
  instanceTypes := #[]
  staticTypes := #[]
  resolved := Array.replicate 11 none
  statics := none }

def pool6 : Array CpInfo := pool [(1, .class_ 2), (0, u "java/lang/constant/ConstantDesc"), (0, .class_ 4), (0, u "java/lang/Object")] 32

/-- java/lang/constant/ConstantDesc -/
def k6 : Class := { plain "java/lang/constant/ConstantDesc" (some 0) with
  accessFlags := 1537
  interfaces := #[]
  cf := some (fileOf pool6 1 #[] #[] 1537 3 #[] #[])
  fields := #[]
  methods := #[]
  instanceTypes := #[]
  staticTypes := #[]
  resolved := Array.replicate 37 none
  statics := none }

def pool7 : Array CpInfo := pool [(1, .methodref 2 3), (0, .class_ 4), (0, .nameAndType 5 6), (0, u "java/lang/Object"), (0, u "<init>"), (0, u "()V"), (0, .string 8), (0, u ""), (0, .fieldref 10 11), (0, .class_ 12), (0, .nameAndType 13 14), (0, u "java/lang/String"), (0, u "value"), (0, u "[B"), (0, .fieldref 10 16), (0, .nameAndType 17 18), (0, u "coder"), (0, u "B"), (2, u "hash"), (0, u "I"), (2, u "hashIsZero"), (0, u "Z"), (0, .methodref 10 28), (0, .nameAndType 5 29), (0, u "([CIILjava/lang/Void;)V"), (8, .fieldref 10 39), (0, .nameAndType 40 26), (0, u "COMPACT_STRINGS"), (1, .class_ 44), (1, u "java/lang/StringUTF16"), (0, u "compress"), (1, .methodref 42 48), (0, .nameAndType 49 50), (0, u "coderFromArrayLen"), (0, u "([BI)B"), (2, u "toBytes"), (53, .class_ 109), (1, u "java/lang/StringLatin1"), (67, .methodref 42 178), (0, .nameAndType 45 179), (0, u "([CII)[B"), (29, .methodref 10 210), (0, .nameAndType 5 211), (0, u "([BB)V"), (157, u "(C)Z"), (171, .methodref 107 542), (0, .nameAndType 543 544), (0, u "equals"), (0, u "([B[B)Z"), (28, u "(Ljava/lang/Object;)Z"), (1, .class_ 576), (0, u "java/lang/CharSequence"), (22, u "CASE_INSENSITIVE_ORDER"), (0, u "Ljava/util/Comparator;"), (181, u "valueOf"), (0, u "(C)Ljava/lang/String;"), (226, u "([C)V"), (4, .methodref 107 1016), (0, .nameAndType 1017 369), (0, u "canEncode"), (0, .methodref 107 1019), (0, .nameAndType 53 1020), (0, u "(C)[B"), (80, u "serialPersistentFields"), (0, u "[Ljava/io/ObjectStreamField;"), (0, .class_ 1104), (0, u "java/lang/String$CaseInsensitiveComparator"), (1, .class_ 1107), (0, u "java/io/Serializable"), (0, .class_ 1109), (0, u "java/lang/Comparable"), (0, .class_ 1111), (0, u "java/lang/constant/Constable"), (0, .class_ 1113), (0, u "java/lang/constant/ConstantDesc"), (2, u "serialVersionUID"), (0, u "J"), (3, u "REPL"), (0, u "C"), (2, u "LATIN1"), (1, u "UTF16")] 323

def k7m0 : Method := { name := "<init>", desc := "()V", sig := { parameters := [], returnType := none }, accessFlags := 1, code := none }
def k7c1 : Code := { maxStack := 5, maxLocals := 2, code := jdk_42_method_3_code, exceptionTable := #[], attributes := #[] }
def k7m1 : Method := { name := "<init>", desc := "([C)V", sig := { parameters := [(.array .char)], returnType := none }, accessFlags := 1, code := some k7c1 }
def k7c2 : Code := { maxStack := 2, maxLocals := 3, code := jdk_42_method_66_code, exceptionTable := #[], attributes := #[] }
def k7m2 : Method := { name := "equals", desc := "(Ljava/lang/Object;)Z", sig := { parameters := [(.object "java/lang/Object")], returnType := some .boolean }, accessFlags := 1, code := some k7c2 }
def k7c3 : Code := { maxStack := 4, maxLocals := 1, code := jdk_42_method_139_code, exceptionTable := #[], attributes := #[] }
def k7m3 : Method := { name := "valueOf", desc := "(C)Ljava/lang/String;", sig := { parameters := [.char], returnType := some (.object "java/lang/String") }, accessFlags := 9, code := some k7c3 }
def k7c4 : Code := { maxStack := 4, maxLocals := 6, code := jdk_42_method_149_code, exceptionTable := #[], attributes := #[] }
def k7m4 : Method := { name := "<init>", desc := "([CIILjava/lang/Void;)V", sig := { parameters := [(.array .char), .int, .int, (.object "java/lang/Void")], returnType := none }, accessFlags := 2, code := some k7c4 }
def k7c5 : Code := { maxStack := 2, maxLocals := 3, code := jdk_42_method_151_code, exceptionTable := #[], attributes := #[] }
def k7m5 : Method := { name := "<init>", desc := "([BB)V", sig := { parameters := [(.array .byte), .byte], returnType := none }, accessFlags := 0, code := some k7c5 }
/-- java/lang/String -/
def k7 : Class := { plain "java/lang/String" (some 0) with
  accessFlags := 49
  interfaces := #[2, 3, 4, 5, 6]
  cf := some (fileOf pool7 10 #[.nestMembers #[1103]] #[{ accessFlags := 1, nameIndex := 5, descriptorIndex := 6, attributes := #[] }, { accessFlags := 1, nameIndex := 5, descriptorIndex := 1010, attributes := #[] }, { accessFlags := 1, nameIndex := 543, descriptorIndex := 573, attributes := #[] }, { accessFlags := 9, nameIndex := 782, descriptorIndex := 783, attributes := #[] }, { accessFlags := 2, nameIndex := 5, descriptorIndex := 29, attributes := #[] }, { accessFlags := 0, nameIndex := 5, descriptorIndex := 211, attributes := #[] }] 49 2 #[1106, 1108, 575, 1110, 1112] #[{ accessFlags := 18, nameIndex := 13, descriptorIndex := 14, attributes := #[] }, { accessFlags := 18, nameIndex := 17, descriptorIndex := 18, attributes := #[] }, { accessFlags := 2, nameIndex := 21, descriptorIndex := 22, attributes := #[] }, { accessFlags := 2, nameIndex := 25, descriptorIndex := 26, attributes := #[] }, { accessFlags := 26, nameIndex := 1116, descriptorIndex := 1117, attributes := #[] }, { accessFlags := 24, nameIndex := 40, descriptorIndex := 26, attributes := #[] }, { accessFlags := 26, nameIndex := 1101, descriptorIndex := 1102, attributes := #[] }, { accessFlags := 26, nameIndex := 1121, descriptorIndex := 1122, attributes := #[] }, { accessFlags := 25, nameIndex := 599, descriptorIndex := 600, attributes := #[] }, { accessFlags := 24, nameIndex := 1125, descriptorIndex := 18, attributes := #[] }, { accessFlags := 24, nameIndex := 1127, descriptorIndex := 18, attributes := #[] }])
  fields := #[{ name := "value", type := (.array .byte), accessFlags := 18, slot := 0, constantValue := 0 }, { name := "coder", type := .byte, accessFlags := 18, slot := 1, constantValue := 0 }, { name := "hash", type := .int, accessFlags := 2, slot := 2, constantValue := 0 }, { name := "hashIsZero", type := .boolean, accessFlags := 2, slot := 3, constantValue := 0 }, { name := "serialVersionUID", type := .long, accessFlags := 26, slot := 0, constantValue := 0 }, { name := "COMPACT_STRINGS", type := .boolean, accessFlags := 24, slot := 1, constantValue := 0 }, { name := "serialPersistentFields", type := (.array (.object "java/io/ObjectStreamField")), accessFlags := 26, slot := 2, constantValue := 0 }, { name := "REPL", type := .char, accessFlags := 26, slot := 3, constantValue := 0 }, { name := "CASE_INSENSITIVE_ORDER", type := (.object "java/util/Comparator"), accessFlags := 25, slot := 4, constantValue := 0 }, { name := "LATIN1", type := .byte, accessFlags := 24, slot := 5, constantValue := 0 }, { name := "UTF16", type := .byte, accessFlags := 24, slot := 6, constantValue := 0 }]
  methods := #[k7m0, k7m1, k7m2, k7m3, k7m4, k7m5]
  instanceTypes := #[(.array .byte), .byte, .int, .boolean]
  staticTypes := #[.long, .boolean, (.array (.object "java/io/ObjectStreamField")), .char, (.object "java/util/Comparator"), .byte, .byte]
  resolved := Array.replicate 1451 none
  statics := some 0 }

def pool8 : Array CpInfo := pool [(6, .class_ 8), (1, u "java/lang/Object"), (0, u "<init>"), (0, u "()V"), (1, .class_ 14), (1, u "java/lang/StringUTF16"), (31, u "$assertionsDisabled"), (0, u "Z"), (13, u "HI_BYTE_SHIFT"), (0, u "I"), (2, u "LO_BYTE_SHIFT"), (49, .methodref 12 116), (0, .nameAndType 117 118), (0, u "compress"), (0, u "([CI[BII)I"), (3, u "([CII)[B"), (138, u "coderFromArrayLen"), (0, u "([BI)B"), (106, .class_ 371), (1, u "java/lang/StringUTF16$LinesSpliterator"), (58, u "MAX_LENGTH"), (196, .class_ 628), (0, u "java/lang/StringUTF16$CodePointsSpliterator"), (0, .class_ 630), (0, u "java/lang/StringUTF16$CharsSpliterator")] 4

def k8m0 : Method := { name := "<init>", desc := "()V", sig := { parameters := [], returnType := none }, accessFlags := 0, code := none }
def k8c1 : Code := { maxStack := 2, maxLocals := 2, code := jdk_52_method_15_code, exceptionTable := #[], attributes := #[] }
def k8m1 : Method := { name := "coderFromArrayLen", desc := "([BI)B", sig := { parameters := [(.array .byte), .int], returnType := some .byte }, accessFlags := 8, code := some k8c1 }
def k8c2 : Code := { maxStack := 5, maxLocals := 6, code := jdk_52_method_16_code, exceptionTable := #[], attributes := #[] }
def k8m2 : Method := { name := "compress", desc := "([CII)[B", sig := { parameters := [(.array .char), .int, .int], returnType := some (.array .byte) }, accessFlags := 9, code := some k8c2 }
def k8c3 : Code := { maxStack := 3, maxLocals := 7, code := jdk_52_method_21_code, exceptionTable := #[], attributes := #[] }
def k8m3 : Method := { name := "compress", desc := "([CI[BII)I", sig := { parameters := [(.array .char), .int, (.array .byte), .int, .int], returnType := some .int }, accessFlags := 9, code := some k8c3 }
/-- java/lang/StringUTF16 -/
def k8 : Class := { plain "java/lang/StringUTF16" (some 0) with
  accessFlags := 48
  interfaces := #[]
  cf := some (fileOf pool8 12 #[.nestMembers #[627, 629, 369]] #[{ accessFlags := 0, nameIndex := 9, descriptorIndex := 10, attributes := #[] }, { accessFlags := 8, nameIndex := 261, descriptorIndex := 262, attributes := #[] }, { accessFlags := 9, nameIndex := 117, descriptorIndex := 122, attributes := #[] }, { accessFlags := 9, nameIndex := 117, descriptorIndex := 118, attributes := #[] }] 48 6 #[] #[{ accessFlags := 26, nameIndex := 61, descriptorIndex := 62, attributes := #[] }, { accessFlags := 26, nameIndex := 65, descriptorIndex := 62, attributes := #[] }, { accessFlags := 24, nameIndex := 430, descriptorIndex := 62, attributes := #[] }, { accessFlags := 4120, nameIndex := 46, descriptorIndex := 47, attributes := #[] }])
  fields := #[{ name := "HI_BYTE_SHIFT", type := .int, accessFlags := 26, slot := 0, constantValue := 0 }, { name := "LO_BYTE_SHIFT", type := .int, accessFlags := 26, slot := 1, constantValue := 0 }, { name := "MAX_LENGTH", type := .int, accessFlags := 24, slot := 2, constantValue := 0 }, { name := "$assertionsDisabled", type := .boolean, accessFlags := 4120, slot := 3, constantValue := 0 }]
  methods := #[k8m0, k8m1, k8m2, k8m3]
  instanceTypes := #[]
  staticTypes := #[.int, .int, .int, .boolean]
  resolved := Array.replicate 635 none
  statics := none }

def pool9 : Array CpInfo := pool [(1, .methodref 2 3), (0, .class_ 4), (0, .nameAndType 5 6), (0, u "java/lang/Object"), (0, u "<init>"), (0, u "()V"), (0, .class_ 8), (0, u "java/lang/Record")] 13

def k9c0 : Code := { maxStack := 1, maxLocals := 1, code := jdk_30_method_1_code, exceptionTable := #[], attributes := #[] }
def k9m0 : Method := { name := "<init>", desc := "()V", sig := { parameters := [], returnType := none }, accessFlags := 4, code := some k9c0 }
/-- java/lang/Record -/
def k9 : Class := { plain "java/lang/Record" (some 0) with
  accessFlags := 1057
  interfaces := #[]
  cf := some (fileOf pool9 7 #[] #[{ accessFlags := 4, nameIndex := 5, descriptorIndex := 6, attributes := #[] }] 1057 2 #[] #[])
  fields := #[]
  methods := #[k9m0]
  instanceTypes := #[]
  staticTypes := #[]
  resolved := Array.replicate 22 none
  statics := none }

def pool10 : Array CpInfo := pool [(1, .methodref 2 3), (0, .class_ 4), (0, .nameAndType 5 6), (0, u "java/lang/Record"), (0, u "<init>"), (0, u "()V"), (0, .fieldref 8 9), (0, .class_ 10), (0, .nameAndType 11 12), (0, u "com/example/beija_flor/beijaflor/brcode/BrCode"), (0, u "initiationMethod"), (0, u "Ljava/lang/String;"), (0, .fieldref 8 14), (0, .nameAndType 15 12), (0, u "gui"), (0, .fieldref 8 17), (0, .nameAndType 18 12), (0, u "pixKey"), (0, .fieldref 8 20), (0, .nameAndType 21 12), (0, u "url"), (0, .fieldref 8 23), (0, .nameAndType 24 12), (0, u "merchantCategoryCode"), (0, .fieldref 8 26), (0, .nameAndType 27 12), (0, u "transactionCurrency"), (0, .fieldref 8 29), (0, .nameAndType 30 12), (0, u "transactionAmount"), (0, .fieldref 8 32), (0, .nameAndType 33 12), (0, u "countryCode"), (0, .fieldref 8 35), (0, .nameAndType 36 12), (0, u "merchantName"), (0, .fieldref 8 38), (0, .nameAndType 39 12), (0, u "merchantCity"), (0, .fieldref 8 41), (0, .nameAndType 42 12), (0, u "txid"), (0, .fieldref 8 44), (0, .nameAndType 45 12), (0, u "crc"), (14, .class_ 61), (0, u "java/lang/String"), (8, u "REQUIRED"), (0, u "Ljava/util/List;"), (11, u "()Z"), (12, u "(Ljava/lang/Object;)Z"), (49, u "(Ljava/lang/String;Ljava/lang/String;Ljava/lang/String;Ljava/lang/String;Ljava/lang/String;Ljava/lang/String;Ljava/lang/String;Ljava/lang/String;Ljava/lang/String;Ljava/lang/String;Ljava/lang/String;Ljava/lang/String;)V"), (0, .string 148), (0, u "12"), (0, .methodref 60 150), (0, .nameAndType 151 96), (0, u "equals"), (66, u "PIX_GUI"), (0, u "Ljava/util/regex/Pattern;"), (20, u "CRC"), (82, u "FORMAT_TAG"), (1, u "ACCOUNT_TAG"), (0, u "ADDITIONAL_TAG"), (0, u "CRC_TAG"), (8, u "isDynamic")] 75

def k10c0 : Code := { maxStack := 2, maxLocals := 13, code := prog_2_method_1_code, exceptionTable := #[], attributes := #[] }
def k10m0 : Method := { name := "<init>", desc := "(Ljava/lang/String;Ljava/lang/String;Ljava/lang/String;Ljava/lang/String;Ljava/lang/String;Ljava/lang/String;Ljava/lang/String;Ljava/lang/String;Ljava/lang/String;Ljava/lang/String;Ljava/lang/String;Ljava/lang/String;)V", sig := { parameters := [(.object "java/lang/String"), (.object "java/lang/String"), (.object "java/lang/String"), (.object "java/lang/String"), (.object "java/lang/String"), (.object "java/lang/String"), (.object "java/lang/String"), (.object "java/lang/String"), (.object "java/lang/String"), (.object "java/lang/String"), (.object "java/lang/String"), (.object "java/lang/String")], returnType := none }, accessFlags := 1, code := some k10c0 }
def k10c1 : Code := { maxStack := 2, maxLocals := 1, code := prog_2_method_3_code, exceptionTable := #[], attributes := #[] }
def k10m1 : Method := { name := "isDynamic", desc := "()Z", sig := { parameters := [], returnType := some .boolean }, accessFlags := 1, code := some k10c1 }
/-- com/example/beija_flor/beijaflor/brcode/BrCode -/
def k10 : Class := { plain "com/example/beija_flor/beijaflor/brcode/BrCode" (some 9) with
  accessFlags := 49
  interfaces := #[]
  cf := some (fileOf pool10 8 #[] #[{ accessFlags := 1, nameIndex := 5, descriptorIndex := 146, attributes := #[] }, { accessFlags := 1, nameIndex := 336, descriptorIndex := 83, attributes := #[] }] 49 2 #[] #[{ accessFlags := 18, nameIndex := 11, descriptorIndex := 12, attributes := #[] }, { accessFlags := 18, nameIndex := 15, descriptorIndex := 12, attributes := #[] }, { accessFlags := 18, nameIndex := 18, descriptorIndex := 12, attributes := #[] }, { accessFlags := 18, nameIndex := 21, descriptorIndex := 12, attributes := #[] }, { accessFlags := 18, nameIndex := 24, descriptorIndex := 12, attributes := #[] }, { accessFlags := 18, nameIndex := 27, descriptorIndex := 12, attributes := #[] }, { accessFlags := 18, nameIndex := 30, descriptorIndex := 12, attributes := #[] }, { accessFlags := 18, nameIndex := 33, descriptorIndex := 12, attributes := #[] }, { accessFlags := 18, nameIndex := 36, descriptorIndex := 12, attributes := #[] }, { accessFlags := 18, nameIndex := 39, descriptorIndex := 12, attributes := #[] }, { accessFlags := 18, nameIndex := 42, descriptorIndex := 12, attributes := #[] }, { accessFlags := 18, nameIndex := 45, descriptorIndex := 12, attributes := #[] }, { accessFlags := 26, nameIndex := 323, descriptorIndex := 12, attributes := #[] }, { accessFlags := 26, nameIndex := 325, descriptorIndex := 12, attributes := #[] }, { accessFlags := 26, nameIndex := 326, descriptorIndex := 12, attributes := #[] }, { accessFlags := 26, nameIndex := 327, descriptorIndex := 12, attributes := #[] }, { accessFlags := 26, nameIndex := 218, descriptorIndex := 219, attributes := #[] }, { accessFlags := 26, nameIndex := 240, descriptorIndex := 219, attributes := #[] }, { accessFlags := 26, nameIndex := 70, descriptorIndex := 71, attributes := #[] }])
  fields := #[{ name := "initiationMethod", type := (.object "java/lang/String"), accessFlags := 18, slot := 0, constantValue := 0 }, { name := "gui", type := (.object "java/lang/String"), accessFlags := 18, slot := 1, constantValue := 0 }, { name := "pixKey", type := (.object "java/lang/String"), accessFlags := 18, slot := 2, constantValue := 0 }, { name := "url", type := (.object "java/lang/String"), accessFlags := 18, slot := 3, constantValue := 0 }, { name := "merchantCategoryCode", type := (.object "java/lang/String"), accessFlags := 18, slot := 4, constantValue := 0 }, { name := "transactionCurrency", type := (.object "java/lang/String"), accessFlags := 18, slot := 5, constantValue := 0 }, { name := "transactionAmount", type := (.object "java/lang/String"), accessFlags := 18, slot := 6, constantValue := 0 }, { name := "countryCode", type := (.object "java/lang/String"), accessFlags := 18, slot := 7, constantValue := 0 }, { name := "merchantName", type := (.object "java/lang/String"), accessFlags := 18, slot := 8, constantValue := 0 }, { name := "merchantCity", type := (.object "java/lang/String"), accessFlags := 18, slot := 9, constantValue := 0 }, { name := "txid", type := (.object "java/lang/String"), accessFlags := 18, slot := 10, constantValue := 0 }, { name := "crc", type := (.object "java/lang/String"), accessFlags := 18, slot := 11, constantValue := 0 }, { name := "FORMAT_TAG", type := (.object "java/lang/String"), accessFlags := 26, slot := 0, constantValue := 0 }, { name := "ACCOUNT_TAG", type := (.object "java/lang/String"), accessFlags := 26, slot := 1, constantValue := 0 }, { name := "ADDITIONAL_TAG", type := (.object "java/lang/String"), accessFlags := 26, slot := 2, constantValue := 0 }, { name := "CRC_TAG", type := (.object "java/lang/String"), accessFlags := 26, slot := 3, constantValue := 0 }, { name := "PIX_GUI", type := (.object "java/util/regex/Pattern"), accessFlags := 26, slot := 4, constantValue := 0 }, { name := "CRC", type := (.object "java/util/regex/Pattern"), accessFlags := 26, slot := 5, constantValue := 0 }, { name := "REQUIRED", type := (.object "java/util/List"), accessFlags := 26, slot := 6, constantValue := 0 }]
  methods := #[k10m0, k10m1]
  instanceTypes := #[(.object "java/lang/String"), (.object "java/lang/String"), (.object "java/lang/String"), (.object "java/lang/String"), (.object "java/lang/String"), (.object "java/lang/String"), (.object "java/lang/String"), (.object "java/lang/String"), (.object "java/lang/String"), (.object "java/lang/String"), (.object "java/lang/String"), (.object "java/lang/String")]
  staticTypes := #[(.object "java/lang/String"), (.object "java/lang/String"), (.object "java/lang/String"), (.object "java/lang/String"), (.object "java/util/regex/Pattern"), (.object "java/util/regex/Pattern"), (.object "java/util/List")]
  resolved := Array.replicate 412 none
  statics := none }

def pool11 : Array CpInfo := pool [(4, .class_ 6), (1, u "java/lang/Object"), (0, u "<init>"), (0, u "()V"), (5, .class_ 16), (1, u "java/lang/StringLatin1"), (73, u "canEncode"), (14, u "(C)Z"), (15, u "$assertionsDisabled"), (0, u "Z"), (98, .class_ 223), (1, u "java/lang/StringLatin1$LinesSpliterator"), (57, u "equals"), (0, u "([B[B)Z"), (97, u "toBytes"), (1, u "(C)[B"), (7, .class_ 391), (0, u "java/lang/StringLatin1$CharsSpliterator")] 3

def k11m0 : Method := { name := "<init>", desc := "()V", sig := { parameters := [], returnType := none }, accessFlags := 0, code := none }
def k11c1 : Code := { maxStack := 2, maxLocals := 1, code := jdk_43_method_3_code, exceptionTable := #[], attributes := #[] }
def k11m1 : Method := { name := "canEncode", desc := "(C)Z", sig := { parameters := [.char], returnType := some .boolean }, accessFlags := 9, code := some k11c1 }
def k11c2 : Code := { maxStack := 3, maxLocals := 3, code := jdk_43_method_13_code, exceptionTable := #[], attributes := #[] }
def k11m2 : Method := { name := "equals", desc := "([B[B)Z", sig := { parameters := [(.array .byte), (.array .byte)], returnType := some .boolean }, accessFlags := 9, code := some k11c2 }
def k11c3 : Code := { maxStack := 4, maxLocals := 1, code := jdk_43_method_46_code, exceptionTable := #[], attributes := #[] }
def k11m3 : Method := { name := "toBytes", desc := "(C)[B", sig := { parameters := [.char], returnType := some (.array .byte) }, accessFlags := 9, code := some k11c3 }
/-- java/lang/StringLatin1 -/
def k11 : Class := { plain "java/lang/StringLatin1" (some 0) with
  accessFlags := 48
  interfaces := #[]
  cf := some (fileOf pool11 14 #[.nestMembers #[390, 221]] #[{ accessFlags := 0, nameIndex := 7, descriptorIndex := 8, attributes := #[] }, { accessFlags := 9, nameIndex := 90, descriptorIndex := 105, attributes := #[] }, { accessFlags := 9, nameIndex := 281, descriptorIndex := 282, attributes := #[] }, { accessFlags := 9, nameIndex := 380, descriptorIndex := 382, attributes := #[] }] 48 4 #[] #[{ accessFlags := 4120, nameIndex := 121, descriptorIndex := 122, attributes := #[] }])
  fields := #[{ name := "$assertionsDisabled", type := .boolean, accessFlags := 4120, slot := 0, constantValue := 0 }]
  methods := #[k11m0, k11m1, k11m2, k11m3]
  instanceTypes := #[]
  staticTypes := #[.boolean]
  resolved := Array.replicate 395 none
  statics := none }

def pool12 : Array CpInfo := pool [(2, .class_ 4), (1, u "java/lang/Object"), (0, u "<init>"), (0, u "()V"), (17, .class_ 26), (1, u "jdk/internal/util/Preconditions"), (28, .class_ 56), (0, u "jdk/internal/util/Preconditions$4"), (57, .class_ 115), (0, u "jdk/internal/util/Preconditions$1"), (7, u "SIOOBE_FORMATTER"), (0, u "Ljava/util/function/BiFunction;"), (0, .class_ 126), (0, u "jdk/internal/util/Preconditions$2"), (3, u "AIOOBE_FORMATTER"), (0, .class_ 132), (0, u "jdk/internal/util/Preconditions$3"), (3, u "IOOBE_FORMATTER")] 57

def k12m0 : Method := { name := "<init>", desc := "()V", sig := { parameters := [], returnType := none }, accessFlags := 1, code := none }
/-- jdk/internal/util/Preconditions -/
def k12 : Class := { plain "jdk/internal/util/Preconditions" (some 0) with
  accessFlags := 33
  interfaces := #[]
  cf := some (fileOf pool12 24 #[.nestMembers #[55, 131, 125, 114]] #[{ accessFlags := 1, nameIndex := 5, descriptorIndex := 6, attributes := #[] }] 33 2 #[] #[{ accessFlags := 25, nameIndex := 123, descriptorIndex := 124, attributes := #[] }, { accessFlags := 25, nameIndex := 130, descriptorIndex := 124, attributes := #[] }, { accessFlags := 25, nameIndex := 136, descriptorIndex := 124, attributes := #[] }])
  fields := #[{ name := "SIOOBE_FORMATTER", type := (.object "java/util/function/BiFunction"), accessFlags := 25, slot := 0, constantValue := 0 }, { name := "AIOOBE_FORMATTER", type := (.object "java/util/function/BiFunction"), accessFlags := 25, slot := 1, constantValue := 0 }, { name := "IOOBE_FORMATTER", type := (.object "java/util/function/BiFunction"), accessFlags := 25, slot := 2, constantValue := 0 }]
  methods := #[k12m0]
  instanceTypes := #[]
  staticTypes := #[(.object "java/util/function/BiFunction"), (.object "java/util/function/BiFunction"), (.object "java/util/function/BiFunction")]
  resolved := Array.replicate 194 none
  statics := some 1 }

def pool13 : Array CpInfo := pool [(9, u "<init>"), (6, .class_ 18), (1, u "java/lang/Object"), (0, u "()V"), (1, .class_ 23), (1, u "jdk/internal/util/ArraysSupport"), (0, u "LOG2_ARRAY_LONG_INDEX_SCALE"), (0, u "I"), (2, u "U"), (0, u "Ljdk/internal/misc/Unsafe;"), (8, u "BIG_ENDIAN"), (0, u "Z"), (8, u "LOG2_BYTE_BIT_SIZE"), (4, u "LOG2_ARRAY_INT_INDEX_SCALE"), (54, u "JLA"), (0, u "Ljdk/internal/access/JavaLangAccess;"), (11, u "LOG2_ARRAY_BOOLEAN_INDEX_SCALE"), (9, u "LOG2_ARRAY_BYTE_INDEX_SCALE"), (5, u "LOG2_ARRAY_CHAR_INDEX_SCALE"), (5, u "LOG2_ARRAY_SHORT_INDEX_SCALE"), (18, u "LOG2_ARRAY_FLOAT_INDEX_SCALE"), (24, u "LOG2_ARRAY_DOUBLE_INDEX_SCALE"), (89, u "T_BOOLEAN"), (2, u "T_CHAR"), (1, u "T_FLOAT"), (1, u "T_DOUBLE"), (1, u "T_BYTE"), (1, u "T_SHORT"), (1, u "T_INT"), (1, u "T_LONG"), (1, u "SOFT_MAX_ARRAY_LENGTH")] 83

def k13m0 : Method := { name := "<init>", desc := "()V", sig := { parameters := [], returnType := none }, accessFlags := 2, code := none }
/-- jdk/internal/util/ArraysSupport -/
def k13 : Class := { plain "jdk/internal/util/ArraysSupport" (some 0) with
  accessFlags := 33
  interfaces := #[]
  cf := some (fileOf pool13 21 #[] #[{ accessFlags := 2, nameIndex := 9, descriptorIndex := 19, attributes := #[] }] 33 16 #[] #[{ accessFlags := 24, nameIndex := 28, descriptorIndex := 29, attributes := #[] }, { accessFlags := 26, nameIndex := 38, descriptorIndex := 39, attributes := #[] }, { accessFlags := 25, nameIndex := 121, descriptorIndex := 25, attributes := #[] }, { accessFlags := 25, nameIndex := 131, descriptorIndex := 25, attributes := #[] }, { accessFlags := 25, nameIndex := 137, descriptorIndex := 25, attributes := #[] }, { accessFlags := 25, nameIndex := 143, descriptorIndex := 25, attributes := #[] }, { accessFlags := 25, nameIndex := 53, descriptorIndex := 25, attributes := #[] }, { accessFlags := 25, nameIndex := 24, descriptorIndex := 25, attributes := #[] }, { accessFlags := 25, nameIndex := 162, descriptorIndex := 25, attributes := #[] }, { accessFlags := 25, nameIndex := 187, descriptorIndex := 25, attributes := #[] }, { accessFlags := 26, nameIndex := 48, descriptorIndex := 25, attributes := #[] }, { accessFlags := 25, nameIndex := 277, descriptorIndex := 25, attributes := #[] }, { accessFlags := 25, nameIndex := 280, descriptorIndex := 25, attributes := #[] }, { accessFlags := 25, nameIndex := 282, descriptorIndex := 25, attributes := #[] }, { accessFlags := 25, nameIndex := 284, descriptorIndex := 25, attributes := #[] }, { accessFlags := 25, nameIndex := 286, descriptorIndex := 25, attributes := #[] }, { accessFlags := 25, nameIndex := 288, descriptorIndex := 25, attributes := #[] }, { accessFlags := 25, nameIndex := 290, descriptorIndex := 25, attributes := #[] }, { accessFlags := 25, nameIndex := 292, descriptorIndex := 25, attributes := #[] }, { accessFlags := 26, nameIndex := 108, descriptorIndex := 109, attributes := #[] }, { accessFlags := 25, nameIndex := 294, descriptorIndex := 25, attributes := #[] }])
  fields := #[{ name := "U", type := (.object "jdk/internal/misc/Unsafe"), accessFlags := 24, slot := 0, constantValue := 0 }, { name := "BIG_ENDIAN", type := .boolean, accessFlags := 26, slot := 1, constantValue := 0 }, { name := "LOG2_ARRAY_BOOLEAN_INDEX_SCALE", type := .int, accessFlags := 25, slot := 2, constantValue := 0 }, { name := "LOG2_ARRAY_BYTE_INDEX_SCALE", type := .int, accessFlags := 25, slot := 3, constantValue := 0 }, { name := "LOG2_ARRAY_CHAR_INDEX_SCALE", type := .int, accessFlags := 25, slot := 4, constantValue := 0 }, { name := "LOG2_ARRAY_SHORT_INDEX_SCALE", type := .int, accessFlags := 25, slot := 5, constantValue := 0 }, { name := "LOG2_ARRAY_INT_INDEX_SCALE", type := .int, accessFlags := 25, slot := 6, constantValue := 0 }, { name := "LOG2_ARRAY_LONG_INDEX_SCALE", type := .int, accessFlags := 25, slot := 7, constantValue := 0 }, { name := "LOG2_ARRAY_FLOAT_INDEX_SCALE", type := .int, accessFlags := 25, slot := 8, constantValue := 0 }, { name := "LOG2_ARRAY_DOUBLE_INDEX_SCALE", type := .int, accessFlags := 25, slot := 9, constantValue := 0 }, { name := "LOG2_BYTE_BIT_SIZE", type := .int, accessFlags := 26, slot := 10, constantValue := 0 }, { name := "T_BOOLEAN", type := .int, accessFlags := 25, slot := 11, constantValue := 0 }, { name := "T_CHAR", type := .int, accessFlags := 25, slot := 12, constantValue := 0 }, { name := "T_FLOAT", type := .int, accessFlags := 25, slot := 13, constantValue := 0 }, { name := "T_DOUBLE", type := .int, accessFlags := 25, slot := 14, constantValue := 0 }, { name := "T_BYTE", type := .int, accessFlags := 25, slot := 15, constantValue := 0 }, { name := "T_SHORT", type := .int, accessFlags := 25, slot := 16, constantValue := 0 }, { name := "T_INT", type := .int, accessFlags := 25, slot := 17, constantValue := 0 }, { name := "T_LONG", type := .int, accessFlags := 25, slot := 18, constantValue := 0 }, { name := "JLA", type := (.object "jdk/internal/access/JavaLangAccess"), accessFlags := 26, slot := 19, constantValue := 0 }, { name := "SOFT_MAX_ARRAY_LENGTH", type := .int, accessFlags := 25, slot := 20, constantValue := 0 }]
  methods := #[k13m0]
  instanceTypes := #[]
  staticTypes := #[(.object "jdk/internal/misc/Unsafe"), .boolean, .int, .int, .int, .int, .int, .int, .int, .int, .int, .int, .int, .int, .int, .int, .int, .int, .int, (.object "jdk/internal/access/JavaLangAccess"), .int]
  resolved := Array.replicate 378 none
  statics := none }

def pool14 : Array CpInfo := pool [(1, u "java/lang/Cloneable"), (0, .class_ 1), (0, u "java/lang/Object"), (0, .class_ 3)] 3

/-- java/lang/Cloneable -/
def k14 : Class := { plain "java/lang/Cloneable" (some 0) with
  accessFlags := 1537
  interfaces := #[]
  cf := some (fileOf pool14 2 #[] #[] 1537 4 #[] #[])
  fields := #[]
  methods := #[]
  instanceTypes := #[]
  staticTypes := #[]
  resolved := Array.replicate 8 none
  statics := none }

/-- the primitive byte -/
def k15 : Class := { plain "byte" none with kind := .primitive 'B', accessFlags := 0x411 }
/-- [B -/
def k16 : Class := { plain "[B" (some 0) with kind := .array 15 .byte, interfaces := #[14, 2], accessFlags := 1041 }

/-- the primitive char -/
def k17 : Class := { plain "char" none with kind := .primitive 'C', accessFlags := 0x411 }
/-- [C -/
def k18 : Class := { plain "[C" (some 0) with kind := .array 17 .char, interfaces := #[14, 2], accessFlags := 1041 }

/-- the primitive int -/
def k19 : Class := { plain "int" none with kind := .primitive 'I', accessFlags := 0x411 }
/-- [I -/
def k20 : Class := { plain "[I" (some 0) with kind := .array 19 .int, interfaces := #[14, 2], accessFlags := 1041 }

def heap : Heap := #[{ cls := 7, slots := #[.long 0, .int 1, .null, .int 0, .null, .int 0, .int 0], vm := .statics 7 },
  { cls := 12, slots := #[.null, .null, .null], vm := .statics 12 }]
def classes : Array Class := #[k0, k1, k2, k3, k4, k5, k6, k7, k8, k9, k10, k11, k12, k13, k14, k15, k16, k17, k18, k19, k20]
def interned : List (Array UInt16 × Addr) := []
def slotsUsed : Nat := 10
def theMethod : MethodId := ⟨1, 1⟩
def args0 : Array Value := #[.int 3, .int 0, .int 0, .int 0]
def aboutOver (below : List Frame) : State where
  vm := { classes := classes, interned := interned.toArray }
  heap := heap
  slotsUsed := slotsUsed
  threads := #[{ frames := .invoking theMethod args0 :: below }]
def below0 : List Frame := [.native { method := ⟨0, 0⟩, args := #[] }]
def about1 : State := aboutOver below0
def p0 : Program := .bare "" "" ""
def e0 : Env := launch0.env 0 0 0
theorem w_frames : about1.frames = Frame.invoking theMethod args0 :: below0 := rfl
set_option maxRecDepth 65536 in
theorem w_args : argsFit about1.vm theMethod args0 = true := by decide +kernel
set_option maxRecDepth 65536 in
theorem w_heap : heapFits about1 = true := by decide +kernel
set_option maxRecDepth 65536 in
theorem w_runnable : about1.curStatus? = some .runnable := by decide +kernel
set_option maxRecDepth 65536 in
theorem w_alone : about1.alone = true := by decide +kernel
set_option maxRecDepth 65536 in
theorem w_named : about1.methodNamed? x = some theMethod := by decide +kernel
set_option maxRecDepth 65536 in
theorem w_hears : about1.hears theMethod below0 = true := by decide +kernel
set_option maxRecDepth 65536 in
theorem w_ripe : about1.ripe theMethod args0 below0 = true := by decide +kernel
theorem w_running : about1.status = .running := rfl
set_option maxRecDepth 65536 in
theorem w_room : about1.hasRoom e0.platform room_1 = true :=
  launch0.hasRoom_least _ room_1 (by decide +kernel) (by decide +kernel) (by decide +kernel) (by decide +kernel) (by decide +kernel) (by decide +kernel)
theorem allAtoms_all (ts : List Jvm.Cond) (a : Array Jvm.Value) (st : Jvm.State) : (allAtoms ts).before a st = ts.all (fun c => c.before a st) := by
  induction ts with
  | nil => rfl
  | cons c t ih =>
    show (Jvm.Cond.and c (allAtoms t)).before a st = _
    rw [Jvm.Cond.before_and, ih, List.all_cons]
def words1 : List Jvm.Cond := Jvm.Cond.code x code maxLocals ret :: tables_1
/-- a 'code' word, met by the world's own term for the bytes: nothing is compared byte by byte -/
theorem code_word {y : MethodName} {bytes : ByteArray} {mx : Nat} {rt : Option FieldType} {a : Array Value} {s : State} {m : MethodId} {meth : Method} {c : Code} (h1 : s.methodNamed? y = some m) (h2 : s.vm.method? m = some meth) (h3 : meth.code = some c) (h4 : c.code = bytes)
    (h5 : (c.maxLocals == mx && c.exceptionTable.isEmpty && decide (c.maxStack ≤ mostOperands) && decide (meth.sig.returnType = rt) && !meth.locks && decide (parseMethodDescriptor y.desc = some meth.sig)) = true) : (Jvm.Cond.code y bytes mx rt).before a s = true := by
  simp only [Bool.and_eq_true, beq_iff_eq, Bool.not_eq_true', decide_eq_true_eq] at h5
  obtain ⟨⟨⟨⟨⟨g1, g2⟩, g3⟩, g4⟩, g5⟩, g6⟩ := h5
  simp [Cond.before, Cond.holds, Cond.value, h1, h2, h3, h4, g1, g2, g3, g4, g5, g6]
def isCode : Jvm.Cond → Bool
  | .code _ _ _ _ => true
  | _ => false
theorem all_split {L : List Jvm.Cond} {P : Jvm.Cond → Bool} (h1 : L.all (fun c => isCode c || P c) = true) (h2 : ∀ c ∈ L.filter isCode, P c = true) : L.all P = true := by
  refine List.all_eq_true.mpr fun c hc => ?_
  have h := List.all_eq_true.mp h1 c hc
  rcases Bool.eq_false_or_eq_true (isCode c) with hi | hi
  · exact h2 c (List.mem_filter.mpr ⟨hc, hi⟩)
  · simpa [hi] using h
set_option maxRecDepth 65536 in
theorem w_c0 : (Jvm.Cond.code x code maxLocals ret).before args0 about1 = true := code_word (m := ⟨1, 1⟩) (meth := k1m1) (c := k1c1) (by decide +kernel) rfl rfl rfl (by decide +kernel)
set_option maxRecDepth 65536 in
theorem w_c1 : (Jvm.Cond.code ({ cls := "java/lang/String", name := "<init>", desc := "([C)V" } : Jvm.MethodName) jdk_42_method_3_code (2 : Nat) (Option.none : Option Jvm.ClassFile.FieldType)).before args0 about1 = true := code_word (m := ⟨7, 1⟩) (meth := k7m1) (c := k7c1) (by decide +kernel) rfl rfl rfl (by decide +kernel)
set_option maxRecDepth 65536 in
theorem w_c2 : (Jvm.Cond.code ({ cls := "java/lang/String", name := "<init>", desc := "([CIILjava/lang/Void;)V" } : Jvm.MethodName) jdk_42_method_149_code (6 : Nat) (Option.none : Option Jvm.ClassFile.FieldType)).before args0 about1 = true := code_word (m := ⟨7, 4⟩) (meth := k7m4) (c := k7c4) (by decide +kernel) rfl rfl rfl (by decide +kernel)
set_option maxRecDepth 65536 in
theorem w_c3 : (Jvm.Cond.code ({ cls := "java/lang/Object", name := "<init>", desc := "()V" } : Jvm.MethodName) object_method_1_code (1 : Nat) (Option.none : Option Jvm.ClassFile.FieldType)).before args0 about1 = true := code_word (m := ⟨0, 0⟩) (meth := k0m0) (c := k0c0) (by decide +kernel) rfl rfl rfl (by decide +kernel)
set_option maxRecDepth 65536 in
theorem w_c4 : (Jvm.Cond.code ({ cls := "java/lang/StringUTF16", name := "compress", desc := "([CII)[B" } : Jvm.MethodName) jdk_52_method_16_code (6 : Nat) (Option.some (Jvm.ClassFile.FieldType.array Jvm.ClassFile.FieldType.byte))).before args0 about1 = true := code_word (m := ⟨8, 2⟩) (meth := k8m2) (c := k8c2) (by decide +kernel) rfl rfl rfl (by decide +kernel)
set_option maxRecDepth 65536 in
theorem w_c5 : (Jvm.Cond.code ({ cls := "java/lang/StringUTF16", name := "compress", desc := "([CI[BII)I" } : Jvm.MethodName) jdk_52_method_21_code (7 : Nat) (Option.some Jvm.ClassFile.FieldType.int)).before args0 about1 = true := code_word (m := ⟨8, 3⟩) (meth := k8m3) (c := k8c3) (by decide +kernel) rfl rfl rfl (by decide +kernel)
set_option maxRecDepth 65536 in
theorem w_c6 : (Jvm.Cond.code ({ cls := "java/lang/StringUTF16", name := "coderFromArrayLen", desc := "([BI)B" } : Jvm.MethodName) jdk_52_method_15_code (2 : Nat) (Option.some Jvm.ClassFile.FieldType.byte)).before args0 about1 = true := code_word (m := ⟨8, 1⟩) (meth := k8m1) (c := k8c1) (by decide +kernel) rfl rfl rfl (by decide +kernel)
set_option maxRecDepth 65536 in
theorem w_c7 : (Jvm.Cond.code ({ cls := "com/example/beija_flor/beijaflor/brcode/BrCode", name := "<init>", desc := "(Ljava/lang/String;Ljava/lang/String;Ljava/lang/String;Ljava/lang/String;Ljava/lang/String;Ljava/lang/String;Ljava/lang/String;Ljava/lang/String;Ljava/lang/String;Ljava/lang/String;Ljava/lang/String;Ljava/lang/String;)V" } : Jvm.MethodName) prog_2_method_1_code (13 : Nat) (Option.none : Option Jvm.ClassFile.FieldType)).before args0 about1 = true := code_word (m := ⟨10, 0⟩) (meth := k10m0) (c := k10c0) (by decide +kernel) rfl rfl rfl (by decide +kernel)
set_option maxRecDepth 65536 in
theorem w_c8 : (Jvm.Cond.code ({ cls := "java/lang/Record", name := "<init>", desc := "()V" } : Jvm.MethodName) jdk_30_method_1_code (1 : Nat) (Option.none : Option Jvm.ClassFile.FieldType)).before args0 about1 = true := code_word (m := ⟨9, 0⟩) (meth := k9m0) (c := k9c0) (by decide +kernel) rfl rfl rfl (by decide +kernel)
set_option maxRecDepth 65536 in
theorem w_c9 : (Jvm.Cond.code ({ cls := "com/example/beija_flor/beijaflor/brcode/BrCode", name := "isDynamic", desc := "()Z" } : Jvm.MethodName) prog_2_method_3_code (1 : Nat) (Option.some Jvm.ClassFile.FieldType.boolean)).before args0 about1 = true := code_word (m := ⟨10, 1⟩) (meth := k10m1) (c := k10c1) (by decide +kernel) rfl rfl rfl (by decide +kernel)
set_option maxRecDepth 65536 in
theorem w_c10 : (Jvm.Cond.code ({ cls := "java/lang/String", name := "equals", desc := "(Ljava/lang/Object;)Z" } : Jvm.MethodName) jdk_42_method_66_code (3 : Nat) (Option.some Jvm.ClassFile.FieldType.boolean)).before args0 about1 = true := code_word (m := ⟨7, 2⟩) (meth := k7m2) (c := k7c2) (by decide +kernel) rfl rfl rfl (by decide +kernel)
set_option maxRecDepth 65536 in
theorem w_c11 : (Jvm.Cond.code ({ cls := "java/lang/String", name := "valueOf", desc := "(C)Ljava/lang/String;" } : Jvm.MethodName) jdk_42_method_139_code (1 : Nat) (Option.some (Jvm.ClassFile.FieldType.object "java/lang/String"))).before args0 about1 = true := code_word (m := ⟨7, 3⟩) (meth := k7m3) (c := k7c3) (by decide +kernel) rfl rfl rfl (by decide +kernel)
set_option maxRecDepth 65536 in
theorem w_c12 : (Jvm.Cond.code ({ cls := "java/lang/StringLatin1", name := "canEncode", desc := "(C)Z" } : Jvm.MethodName) jdk_43_method_3_code (1 : Nat) (Option.some Jvm.ClassFile.FieldType.boolean)).before args0 about1 = true := code_word (m := ⟨11, 1⟩) (meth := k11m1) (c := k11c1) (by decide +kernel) rfl rfl rfl (by decide +kernel)
set_option maxRecDepth 65536 in
theorem w_c13 : (Jvm.Cond.code ({ cls := "java/lang/StringLatin1", name := "toBytes", desc := "(C)[B" } : Jvm.MethodName) jdk_43_method_46_code (1 : Nat) (Option.some (Jvm.ClassFile.FieldType.array Jvm.ClassFile.FieldType.byte))).before args0 about1 = true := code_word (m := ⟨11, 3⟩) (meth := k11m3) (c := k11c3) (by decide +kernel) rfl rfl rfl (by decide +kernel)
set_option maxRecDepth 65536 in
theorem w_c14 : (Jvm.Cond.code ({ cls := "java/lang/String", name := "<init>", desc := "([BB)V" } : Jvm.MethodName) jdk_42_method_151_code (3 : Nat) (Option.none : Option Jvm.ClassFile.FieldType)).before args0 about1 = true := code_word (m := ⟨7, 5⟩) (meth := k7m5) (c := k7c5) (by decide +kernel) rfl rfl rfl (by decide +kernel)
set_option maxRecDepth 65536 in
theorem w_c15 : (Jvm.Cond.code ({ cls := "java/lang/StringLatin1", name := "equals", desc := "([B[B)Z" } : Jvm.MethodName) jdk_43_method_13_code (3 : Nat) (Option.some Jvm.ClassFile.FieldType.boolean)).before args0 about1 = true := code_word (m := ⟨11, 2⟩) (meth := k11m2) (c := k11c2) (by decide +kernel) rfl rfl rfl (by decide +kernel)
def codes1 : List Jvm.Cond := [Jvm.Cond.code x code maxLocals ret, Jvm.Cond.code ({ cls := "java/lang/String", name := "<init>", desc := "([C)V" } : Jvm.MethodName) jdk_42_method_3_code (2 : Nat) (Option.none : Option Jvm.ClassFile.FieldType), Jvm.Cond.code ({ cls := "java/lang/String", name := "<init>", desc := "([CIILjava/lang/Void;)V" } : Jvm.MethodName) jdk_42_method_149_code (6 : Nat) (Option.none : Option Jvm.ClassFile.FieldType), Jvm.Cond.code ({ cls := "java/lang/Object", name := "<init>", desc := "()V" } : Jvm.MethodName) object_method_1_code (1 : Nat) (Option.none : Option Jvm.ClassFile.FieldType), Jvm.Cond.code ({ cls := "java/lang/StringUTF16", name := "compress", desc := "([CII)[B" } : Jvm.MethodName) jdk_52_method_16_code (6 : Nat) (Option.some (Jvm.ClassFile.FieldType.array Jvm.ClassFile.FieldType.byte)), Jvm.Cond.code ({ cls := "java/lang/StringUTF16", name := "compress", desc := "([CI[BII)I" } : Jvm.MethodName) jdk_52_method_21_code (7 : Nat) (Option.some Jvm.ClassFile.FieldType.int), Jvm.Cond.code ({ cls := "java/lang/StringUTF16", name := "coderFromArrayLen", desc := "([BI)B" } : Jvm.MethodName) jdk_52_method_15_code (2 : Nat) (Option.some Jvm.ClassFile.FieldType.byte), Jvm.Cond.code ({ cls := "com/example/beija_flor/beijaflor/brcode/BrCode", name := "<init>", desc := "(Ljava/lang/String;Ljava/lang/String;Ljava/lang/String;Ljava/lang/String;Ljava/lang/String;Ljava/lang/String;Ljava/lang/String;Ljava/lang/String;Ljava/lang/String;Ljava/lang/String;Ljava/lang/String;Ljava/lang/String;)V" } : Jvm.MethodName) prog_2_method_1_code (13 : Nat) (Option.none : Option Jvm.ClassFile.FieldType), Jvm.Cond.code ({ cls := "java/lang/Record", name := "<init>", desc := "()V" } : Jvm.MethodName) jdk_30_method_1_code (1 : Nat) (Option.none : Option Jvm.ClassFile.FieldType), Jvm.Cond.code ({ cls := "com/example/beija_flor/beijaflor/brcode/BrCode", name := "isDynamic", desc := "()Z" } : Jvm.MethodName) prog_2_method_3_code (1 : Nat) (Option.some Jvm.ClassFile.FieldType.boolean), Jvm.Cond.code ({ cls := "java/lang/String", name := "equals", desc := "(Ljava/lang/Object;)Z" } : Jvm.MethodName) jdk_42_method_66_code (3 : Nat) (Option.some Jvm.ClassFile.FieldType.boolean), Jvm.Cond.code ({ cls := "java/lang/String", name := "valueOf", desc := "(C)Ljava/lang/String;" } : Jvm.MethodName) jdk_42_method_139_code (1 : Nat) (Option.some (Jvm.ClassFile.FieldType.object "java/lang/String")), Jvm.Cond.code ({ cls := "java/lang/StringLatin1", name := "canEncode", desc := "(C)Z" } : Jvm.MethodName) jdk_43_method_3_code (1 : Nat) (Option.some Jvm.ClassFile.FieldType.boolean), Jvm.Cond.code ({ cls := "java/lang/StringLatin1", name := "toBytes", desc := "(C)[B" } : Jvm.MethodName) jdk_43_method_46_code (1 : Nat) (Option.some (Jvm.ClassFile.FieldType.array Jvm.ClassFile.FieldType.byte)), Jvm.Cond.code ({ cls := "java/lang/String", name := "<init>", desc := "([BB)V" } : Jvm.MethodName) jdk_42_method_151_code (3 : Nat) (Option.none : Option Jvm.ClassFile.FieldType), Jvm.Cond.code ({ cls := "java/lang/StringLatin1", name := "equals", desc := "([B[B)Z" } : Jvm.MethodName) jdk_43_method_13_code (3 : Nat) (Option.some Jvm.ClassFile.FieldType.boolean)]
set_option maxRecDepth 65536 in
theorem codes_eq : words1.filter isCode = codes1 := rfl
theorem w_codes : ∀ c ∈ words1.filter isCode, c.before args0 about1 = true := by
  rw [codes_eq]
  intro c hc
  simp only [codes1, List.mem_cons, List.not_mem_nil, or_false] at hc
  rcases hc with rfl | rfl | rfl | rfl | rfl | rfl | rfl | rfl | rfl | rfl | rfl | rfl | rfl | rfl | rfl | rfl
  · exact w_c0
  · exact w_c1
  · exact w_c2
  · exact w_c3
  · exact w_c4
  · exact w_c5
  · exact w_c6
  · exact w_c7
  · exact w_c8
  · exact w_c9
  · exact w_c10
  · exact w_c11
  · exact w_c12
  · exact w_c13
  · exact w_c14
  · exact w_c15
set_option maxRecDepth 65536 in
theorem w_t1 : (words1.take 24).all (fun c => isCode c || c.before args0 about1) = true := by decide +kernel
set_option maxRecDepth 65536 in
theorem w_t2 : ((words1.drop 24).take 24).all (fun c => isCode c || c.before args0 about1) = true := by decide +kernel
set_option maxRecDepth 65536 in
theorem w_t3 : (((words1.drop 24).drop 24).take 24).all (fun c => isCode c || c.before args0 about1) = true := by decide +kernel
set_option maxRecDepth 65536 in
theorem w_t4 : ((((words1.drop 24).drop 24).drop 24).take 24).all (fun c => isCode c || c.before args0 about1) = true := by decide +kernel
set_option maxRecDepth 65536 in
theorem w_t5 : ((((words1.drop 24).drop 24).drop 24).drop 24).all (fun c => isCode c || c.before args0 about1) = true := by decide +kernel
theorem w_tables : (allAtoms (Jvm.Cond.code x code maxLocals ret :: tables_1)).before args0 about1 = true := by
  rw [allAtoms_all]
  show words1.all (fun c => c.before args0 about1) = true
  refine all_split ?_ w_codes
  rw [← List.take_append_drop 24 words1, List.all_append, w_t1, ← List.take_append_drop 24 (words1.drop 24), List.all_append, w_t2, ← List.take_append_drop 24 ((words1.drop 24).drop 24), List.all_append, w_t3, ← List.take_append_drop 24 (((words1.drop 24).drop 24).drop 24), List.all_append, w_t4, w_t5]
  rfl
set_option maxRecDepth 65536 in
theorem w_rest : rest_1_c.before args0 about1 = true := by decide +kernel
set_option maxRecDepth 65536 in
theorem w_case : (Jvm.Cond.and given_1 narrow_1).before args0 about1 = true := by decide +kernel
set_option maxRecDepth 65536 in
theorem w_consts : constsHeld consts_1 about1 := Jvm.Lit.constsHeldB_iff.mp (by decide +kernel)
theorem w_applies : (headSpec (Jvm.Cond.code x code maxLocals ret :: tables_1) room_1).applies x e0.platform about1 = true :=
  (Spec.applies_iff w_frames).mpr ⟨w_running, w_runnable, w_alone, w_named, w_hears, w_ripe, w_room, w_tables⟩
theorem atStart : AtStart classFile x code maxLocals ret World_1 tables_1 room_1 Calls_1 rest_1 Pre_1 launch0 p0 e0 about1 theMethod args0 below0 :=
  ⟨lists_1, trivial, launch0.admits_env _ _ _, launch0.least_env, fairChoices_fair.cas, fairChoices_fair.clock, w_frames, w_args, w_heap, w_applies, ⟨w_consts, trivial⟩, w_rest, w_case⟩
end start1
theorem witness_1 : WitnessClaimed_1 := ⟨start1.p0, start1.e0, start1.about1, start1.theMethod, start1.args0, start1.below0, start1.atStart⟩
end Jvm.Pilot.@@N@@
