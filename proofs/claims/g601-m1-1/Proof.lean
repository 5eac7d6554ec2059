import JvmDerived
import JvmDerived.Pilot.@@N@@Statement
import JvmDerived.Pilot.@@N@@Code
set_option linter.unusedVariables false
set_option linter.unusedSimpArgs false
/- laws to paste: Road.backV, Road.lenW, Road.chN, Road.codOf (cut by pick.py; bodies as the Statement names them) -/
namespace Jvm.Pilot.@@N@@
namespace StrChars
open Jvm Sem ClassFile Op Lib Jvm.Stand Jvm.Free.XT Jvm.Free.ALB Jvm.Free.JM Jvm.Free
open Jvm.Lib.Cold (StaticIs)
/-- a char array whose places are chars -/
def Ch (a : Addr) (A : Cell) (U : State) : Prop := Arr .char a A U ∧ Typed .char A
theorem Ch.mv {a : Addr} {A : Cell} {U U' : State} (h : Ch a A U) (hal : U.vm.Alike U'.vm) (hh : U'.heap = U.heap) : Ch a A U' := ⟨h.1.mv hal hh, h.2⟩
theorem Ch.keep {a : Addr} {A : Cell} {U U' : State} (h : Ch a A U) (hal : U.vm.Alike U'.vm) (hk : U'.heap[a]? = some A) : Ch a A U' := ⟨h.1.keep hal hk, h.2⟩
/-- what place i of a char[]'s cell holds -/
def cv (A : Cell) (i : Nat) : Int32 := match A.slots[i]? with | some (.int x) => x | _ => 0
theorem Ch.get {a : Addr} {A : Cell} {U : State} (h : Ch a A U) {i : Nat} (hi : i < A.slots.size) : A.slots[i]? = some (.int (cv A i)) := by
  have e := Array.getElem?_eq_getElem hi
  have f := h.2 i _ e
  unfold cv; rw [e]
  generalize A.slots[i] = v at f
  cases v <;> simp [fits] at f ⊢
/-- the byte that i2b leaves of a char -/
def lo8 (x : Int32) : Int32 := x.toInt8.toInt32
theorem fits_lo8 (y : Int32) : fits .byte (.int (lo8 y)) = true := by
  have h1 := y.toInt8.le_toInt
  have h2 := y.toInt8.toInt_lt
  simp only [lo8, fits, Bool.and_eq_true, decide_eq_true_eq, Int32.le_iff_toInt_le, Int8.toInt_toInt32, show (-128 : Int32).toInt = -128 from by decide, show (127 : Int32).toInt = 127 from by decide]
  omega
/-- A' is A but that each place j of lo .. hi - 1 holds f j -/
def Laid (A A' : Cell) (lo hi : Nat) (f : Nat → Value) : Prop := A'.cls = A.cls ∧ A'.vm = A.vm ∧ A'.slots.size = A.slots.size ∧ ∀ i, A'.slots[i]? = if lo ≤ i ∧ i < hi then some (f i) else A.slots[i]?
theorem Laid.zero (A : Cell) (lo : Nat) (f : Nat → Value) : Laid A A lo (lo + 0) f := ⟨rfl, rfl, rfl, fun i => by rw [if_neg (by omega)]⟩
theorem Laid.step {A Ak : Cell} {lo k : Nat} {f : Nat → Value} {v : Value} (h : Laid A Ak lo k f) (hlo : lo ≤ k) (hk : k < Ak.slots.size) (hv : v = f k) : Laid A (Ak.setSlot k v) lo (k + 1) f := by
  refine ⟨h.1, h.2.1, by simpa [Cell.setSlot] using h.2.2.1, fun i => ?_⟩
  by_cases e : k = i
  · subst e; rw [Cell.slots_setSlot_self v hk, if_pos (by omega), hv]
  · rw [Cell.slots_setSlot_ne v e, h.2.2.2 i]
    by_cases q : lo ≤ i ∧ i < k
    · rw [if_pos q, if_pos (by omega)]
    · rw [if_neg q, if_neg (by omega)]
def U16 : String := "java/lang/StringUTF16"
namespace Cmp5
def yN : MethodName := ⟨"java/lang/StringUTF16", "compress", "([CI[BII)I"⟩
abbrev yB : ByteArray := jdk_52_method_21_code
theorem d0 : decode yB 0 = .ok (.iconst 0, 1) := by decide +kernel
theorem d1 : decode yB 1 = .ok (.istore 5, 2) := by decide +kernel
theorem d3 : decode yB 3 = .ok (.iload 5, 2) := by decide +kernel
theorem d5 : decode yB 5 = .ok (.iload 4, 2) := by decide +kernel
theorem d7 : decode yB 7 = .ok (.if_icmp (.ge) 37, 3) := by decide +kernel
theorem d10 : decode yB 10 = .ok (.aload_n 0, 1) := by decide +kernel
theorem d11 : decode yB 11 = .ok (.iload_n 1, 1) := by decide +kernel
theorem d12 : decode yB 12 = .ok (.caload, 1) := by decide +kernel
theorem d13 : decode yB 13 = .ok (.istore 6, 2) := by decide +kernel
theorem d15 : decode yB 15 = .ok (.iload 6, 2) := by decide +kernel
theorem d17 : decode yB 17 = .ok (.sipush 255, 3) := by decide +kernel
theorem d20 : decode yB 20 = .ok (.if_icmp (.le) 6, 3) := by decide +kernel
theorem d26 : decode yB 26 = .ok (.aload_n 2, 1) := by decide +kernel
theorem d27 : decode yB 27 = .ok (.iload_n 3, 1) := by decide +kernel
theorem d28 : decode yB 28 = .ok (.iload 6, 2) := by decide +kernel
theorem d30 : decode yB 30 = .ok (.i2b, 1) := by decide +kernel
theorem d31 : decode yB 31 = .ok (.bastore, 1) := by decide +kernel
theorem d32 : decode yB 32 = .ok (.iinc 1 1, 3) := by decide +kernel
theorem d35 : decode yB 35 = .ok (.iinc 3 1, 3) := by decide +kernel
theorem d38 : decode yB 38 = .ok (.iinc 5 1, 3) := by decide +kernel
theorem d41 : decode yB 41 = .ok (.goto (-38), 3) := by decide +kernel
theorem d44 : decode yB 44 = .ok (.iload 4, 2) := by decide +kernel
theorem d46 : decode yB 46 = .ok (.ireturn, 1) := by decide +kernel
def site : List Cond := []
def tab : Cond := tabOf yN yB 7 (some .int) site
def P (b : Addr) (A : Cell) (d : Addr) (B : Cell) (o q len : Nat) (args : Array Value) (s : State) : Prop := args = #[.ref b, .int (Int32.ofNat o), .ref d, .int (Int32.ofNat q), .int (Int32.ofNat len)] ∧ Ch b A s ∧ Arr .byte d B s ∧ b ≠ d ∧ o + len ≤ A.slots.size ∧ q + len ≤ B.slots.size ∧ ∀ i, i < len → ¬ 255 < cv A (o + i)
def E (b : Addr) (A : Cell) (d : Addr) (B : Cell) (o q len : Nat) (r : Option Value) (s u : State) : Prop := r = some (.int (Int32.ofNat len)) ∧ ∃ B', Put d B' s u ∧ Laid B B' q (q + len) (fun j => Value.int (lo8 (cv A (o + (j - q)))))
/-- no char of the range above 255: len; the places written hold each char's low byte -/
theorem law (l : Launch) (b : Addr) (A : Cell) (d : Addr) (B : Cell) (o q len : Nat) : Law l yN 5 5 0 0 yB 7 (some .int) site (P b A d B o q len) (E b A d B o q len) (copyLocs d q len) 0 0 := by
  refine Law.of_walk (plainFor_of_name (by decide +kernel)) (by decide +kernel) (by decide +kernel) (by decide) (fun _ _ h => by rw [h.1]; rfl) (fun _ U U' hal hh h => ⟨h.1, h.2.1.mv hal hh, h.2.2.1.mv hal hh, h.2.2.2⟩) (fun r U U' V V' h1 hal h2 h => ⟨h.1, h.2.elim fun B' q => ⟨B', q.1.mv h1 h2, q.2⟩⟩) ?_
  intro p e s m args below meth c s₁ X0 hexec hbytes hml hret hlk hnm hown hh0 W hP
  obtain ⟨rfl, hA, hB, hne, l1, l2, hp⟩ := hP
  have c1 : Steps p.tables e below (s₁.setTop (entryFrame m #[.ref b, .int (Int32.ofNat o), .ref d, .int (Int32.ofNat q), .int (Int32.ofNat len)] 7)) (s₁.setTop (mkF m 0 #[.val (.ref b), .val (.int (Int32.ofNat o)), .val (.ref d), .val (.int (Int32.ofNat q)), .val (.int (Int32.ofNat len)), .unset, .unset] [])) := entry rfl
  have hA0 := hA.1.mv X0.warmed.alike hh0
  have hB0 := hB.mv X0.warmed.alike hh0
  have a31 := hA.1.2.2.2
  have c2 : Steps p.tables e below (s₁.setTop (entryFrame m #[.ref b, .int (Int32.ofNat o), .ref d, .int (Int32.ofNat q), .int (Int32.ofNat len)] 7)) (s₁.setTop (mkF m 3 #[.val (.ref b), .val (.int (Int32.ofNat o)), .val (.ref d), .val (.int (Int32.ofNat q)), .val (.int (Int32.ofNat len)), .val (.int 0), .unset] [])) := c1.trans (by
    refine iconstV X0.here hexec rfl 0 (hb hbytes d0) (by decide) ?_
    refine XS.istore X0.here hexec rfl (hb hbytes d1) rfl rfl ?_
    exact Steps.refl _)
  have loop : ∀ (r i : Nat), i + r = len → ∀ (z : Slot), (z = .unset ∨ ∃ w, z = .val w ∧ w.category = 1) → ∀ (Tl : State) (Bk : Cell), Stand p l e { frames := 0, locals := 0, cells := 0, slots := 0 } s m #[.ref b, .int (Int32.ofNat o), .ref d, .int (Int32.ofNat q), .int (Int32.ofNat len)] below meth c Tl ([] ++ copyLocs d q i) 0 0 → Put d Bk s₁ Tl → Laid B Bk q (q + i) (fun j => Value.int (lo8 (cv A (o + (j - q))))) →
      Steps p.tables e below (s₁.setTop (entryFrame m #[.ref b, .int (Int32.ofNat o), .ref d, .int (Int32.ofNat q), .int (Int32.ofNat len)] 7)) (Tl.setTop (mkF m 3 #[.val (.ref b), .val (.int (Int32.ofNat (o + i))), .val (.ref d), .val (.int (Int32.ofNat (q + i))), .val (.int (Int32.ofNat len)), .val (.int (Int32.ofNat i)), z] [])) → ∃ (T' : State) (B' : Cell) (z' : Slot), Stand p l e { frames := 0, locals := 0, cells := 0, slots := 0 } s m #[.ref b, .int (Int32.ofNat o), .ref d, .int (Int32.ofNat q), .int (Int32.ofNat len)] below meth c T' ([] ++ copyLocs d q len) 0 0 ∧ Put d B' s₁ T' ∧ Laid B B' q (q + len) (fun j => Value.int (lo8 (cv A (o + (j - q))))) ∧
      Steps p.tables e below (s₁.setTop (entryFrame m #[.ref b, .int (Int32.ofNat o), .ref d, .int (Int32.ofNat q), .int (Int32.ofNat len)] 7)) (T'.setTop (mkF m 3 #[.val (.ref b), .val (.int (Int32.ofNat (o + len))), .val (.ref d), .val (.int (Int32.ofNat (q + len))), .val (.int (Int32.ofNat len)), .val (.int (Int32.ofNat len)), z'] [])) := by
    intro r
    induction r with
    | zero =>
      intro i hi z hz Tl Bk Xl pl fl cl
      have hil : i = len := by omega
      rw [hil] at Xl fl cl
      exact ⟨Tl, Bk, z, Xl, pl, fl, cl⟩
    | succ r ih =>
      intro i hi z hz Tl Bk Xl pl fl cl
      have all := X0.warmed.alike.symm.trans Xl.warmed.alike
      have hAl := hA0.keep all (pl.other hne hA0.1)
      have hBk := hB0.like all pl.1 fl.1 fl.2.1 fl.2.2.1
      have hlt : q + i < Bk.slots.size := by rw [fl.2.2.1]; omega
      have c3 : Steps p.tables e below (s₁.setTop (entryFrame m #[.ref b, .int (Int32.ofNat o), .ref d, .int (Int32.ofNat q), .int (Int32.ofNat len)] 7)) (Tl.setTop (mkF m 12 #[.val (.ref b), .val (.int (Int32.ofNat (o + i))), .val (.ref d), .val (.int (Int32.ofNat (q + i))), .val (.int (Int32.ofNat len)), .val (.int (Int32.ofNat i)), z] [.int (Int32.ofNat (o + i)), .ref b])) := cl.trans (by
        refine XS.iload Xl.here hexec rfl (hb hbytes d3) rfl ?_
        refine XS.iload Xl.here hexec rfl (hb hbytes d5) rfl ?_
        refine XS.icmpNo Xl.here hexec rfl (hb hbytes d7) rfl (ii_ge_f (lt32 (by omega) (by omega))) ?_
        refine XS.aloadN Xl.here hexec rfl (hb hbytes d10) rfl rfl ?_
        refine XS.iloadN Xl.here hexec rfl (hb hbytes d11) rfl ?_
        exact Steps.refl _)
      have c4 : Steps p.tables e below (s₁.setTop (entryFrame m #[.ref b, .int (Int32.ofNat o), .ref d, .int (Int32.ofNat q), .int (Int32.ofNat len)] 7)) (Tl.setTop (mkF m 13 #[.val (.ref b), .val (.int (Int32.ofNat (o + i))), .val (.ref d), .val (.int (Int32.ofNat (q + i))), .val (.int (Int32.ofNat len)), .val (.int (Int32.ofNat i)), z] [.int (cv A (o + i))])) := c3.trans (by
        refine Xl.aget hexec hAl rfl (hA.get (i := o + i) (by omega)) rfl rfl (hb hbytes d12) ?_
        exact Steps.refl _)
      have c5 : Steps p.tables e below (s₁.setTop (entryFrame m #[.ref b, .int (Int32.ofNat o), .ref d, .int (Int32.ofNat q), .int (Int32.ofNat len)] 7)) (Tl.setTop (mkF m 15 #[.val (.ref b), .val (.int (Int32.ofNat (o + i))), .val (.ref d), .val (.int (Int32.ofNat (q + i))), .val (.int (Int32.ofNat len)), .val (.int (Int32.ofNat i)), .val (.int (cv A (o + i)))] [])) := c4.trans (by
        refine XS.istoreS Xl.here hexec rfl (hb hbytes d13) rfl rfl hz ?_
        exact Steps.refl _)
      have c6 : Steps p.tables e below (s₁.setTop (entryFrame m #[.ref b, .int (Int32.ofNat o), .ref d, .int (Int32.ofNat q), .int (Int32.ofNat len)] 7)) (Tl.setTop (mkF m 31 #[.val (.ref b), .val (.int (Int32.ofNat (o + i))), .val (.ref d), .val (.int (Int32.ofNat (q + i))), .val (.int (Int32.ofNat len)), .val (.int (Int32.ofNat i)), .val (.int (cv A (o + i)))] [.int (lo8 (cv A (o + i))), .int (Int32.ofNat (q + i)), .ref d])) := c5.trans (by
        refine XS.iload Xl.here hexec rfl (hb hbytes d15) rfl ?_
        refine sipushV Xl.here hexec rfl 255 (hb hbytes d17) (by decide) ?_
        refine XS.icmpYes Xl.here hexec rfl (pc0 := 20) rfl (hb hbytes d20) rfl (ii_le_t (hp i (by omega))) (by decide) rfl ?_
        refine XS.aloadN Xl.here hexec rfl (hb hbytes d26) rfl rfl ?_
        refine XS.iloadN Xl.here hexec rfl (hb hbytes d27) rfl ?_
        refine XS.iload Xl.here hexec rfl (hb hbytes d28) rfl ?_
        refine i2b Xl.here hexec rfl (hb hbytes d30) rfl ?_
        exact Steps.refl _)
      obtain ⟨T7, X7, p7, st7⟩ := Xl.aput hexec hBk rfl hlt rfl (fits_lo8 (cv A (o + i))) (g := (mkF m 31 #[.val (.ref b), .val (.int (Int32.ofNat (o + i))), .val (.ref d), .val (.int (Int32.ofNat (q + i))), .val (.int (Int32.ofNat len)), .val (.int (Int32.ofNat i)), .val (.int (cv A (o + i)))] [.int (lo8 (cv A (o + i))), .int (Int32.ofNat (q + i)), .ref d])) rfl (rest := []) rfl (hb hbytes d31)
      have c8 : Steps p.tables e below (s₁.setTop (entryFrame m #[.ref b, .int (Int32.ofNat o), .ref d, .int (Int32.ofNat q), .int (Int32.ofNat len)] 7)) (T7.setTop (mkF m 32 #[.val (.ref b), .val (.int (Int32.ofNat (o + i))), .val (.ref d), .val (.int (Int32.ofNat (q + i))), .val (.int (Int32.ofNat len)), .val (.int (Int32.ofNat i)), .val (.int (cv A (o + i)))] [])) := c6.trans (st7 _ (Steps.refl _))
      have c9 : Steps p.tables e below (s₁.setTop (entryFrame m #[.ref b, .int (Int32.ofNat o), .ref d, .int (Int32.ofNat q), .int (Int32.ofNat len)] 7)) (T7.setTop (mkF m 3 #[.val (.ref b), .val (.int (Int32.ofNat (o + i) + 1)), .val (.ref d), .val (.int (Int32.ofNat (q + i) + 1)), .val (.int (Int32.ofNat len)), .val (.int (Int32.ofNat i + 1)), .val (.int (cv A (o + i)))] [])) := c8.trans (by
        refine iincV X7.here hexec rfl 1 (hb hbytes d32) (by decide) rfl rfl ?_
        refine iincV X7.here hexec rfl 1 (hb hbytes d35) (by decide) rfl rfl ?_
        refine iincV X7.here hexec rfl 1 (hb hbytes d38) (by decide) rfl rfl ?_
        refine XS.goto X7.here hexec rfl (pc0 := 41) rfl (hb hbytes d41) (by decide) rfl ?_
        exact Steps.refl _)
      have c10 : Steps p.tables e below (s₁.setTop (entryFrame m #[.ref b, .int (Int32.ofNat o), .ref d, .int (Int32.ofNat q), .int (Int32.ofNat len)] 7)) (T7.setTop (mkF m 3 #[.val (.ref b), .val (.int (Int32.ofNat (o + (i + 1)))), .val (.ref d), .val (.int (Int32.ofNat (q + (i + 1)))), .val (.int (Int32.ofNat len)), .val (.int (Int32.ofNat (i + 1))), .val (.int (cv A (o + i)))] [])) := by
        have := c9
        rw [succ32, succ32, succ32] at this
        exact this
      exact ih (i + 1) (by omega) _ (Or.inr ⟨_, rfl, rfl⟩) T7 _ (by rw [copyLocs_step, ← List.append_assoc]; exact X7) (pl.trans p7) (fl.step (by omega) hlt (by simp)) c10
  obtain ⟨T9, B9, z9, X9, p9, f9, g9⟩ := loop len 0 (by omega) .unset (Or.inl rfl) s₁ B (by simpa [copyLocs] using X0) ⟨hB0.1, fun _ _ => rfl, rfl⟩ (Laid.zero _ _ _) c2
  have c11 : Steps p.tables e below (s₁.setTop (entryFrame m #[.ref b, .int (Int32.ofNat o), .ref d, .int (Int32.ofNat q), .int (Int32.ofNat len)] 7)) (T9.setTop (mkF m 46 #[.val (.ref b), .val (.int (Int32.ofNat (o + len))), .val (.ref d), .val (.int (Int32.ofNat (q + len))), .val (.int (Int32.ofNat len)), .val (.int (Int32.ofNat len)), z9] [.int (Int32.ofNat len)])) := g9.trans (by
    refine XS.iload X9.here hexec rfl (hb hbytes d3) rfl ?_
    refine XS.iload X9.here hexec rfl (hb hbytes d5) rfl ?_
    refine XS.icmpYes X9.here hexec rfl (pc0 := 7) rfl (hb hbytes d7) rfl (ii_ge_t (nlt32 (by omega) (Nat.le_refl _))) (by decide) rfl ?_
    refine XS.iload X9.here hexec rfl (hb hbytes d44) rfl ?_
    exact Steps.refl _)
  exact ⟨T9, some (.int (Int32.ofNat len)), _, _, _, X9, by simp, rfl, rfl, (fun h => by cases h), ⟨rfl, B9, p9.from hh0, f9⟩, fun fs hl => c11.trans (X9.ireturnOut hexec hret rfl (Or.inl rfl) (hb hbytes d46) hl)⟩
end Cmp5
namespace Cmp3
def yN : MethodName := ⟨"java/lang/StringUTF16", "compress", "([CII)[B"⟩
abbrev yB : ByteArray := jdk_52_method_16_code
theorem d0 : decode yB 0 = .ok (.iload_n 2, 1) := by decide +kernel
theorem d1 : decode yB 1 = .ok (.newarray .byte, 2) := by decide +kernel
theorem d3 : decode yB 3 = .ok (.astore_n 3, 1) := by decide +kernel
theorem d4 : decode yB 4 = .ok (.aload_n 0, 1) := by decide +kernel
theorem d5 : decode yB 5 = .ok (.iload_n 1, 1) := by decide +kernel
theorem d6 : decode yB 6 = .ok (.aload_n 3, 1) := by decide +kernel
theorem d7 : decode yB 7 = .ok (.iconst 0, 1) := by decide +kernel
theorem d8 : decode yB 8 = .ok (.iload_n 2, 1) := by decide +kernel
theorem d9 : decode yB 9 = .ok (.invokestatic 115, 3) := by decide +kernel
theorem d12 : decode yB 12 = .ok (.istore 4, 2) := by decide +kernel
theorem d14 : decode yB 14 = .ok (.iload 4, 2) := by decide +kernel
theorem d16 : decode yB 16 = .ok (.iload_n 2, 1) := by decide +kernel
theorem d17 : decode yB 17 = .ok (.if_icmp (.eq) 40, 3) := by decide +kernel
theorem d57 : decode yB 57 = .ok (.aload_n 3, 1) := by decide +kernel
theorem d58 : decode yB 58 = .ok (.areturn, 1) := by decide +kernel
def site : List Cond := [.arrayClass .byte, Cmp5.tab] ++ staticW U16 115 Cmp5.yN
def tab : Cond := tabOf yN yB 6 (some (.array .byte)) site
def P (b : Addr) (A : Cell) (o len : Nat) (args : Array Value) (s : State) : Prop := args = #[.ref b, .int (Int32.ofNat o), .int (Int32.ofNat len)] ∧ Ch b A s ∧ o + len ≤ A.slots.size ∧ len ≤ 536870912 ∧ ∀ i, i < len → ¬ 255 < cv A (o + i)
def E (b : Addr) (A : Cell) (o len : Nat) (r : Option Value) (s u : State) : Prop := NewArr .byte "[B" len (fun j => .int (lo8 (cv A (o + j)))) r s u ∧ u.heap.size = s.heap.size + 1
/-- no char of the range above 255: a new byte[] of their low bytes -/
theorem law (l : Launch) (b : Addr) (A : Cell) (o len : Nat) : Law l yN 3 3 1 18 yB 6 (some (.array .byte)) site (P b A o len) (E b A o len) [] 1 len := by
  refine Law.of_walk (plainFor_of_name (by decide +kernel)) (by decide +kernel) (by decide +kernel) (by decide) (fun _ _ h => by rw [h.1]; rfl) (fun _ U U' hal hh h => ⟨h.1, h.2.1.mv hal hh, h.2.2⟩) (fun r U U' V V' h1 hal h2 h => ⟨NewArr.mv r U U' V V' h1 hal h2 h.1, by rw [h1, h2]; exact h.2⟩) ?_
  intro p e s m args below meth c s₁ X0 hexec hbytes hml hret hlk hnm hown hh0 W hP
  obtain ⟨rfl, hA, l1, l2, hp⟩ := hP
  have a31 := hA.1.2.2.2
  have c1 : Steps p.tables e below (s₁.setTop (entryFrame m #[.ref b, .int (Int32.ofNat o), .int (Int32.ofNat len)] 6)) (s₁.setTop (mkF m 0 #[.val (.ref b), .val (.int (Int32.ofNat o)), .val (.int (Int32.ofNat len)), .unset, .unset, .unset] [])) := entry rfl
  have c2 : Steps p.tables e below (s₁.setTop (entryFrame m #[.ref b, .int (Int32.ofNat o), .int (Int32.ofNat len)] 6)) (s₁.setTop (mkF m 1 #[.val (.ref b), .val (.int (Int32.ofNat o)), .val (.int (Int32.ofNat len)), .unset, .unset, .unset] [.int (Int32.ofNat len)])) := c1.trans (by
    refine XS.iloadN X0.here hexec rfl (hb hbytes d0) rfl ?_
    exact Steps.refl _)
  obtain ⟨T3, B3, X3, ba3, bs3, bv3, bh3, bf3, st3⟩ := X0.anew hexec (atype := .byte) (wk W (.arrayClass .byte)) rfl (by show len * 1 ≤ _; omega) (by omega) (g := (mkF m 1 #[.val (.ref b), .val (.int (Int32.ofNat o)), .val (.int (Int32.ofNat len)), .unset, .unset, .unset] [.int (Int32.ofNat len)])) rfl (hb hbytes d1) (rest := []) rfl (Nat.le_refl _) (by show 0 + len ≤ len; omega)
  rw [hh0] at ba3 st3
  have kp3 : XT.Kept s T3 := (XT.Kept.of_eq hh0).push bh3
  have hA3 := hA.keep X3.warmed.alike (kp3 _ _ hA.1.1)
  have hne : b ≠ s.heap.size := hA.1.ne
  have c4 : Steps p.tables e below (s₁.setTop (entryFrame m #[.ref b, .int (Int32.ofNat o), .int (Int32.ofNat len)] 6)) (T3.setTop (mkF m 3 #[.val (.ref b), .val (.int (Int32.ofNat o)), .val (.int (Int32.ofNat len)), .unset, .unset, .unset] [.ref s.heap.size])) := c2.trans (st3 _ (Steps.refl _))
  have c5 : Steps p.tables e below (s₁.setTop (entryFrame m #[.ref b, .int (Int32.ofNat o), .int (Int32.ofNat len)] 6)) (T3.setTop (mkF m 9 #[.val (.ref b), .val (.int (Int32.ofNat o)), .val (.int (Int32.ofNat len)), .val (.ref s.heap.size), .unset, .unset] [.int (Int32.ofNat len), .int 0, .ref s.heap.size, .int (Int32.ofNat o), .ref b])) := c4.trans (by
    refine XS.astoreN X3.here hexec rfl (hb hbytes d3) rfl rfl rfl ?_
    refine XS.aloadN X3.here hexec rfl (hb hbytes d4) rfl rfl ?_
    refine XS.iloadN X3.here hexec rfl (hb hbytes d5) rfl ?_
    refine XS.aloadN X3.here hexec rfl (hb hbytes d6) rfl rfl ?_
    refine iconstV X3.here hexec rfl 0 (hb hbytes d7) (by decide) ?_
    refine XS.iloadN X3.here hexec rfl (hb hbytes d8) rfl ?_
    exact Steps.refl _)
  obtain ⟨v6, T6, X6, E6, g6⟩ := X3.callS hexec (Cmp5.law l b A s.heap.size B3 o 0 len) hown (wks W (staticW U16 115 Cmp5.yN)) (wk W Cmp5.tab) (W := 0) (Nat.le_of_ble_eq_true rfl) (Nat.le_of_ble_eq_true rfl) (Nat.le_refl _) (by show 0 + len + 0 ≤ len; omega) (g := (mkF m 9 #[.val (.ref b), .val (.int (Int32.ofNat o)), .val (.int (Int32.ofNat len)), .val (.ref s.heap.size), .unset, .unset] [.int (Int32.ofNat len), .int (Int32.ofNat 0), .ref s.heap.size, .int (Int32.ofNat o), .ref b])) rfl (by rw [hml]; rfl) c5 (argsL := [.ref b, .int (Int32.ofNat o), .ref s.heap.size, .int (Int32.ofNat 0), .int (Int32.ofNat len)]) (rest := []) rfl rfl (by show 2 * 0 + 0 ≤ _; decide) (hb hbytes d9) (⟨rfl, hA3, ba3, hne, l1, by rw [bs3]; simp, hp⟩)
  obtain ⟨rfl, B6, p6, f6⟩ := E6
  have c7 : Steps p.tables e below (s₁.setTop (entryFrame m #[.ref b, .int (Int32.ofNat o), .int (Int32.ofNat len)] 6)) (T6.setTop (mkF m 12 #[.val (.ref b), .val (.int (Int32.ofNat o)), .val (.int (Int32.ofNat len)), .val (.ref s.heap.size), .unset, .unset] [.int (Int32.ofNat len)])) := g6
  have c8 : Steps p.tables e below (s₁.setTop (entryFrame m #[.ref b, .int (Int32.ofNat o), .int (Int32.ofNat len)] 6)) (T6.setTop (mkF m 58 #[.val (.ref b), .val (.int (Int32.ofNat o)), .val (.int (Int32.ofNat len)), .val (.ref s.heap.size), .val (.int (Int32.ofNat len)), .unset] [.ref s.heap.size])) := c7.trans (by
    refine XS.istore X6.here hexec rfl (hb hbytes d12) rfl rfl ?_
    refine XS.iload X6.here hexec rfl (hb hbytes d14) rfl ?_
    refine XS.iloadN X6.here hexec rfl (hb hbytes d16) rfl ?_
    refine XS.icmpYes X6.here hexec rfl (pc0 := 17) rfl (hb hbytes d17) rfl (ii_eq_t rfl) (by decide) rfl ?_
    refine XS.aloadN X6.here hexec rfl (hb hbytes d57) rfl rfl ?_
    exact Steps.refl _)
  have X8 := X6.wide (L' := []) (cells' := 1) (slots' := len) (fun x hx hlt => by
    simp only [List.nil_append, copyLocs, List.mem_map, List.mem_range] at hx
    obtain ⟨i, -, rfl⟩ := hx
    exact absurd hlt (Nat.lt_irrefl _)) (Nat.le_refl _) (by omega)
  exact ⟨T6, some (.ref s.heap.size), _, _, _, X8, rfl, rfl, rfl, (fun h => by cases h), ⟨⟨rfl, B6, ba3.like (X3.warmed.alike.symm.trans X6.warmed.alike) p6.1 f6.1 f6.2.1 f6.2.2.1, f6.2.1.trans bv3, by rw [X6.warmed.alike.findClass, f6.1]; exact bf3, by rw [f6.2.2.1, bs3]; simp, fun j hj => by rw [f6.2.2.2 j, if_pos (by omega)]; rfl, kp3.put p6 (Nat.le_refl _)⟩, by rw [p6.2.2, bh3, hh0]; simp⟩, fun fs hl => c8.trans (X8.areturnOut hexec rfl hret rfl (hb hbytes d58) hl)⟩
end Cmp3
namespace CodL
def yN : MethodName := ⟨"java/lang/StringUTF16", "coderFromArrayLen", "([BI)B"⟩
abbrev yB : ByteArray := jdk_52_method_15_code
theorem d0 : decode yB 0 = .ok (.iload_n 1, 1) := by decide +kernel
theorem d1 : decode yB 1 = .ok (.aload_n 0, 1) := by decide +kernel
theorem d2 : decode yB 2 = .ok (.arraylength, 1) := by decide +kernel
theorem d3 : decode yB 3 = .ok (.isub, 1) := by decide +kernel
theorem d4 : decode yB 4 = .ok (.bipush 31, 2) := by decide +kernel
theorem d6 : decode yB 6 = .ok (.iushr, 1) := by decide +kernel
theorem d7 : decode yB 7 = .ok (.i2b, 1) := by decide +kernel
theorem d8 : decode yB 8 = .ok (.ireturn, 1) := by decide +kernel
def site : List Cond := []
def tab : Cond := tabOf yN yB 2 (some .byte) site
def P (d : Addr) (B : Cell) (args : Array Value) (s : State) : Prop := args = #[.ref d, .int (Int32.ofNat B.slots.size)] ∧ Arr .byte d B s
def E (r : Option Value) (s u : State) : Prop := XT.PureE (some (.int 0)) r s u
/-- an array as long as the number of chars: LATIN1 -/
theorem law (l : Launch) (d : Addr) (B : Cell) : Law l yN 2 2 0 0 yB 2 (some .byte) site (P d B) E [] 0 0 := by
  refine Law.of_walk (plainFor_of_name (by decide +kernel)) (by decide +kernel) (by decide +kernel) (by decide) (fun _ _ h => by rw [h.1]; rfl) (fun _ U U' hal hh h => ⟨h.1, h.2.mv hal hh⟩) (fun r U U' V V' h1 hal h2 h => XT.PureE.mv r U U' V V' h1 hal h2 h) ?_
  intro p e s m args below meth c s₁ X0 hexec hbytes hml hret hlk hnm hown hh0 W hP
  obtain ⟨rfl, hB⟩ := hP
  have hB0 := hB.mv X0.warmed.alike hh0
  have c1 : Steps p.tables e below (s₁.setTop (entryFrame m #[.ref d, .int (Int32.ofNat B.slots.size)] 2)) (s₁.setTop (mkF m 0 #[.val (.ref d), .val (.int (Int32.ofNat B.slots.size))] [])) := entry rfl
  have c2 : Steps p.tables e below (s₁.setTop (entryFrame m #[.ref d, .int (Int32.ofNat B.slots.size)] 2)) (s₁.setTop (mkF m 2 #[.val (.ref d), .val (.int (Int32.ofNat B.slots.size))] [.ref d, .int (Int32.ofNat B.slots.size)])) := c1.trans (by
    refine XS.iloadN X0.here hexec rfl (hb hbytes d0) rfl ?_
    refine XS.aloadN X0.here hexec rfl (hb hbytes d1) rfl rfl ?_
    exact Steps.refl _)
  have c3 : Steps p.tables e below (s₁.setTop (entryFrame m #[.ref d, .int (Int32.ofNat B.slots.size)] 2)) (s₁.setTop (mkF m 8 #[.val (.ref d), .val (.int (Int32.ofNat B.slots.size))] [.int (lo8 (ushr (Int32.ofNat B.slots.size - Int32.ofNat B.slots.size) 31))])) := c2.trans (by
    refine X0.alen hexec hB0 rfl rfl (hb hbytes d2) ?_
    refine XS.isub X0.here hexec rfl (hb hbytes d3) rfl ?_
    refine bipushV X0.here hexec rfl 31 (hb hbytes d4) (by decide) ?_
    refine iushr X0.here hexec rfl (hb hbytes d6) rfl ?_
    refine i2b X0.here hexec rfl (hb hbytes d7) rfl ?_
    exact Steps.refl _)
  have e0 : lo8 (ushr (Int32.ofNat B.slots.size - Int32.ofNat B.slots.size) 31) = 0 := by rw [Int32.sub_self]; decide
  rw [e0] at c3
  exact ⟨s₁, some (.int 0), _, _, _, X0, rfl, rfl, rfl, (fun h => by cases h), ⟨rfl, hh0⟩, fun fs hl => c3.trans (X0.ireturnOut hexec hret rfl (Or.inr (Or.inr (Or.inl rfl))) (hb hbytes d8) hl)⟩
end CodL
/-- the String at a is Latin-1 over a new byte[] (the heap's one new cell): the low bytes of the len chars of A from o on; every cell but a is kept -/
def Got (a : Addr) (D : Cell) (fV fC : Field) (A : Cell) (o len : Nat) (r : Option Value) (s u : State) : Prop := r = none ∧ ∃ D' V : Cell, Blank "java/lang/String" a D' u ∧ Same D D' [fV.slot, fC.slot] ∧ D'.slots[fV.slot]? = some (.ref s.heap.size) ∧ D'.slots[fC.slot]? = some (.int 0) ∧ Arr .byte s.heap.size V u ∧ V.vm = .none ∧ u.vm.findClass "[B" = some V.cls ∧ V.slots.size = len ∧ (∀ j, j < len → V.slots[j]? = some (.int (lo8 (cv A (o + j))))) ∧ (∀ (y : Addr) (c : Cell), y ≠ a → s.heap[y]? = some c → u.heap[y]? = some c) ∧ u.heap.size = s.heap.size + 1
theorem Got.mv {a : Addr} {D A : Cell} {fV fC : Field} {o len : Nat} : ∀ r (U U' V V' : State), U'.heap = U.heap → V.vm.Alike V'.vm → V'.heap = V.heap → Got a D fV fC A o len r U V → Got a D fV fC A o len r U' V' :=
  fun r U U' V V' h1 hal h2 ⟨e0, D', X, a1, a2, a3, a4, a5, a6, a7, a8, a9, a10, a11⟩ => ⟨e0, D', X, a1.mv hal h2, a2, by rw [h1]; exact a3, a4, by rw [h1]; exact a5.mv hal h2, a6, by rw [hal.findClass]; exact a7, a8, a9, by rw [h1, h2]; exact a10, by rw [h1, h2]; exact a11⟩
namespace New4
def yN : MethodName := ⟨"java/lang/String", "<init>", "([CIILjava/lang/Void;)V"⟩
abbrev yB : ByteArray := jdk_42_method_149_code
theorem d0 : decode yB 0 = .ok (.aload_n 0, 1) := by decide +kernel
theorem d1 : decode yB 1 = .ok (.invokespecial 1, 3) := by decide +kernel
theorem d4 : decode yB 4 = .ok (.iload_n 3, 1) := by decide +kernel
theorem d5 : decode yB 5 = .ok (.ifCond (.ne) 22, 3) := by decide +kernel
theorem d27 : decode yB 27 = .ok (.getstatic 38, 3) := by decide +kernel
theorem d30 : decode yB 30 = .ok (.ifCond (.eq) 28, 3) := by decide +kernel
theorem d33 : decode yB 33 = .ok (.aload_n 1, 1) := by decide +kernel
theorem d34 : decode yB 34 = .ok (.iload_n 2, 1) := by decide +kernel
theorem d35 : decode yB 35 = .ok (.iload_n 3, 1) := by decide +kernel
theorem d36 : decode yB 36 = .ok (.invokestatic 177, 3) := by decide +kernel
theorem d39 : decode yB 39 = .ok (.astore 5, 2) := by decide +kernel
theorem d41 : decode yB 41 = .ok (.aload_n 0, 1) := by decide +kernel
theorem d42 : decode yB 42 = .ok (.aload 5, 2) := by decide +kernel
theorem d44 : decode yB 44 = .ok (.iload_n 3, 1) := by decide +kernel
theorem d45 : decode yB 45 = .ok (.invokestatic 47, 3) := by decide +kernel
theorem d48 : decode yB 48 = .ok (.putfield 15, 3) := by decide +kernel
theorem d51 : decode yB 51 = .ok (.aload_n 0, 1) := by decide +kernel
theorem d52 : decode yB 52 = .ok (.aload 5, 2) := by decide +kernel
theorem d54 : decode yB 54 = .ok (.putfield 9, 3) := by decide +kernel
theorem d57 : decode yB 57 = .ok (.return_, 1) := by decide +kernel
def site : List Cond := [.fieldLink "java/lang/String" 38 "java/lang/String" "COMPACT_STRINGS" "Z", Cmp3.tab, CodL.tab, .laysFinal "java/lang/String" "java/lang/String" "value" "[B", .fieldLink "java/lang/String" 9 "java/lang/String" "value" "[B", .laysFinal "java/lang/String" "java/lang/String" "coder" "B", .fieldLink "java/lang/String" 15 "java/lang/String" "coder" "B"] ++ objW "java/lang/String" 1 ++ staticW "java/lang/String" 177 Cmp3.yN ++ staticW "java/lang/String" 47 CodL.yN
def tab : Cond := tabOf yN yB 6 none site
def P (a : Addr) (D : Cell) (fV fC : Field) (b : Addr) (A : Cell) (z : Int32) (o len : Nat) (args : Array Value) (s : State) : Prop := args = #[.ref a, .ref b, .int (Int32.ofNat o), .int (Int32.ofNat len), .null] ∧ Blank "java/lang/String" a D s ∧ Found "java/lang/String" "value" "[B" fV s ∧ Found "java/lang/String" "coder" "B" fC s ∧ Ch b A s ∧ StaticIs s "java/lang/String" "COMPACT_STRINGS" "Z" (.int z) ∧ ¬ z = 0 ∧ 0 < len ∧ o + len ≤ A.slots.size ∧ len ≤ 536870912 ∧ ∀ i, i < len → ¬ 255 < cv A (o + i)
def E (a : Addr) (D : Cell) (fV fC : Field) (A : Cell) (o len : Nat) (r : Option Value) (s u : State) : Prop := Got a D fV fC A o len r s u
/-- len > 0, no char of the range above 255: a Latin-1 String of their low bytes -/
theorem law (l : Launch) (a : Addr) (D : Cell) (fV fC : Field) (b : Addr) (A : Cell) (z : Int32) (o len : Nat) : Law l yN 5 4 2 35 yB 6 none site (P a D fV fC b A z o len) (E a D fV fC A o len) [⟨a, fC.slot⟩, ⟨a, fV.slot⟩] 1 len := by
  refine Law.of_walk (plainFor_of_name (by decide +kernel)) (by decide +kernel) (by decide +kernel) (by decide) (fun _ _ h => by rw [h.1]; rfl) (fun _ U U' hal hh h => ⟨h.1, h.2.1.mv hal hh, h.2.2.1.al hal, h.2.2.2.1.al hal, h.2.2.2.2.1.mv hal hh, h.2.2.2.2.2.1.there hal hh, h.2.2.2.2.2.2⟩) (fun r U U' V V' h1 hal h2 h => Got.mv r U U' V V' h1 hal h2 h) ?_
  intro p e s m args below meth c s₁ X0 hexec hbytes hml hret hlk hnm hown hh0 W hP
  obtain ⟨rfl, hB, f1, f2, hA, s1, hz, l0, l1, l2, hp⟩ := hP
  have a31 := hA.1.2.2.2
  have c1 : Steps p.tables e below (s₁.setTop (entryFrame m #[.ref a, .ref b, .int (Int32.ofNat o), .int (Int32.ofNat len), .null] 6)) (s₁.setTop (mkF m 0 #[.val (.ref a), .val (.ref b), .val (.int (Int32.ofNat o)), .val (.int (Int32.ofNat len)), .val .null, .unset] [])) := entry rfl
  have c2 : Steps p.tables e below (s₁.setTop (entryFrame m #[.ref a, .ref b, .int (Int32.ofNat o), .int (Int32.ofNat len), .null] 6)) (s₁.setTop (mkF m 1 #[.val (.ref a), .val (.ref b), .val (.int (Int32.ofNat o)), .val (.int (Int32.ofNat len)), .val .null, .unset] [.ref a])) := c1.trans (by
    refine XS.aloadN X0.here hexec rfl (hb hbytes d0) rfl rfl ?_
    exact Steps.refl _)
  obtain ⟨T3, X3, q3, st3⟩ := X0.oinit hexec hown (wks W (objW "java/lang/String" 1)) (g := (mkF m 1 #[.val (.ref a), .val (.ref b), .val (.int (Int32.ofNat o)), .val (.int (Int32.ofNat len)), .val .null, .unset] [.ref a])) rfl (by rw [hml]; rfl) (rest := []) rfl (hb hbytes d1) (W := 0) (by show 2 * 0 + 0 ≤ _; decide) (Nat.le_of_ble_eq_true rfl) (Nat.le_of_ble_eq_true rfl)
  have hh3 := q3.trans hh0
  have c4 : Steps p.tables e below (s₁.setTop (entryFrame m #[.ref a, .ref b, .int (Int32.ofNat o), .int (Int32.ofNat len), .null] 6)) (T3.setTop (mkF m 27 #[.val (.ref a), .val (.ref b), .val (.int (Int32.ofNat o)), .val (.int (Int32.ofNat len)), .val .null, .unset] [])) := (c2.trans (st3 _ (Steps.refl _))).trans (by
    refine XS.iloadN X3.here hexec rfl (hb hbytes d4) rfl ?_
    refine XS.ifYes X3.here hexec rfl (pc0 := 5) rfl (hb hbytes d5) rfl (i0_ne_t (nz32 (by omega) l0)) (by decide) rfl ?_
    exact Steps.refl _)
  obtain ⟨T5, X5, q5, st5⟩ := X3.sget hexec hown (wk W (.fieldLink "java/lang/String" 38 "java/lang/String" "COMPACT_STRINGS" "Z")) s1 (fun _ _ h => by rw [hh3]; exact h) (g := (mkF m 27 #[.val (.ref a), .val (.ref b), .val (.int (Int32.ofNat o)), .val (.int (Int32.ofNat len)), .val .null, .unset] [])) rfl (hb hbytes d27)
  have hh5 := q5.trans hh3
  have c6 : Steps p.tables e below (s₁.setTop (entryFrame m #[.ref a, .ref b, .int (Int32.ofNat o), .int (Int32.ofNat len), .null] 6)) (T5.setTop (mkF m 30 #[.val (.ref a), .val (.ref b), .val (.int (Int32.ofNat o)), .val (.int (Int32.ofNat len)), .val .null, .unset] [.int z])) := c4.trans (st5 _ (Steps.refl _))
  have c7 : Steps p.tables e below (s₁.setTop (entryFrame m #[.ref a, .ref b, .int (Int32.ofNat o), .int (Int32.ofNat len), .null] 6)) (T5.setTop (mkF m 36 #[.val (.ref a), .val (.ref b), .val (.int (Int32.ofNat o)), .val (.int (Int32.ofNat len)), .val .null, .unset] [.int (Int32.ofNat len), .int (Int32.ofNat o), .ref b])) := c6.trans (by
    refine XS.ifNo X5.here hexec rfl (hb hbytes d30) rfl (i0_eq_f hz) ?_
    refine XS.aloadN X5.here hexec rfl (hb hbytes d33) rfl rfl ?_
    refine XS.iloadN X5.here hexec rfl (hb hbytes d34) rfl ?_
    refine XS.iloadN X5.here hexec rfl (hb hbytes d35) rfl ?_
    exact Steps.refl _)
  obtain ⟨v8, T8, X8, E8, g8⟩ := X5.callS hexec (Cmp3.law l b A o len) hown (wks W (staticW "java/lang/String" 177 Cmp3.yN)) (wk W Cmp3.tab) (W := 0) (Nat.le_of_ble_eq_true rfl) (Nat.le_of_ble_eq_true rfl) (Nat.le_refl _) (by show 0 + len ≤ len; omega) (g := (mkF m 36 #[.val (.ref a), .val (.ref b), .val (.int (Int32.ofNat o)), .val (.int (Int32.ofNat len)), .val .null, .unset] [.int (Int32.ofNat len), .int (Int32.ofNat o), .ref b])) rfl (by rw [hml]; rfl) c7 (argsL := [.ref b, .int (Int32.ofNat o), .int (Int32.ofNat len)]) (rest := []) rfl rfl (by show 2 * 0 + 0 ≤ _; decide) (hb hbytes d36) (⟨rfl, hA.mv X5.warmed.alike hh5, l1, l2, hp⟩)
  obtain ⟨e8, z8⟩ := E8
  obtain ⟨rfl, N, n1, n2, n3, n4, n5, n6⟩ := NewArr.mv _ T5 s _ _ hh5.symm (Vm.Alike.refl _) rfl e8
  rw [hh5] at z8
  have hB1 := hB.keep X8.warmed.alike (n6 _ _ hB.1)
  have hne : s.heap.size ≠ a := (Nat.ne_of_lt (Array.getElem?_eq_some_iff.mp hB.1).1).symm
  have c9 : Steps p.tables e below (s₁.setTop (entryFrame m #[.ref a, .ref b, .int (Int32.ofNat o), .int (Int32.ofNat len), .null] 6)) (T8.setTop (mkF m 39 #[.val (.ref a), .val (.ref b), .val (.int (Int32.ofNat o)), .val (.int (Int32.ofNat len)), .val .null, .unset] [.ref s.heap.size])) := g8
  have c10 : Steps p.tables e below (s₁.setTop (entryFrame m #[.ref a, .ref b, .int (Int32.ofNat o), .int (Int32.ofNat len), .null] 6)) (T8.setTop (mkF m 45 #[.val (.ref a), .val (.ref b), .val (.int (Int32.ofNat o)), .val (.int (Int32.ofNat len)), .val .null, .val (.ref s.heap.size)] [.int (Int32.ofNat N.slots.size), .ref s.heap.size, .ref a])) := by
    have hc : Steps p.tables e below (s₁.setTop (entryFrame m #[.ref a, .ref b, .int (Int32.ofNat o), .int (Int32.ofNat len), .null] 6)) (T8.setTop (mkF m 45 #[.val (.ref a), .val (.ref b), .val (.int (Int32.ofNat o)), .val (.int (Int32.ofNat len)), .val .null, .val (.ref s.heap.size)] [.int (Int32.ofNat len), .ref s.heap.size, .ref a])) := c9.trans (by
      refine XS.astore X8.here hexec rfl (hb hbytes d39) rfl rfl rfl ?_
      refine XS.aloadN X8.here hexec rfl (hb hbytes d41) rfl rfl ?_
      refine XS.aload X8.here hexec rfl (hb hbytes d42) rfl rfl ?_
      refine XS.iloadN X8.here hexec rfl (hb hbytes d44) rfl ?_
      exact Steps.refl _)
    rw [n4]; exact hc
  obtain ⟨v11, T11, X11, E11, g11⟩ := X8.callS hexec (CodL.law l s.heap.size N) hown (wks W (staticW "java/lang/String" 47 CodL.yN)) (wk W CodL.tab) (W := 1) (Nat.le_of_ble_eq_true rfl) (Nat.le_of_ble_eq_true rfl) (Nat.le_refl _) (by show 0 + len + 0 ≤ len; omega) (g := (mkF m 45 #[.val (.ref a), .val (.ref b), .val (.int (Int32.ofNat o)), .val (.int (Int32.ofNat len)), .val .null, .val (.ref s.heap.size)] [.int (Int32.ofNat N.slots.size), .ref s.heap.size, .ref a])) rfl (by rw [hml]; rfl) c10 (argsL := [.ref s.heap.size, .int (Int32.ofNat N.slots.size)]) (rest := [.ref a]) rfl rfl (by show 2 * 0 + (1 + 0) ≤ _; decide) (hb hbytes d45) (⟨rfl, n1⟩)
  obtain ⟨rfl, q11⟩ := E11
  have hB11 := hB1.mv (X8.warmed.alike.symm.trans X11.warmed.alike) q11
  have c12 : Steps p.tables e below (s₁.setTop (entryFrame m #[.ref a, .ref b, .int (Int32.ofNat o), .int (Int32.ofNat len), .null] 6)) (T11.setTop (mkF m 48 #[.val (.ref a), .val (.ref b), .val (.int (Int32.ofNat o)), .val (.int (Int32.ofNat len)), .val .null, .val (.ref s.heap.size)] [.int 0, .ref a])) := g11
  obtain ⟨T13, X13, p13, bl13, sl13, st13⟩ := X11.finit hexec hown (wk W (.fieldLink "java/lang/String" 15 "java/lang/String" "coder" "B")) (Or.inr ⟨_, (wk W (.laysFinal "java/lang/String" "java/lang/String" "coder" "B"))⟩) (Or.inl ⟨rfl, hnm⟩) f2 (Or.inl rfl) hB11 (t := .byte) (by decide +kernel) rfl (g := (mkF m 48 #[.val (.ref a), .val (.ref b), .val (.int (Int32.ofNat o)), .val (.int (Int32.ofNat len)), .val .null, .val (.ref s.heap.size)] [.int 0, .ref a])) rfl (rest := []) rfl (hb hbytes d48)
  have c14 : Steps p.tables e below (s₁.setTop (entryFrame m #[.ref a, .ref b, .int (Int32.ofNat o), .int (Int32.ofNat len), .null] 6)) (T13.setTop (mkF m 54 #[.val (.ref a), .val (.ref b), .val (.int (Int32.ofNat o)), .val (.int (Int32.ofNat len)), .val .null, .val (.ref s.heap.size)] [.ref s.heap.size, .ref a])) := (c12.trans (st13 _ (Steps.refl _))).trans (by
    refine XS.aloadN X13.here hexec rfl (hb hbytes d51) rfl rfl ?_
    refine XS.aload X13.here hexec rfl (hb hbytes d52) rfl rfl ?_
    exact Steps.refl _)
  obtain ⟨T15, X15, p15, bl15, sl15, st15⟩ := X13.finit hexec hown (wk W (.fieldLink "java/lang/String" 9 "java/lang/String" "value" "[B")) (Or.inr ⟨_, (wk W (.laysFinal "java/lang/String" "java/lang/String" "value" "[B"))⟩) (Or.inl ⟨rfl, hnm⟩) f1 (Or.inl rfl) bl13 (t := (.array .byte)) (by decide +kernel) rfl (g := (mkF m 54 #[.val (.ref a), .val (.ref b), .val (.int (Int32.ofNat o)), .val (.int (Int32.ofNat len)), .val .null, .val (.ref s.heap.size)] [.ref s.heap.size, .ref a])) rfl (rest := []) rfl (hb hbytes d54)
  have c16 : Steps p.tables e below (s₁.setTop (entryFrame m #[.ref a, .ref b, .int (Int32.ofNat o), .int (Int32.ofNat len), .null] 6)) (T15.setTop (mkF m 57 #[.val (.ref a), .val (.ref b), .val (.int (Int32.ofNat o)), .val (.int (Int32.ofNat len)), .val .null, .val (.ref s.heap.size)] [])) := c14.trans (st15 _ (Steps.refl _))
  have ap := apart (Or.inr ⟨_, (wk W (.laysFinal "java/lang/String" "java/lang/String" "value" "[B"))⟩) (Or.inr ⟨_, (wk W (.laysFinal "java/lang/String" "java/lang/String" "coder" "B"))⟩) f1 f2 (t₁ := .array .byte) (t₂ := .byte) (by decide +kernel) (by decide +kernel) (by decide)
  have al := X8.warmed.alike.symm.trans X15.warmed.alike
  have n7 : T11.heap[s.heap.size]? = some N := by rw [q11]; exact n1.1
  exact ⟨T15, none, _, _, _, X15, by simp, rfl, by omega, (fun _ => rfl), ⟨rfl, _, N, bl15, ((Same.refl D _).set _ (by simp)).set _ (by simp), sl15, (Cell.slots_setSlot_ne _ ap).trans sl13, n1.keep al (p15.other hne (p13.other hne n7)), n2, by rw [al.findClass]; exact n3, n4, n5, fun y c h1 h2 => p15.other h1 (p13.other h1 (by rw [q11]; exact n6 y c h2)), by rw [p15.2.2, p13.2.2, q11]; exact z8⟩, fun fs hl => c16.trans (X15.returnOut hexec hret (hb hbytes d57) hl)⟩
end New4
namespace New1
def yN : MethodName := ⟨"java/lang/String", "<init>", "([C)V"⟩
abbrev yB : ByteArray := jdk_42_method_3_code
theorem d0 : decode yB 0 = .ok (.aload_n 0, 1) := by decide +kernel
theorem d1 : decode yB 1 = .ok (.aload_n 1, 1) := by decide +kernel
theorem d2 : decode yB 2 = .ok (.iconst 0, 1) := by decide +kernel
theorem d3 : decode yB 3 = .ok (.aload_n 1, 1) := by decide +kernel
theorem d4 : decode yB 4 = .ok (.arraylength, 1) := by decide +kernel
theorem d5 : decode yB 5 = .ok (.aconst_null, 1) := by decide +kernel
theorem d6 : decode yB 6 = .ok (.invokespecial 27, 3) := by decide +kernel
theorem d9 : decode yB 9 = .ok (.return_, 1) := by decide +kernel
def site : List Cond := [New4.tab] ++ initW "java/lang/String" 27 New4.yN
def tab : Cond := tabOf yN yB 2 none site
def P (a : Addr) (D : Cell) (fV fC : Field) (b : Addr) (A : Cell) (z : Int32) (args : Array Value) (s : State) : Prop := args = #[.ref a, .ref b] ∧ Blank "java/lang/String" a D s ∧ Found "java/lang/String" "value" "[B" fV s ∧ Found "java/lang/String" "coder" "B" fC s ∧ Ch b A s ∧ StaticIs s "java/lang/String" "COMPACT_STRINGS" "Z" (.int z) ∧ ¬ z = 0 ∧ 0 < A.slots.size ∧ A.slots.size ≤ 536870912 ∧ ∀ i, i < A.slots.size → ¬ 255 < cv A i
def E (a : Addr) (D : Cell) (fV fC : Field) (A : Cell) (r : Option Value) (s u : State) : Prop := Got a D fV fC A 0 A.slots.size r s u
/-- new String(chars), not empty, no char above 255: a Latin-1 String of their low bytes -/
theorem law (l : Launch) (a : Addr) (D : Cell) (fV fC : Field) (b : Addr) (A : Cell) (z : Int32) : Law l yN 2 1 3 52 yB 2 none site (P a D fV fC b A z) (E a D fV fC A) [⟨a, fC.slot⟩, ⟨a, fV.slot⟩] 1 A.slots.size := by
  refine Law.of_walk (plainFor_of_name (by decide +kernel)) (by decide +kernel) (by decide +kernel) (by decide) (fun _ _ h => by rw [h.1]; rfl) (fun _ U U' hal hh h => ⟨h.1, h.2.1.mv hal hh, h.2.2.1.al hal, h.2.2.2.1.al hal, h.2.2.2.2.1.mv hal hh, h.2.2.2.2.2.1.there hal hh, h.2.2.2.2.2.2⟩) (fun r U U' V V' h1 hal h2 h => Got.mv r U U' V V' h1 hal h2 h) ?_
  intro p e s m args below meth c s₁ X0 hexec hbytes hml hret hlk hnm hown hh0 W hP
  obtain ⟨rfl, hB, f1, f2, hA, s1, hz, l0, l2, hp⟩ := hP
  have c1 : Steps p.tables e below (s₁.setTop (entryFrame m #[.ref a, .ref b] 2)) (s₁.setTop (mkF m 0 #[.val (.ref a), .val (.ref b)] [])) := entry rfl
  have c2 : Steps p.tables e below (s₁.setTop (entryFrame m #[.ref a, .ref b] 2)) (s₁.setTop (mkF m 6 #[.val (.ref a), .val (.ref b)] [.null, .int (Int32.ofNat A.slots.size), .int 0, .ref b, .ref a])) := c1.trans (by
    refine XS.aloadN X0.here hexec rfl (hb hbytes d0) rfl rfl ?_
    refine XS.aloadN X0.here hexec rfl (hb hbytes d1) rfl rfl ?_
    refine iconstV X0.here hexec rfl 0 (hb hbytes d2) (by decide) ?_
    refine XS.aloadN X0.here hexec rfl (hb hbytes d3) rfl rfl ?_
    refine X0.alen hexec (hA.1.mv X0.warmed.alike hh0) rfl rfl (hb hbytes d4) ?_
    refine XS.aconstNull X0.here hexec rfl (hb hbytes d5) ?_
    exact Steps.refl _)
  obtain ⟨v3, T3, X3, E3, g3⟩ := X0.callN hexec (New4.law l a D fV fC b A z 0 A.slots.size) rfl hown (wks W (initW "java/lang/String" 27 New4.yN)) (W New4.tab (by simp only [site, List.mem_cons, List.mem_append, true_or, or_true])) (W := 0) (Nat.le_of_ble_eq_true rfl) (Nat.le_of_ble_eq_true rfl) (Nat.le_refl _) (by show 0 + A.slots.size ≤ A.slots.size; omega) (g := (mkF m 6 #[.val (.ref a), .val (.ref b)] [.null, .int (Int32.ofNat A.slots.size), .int (Int32.ofNat 0), .ref b, .ref a])) rfl (by rw [hml]; rfl) c2 (argsL := [.ref b, .int (Int32.ofNat 0), .int (Int32.ofNat A.slots.size), .null]) (rest := []) rfl rfl (by show 2 * 0 + 0 ≤ _; decide) (hb hbytes d6) (⟨rfl, hB.mv X0.warmed.alike hh0, f1.al X0.warmed.alike, f2.al X0.warmed.alike, hA.mv X0.warmed.alike hh0, s1.there X0.warmed.alike hh0, hz, l0, by omega, l2, fun i hi => by rw [Nat.zero_add]; exact hp i hi⟩)
  have e0 := Got.mv _ s₁ s _ _ hh0.symm (Vm.Alike.refl _) rfl E3
  obtain rfl := e0.1
  have c4 : Steps p.tables e below (s₁.setTop (entryFrame m #[.ref a, .ref b] 2)) (T3.setTop (mkF m 9 #[.val (.ref a), .val (.ref b)] [])) := g3
  exact ⟨T3, none, _, _, _, X3, by simp, rfl, by omega, (fun _ => rfl), e0, fun fs hl => c4.trans (X3.returnOut hexec hret (hb hbytes d9) hl)⟩
theorem pays {l : Launch} {R : Room} {p : Program} {e : Env} {below : List Frame} {s : State} {sargs : Array Value} {len W : Nat} (a : Addr) (D : Cell) (fV fC : Field) (b : Addr) (A : Cell) (z : Int32) (htab : tab.before sargs s = true) (hfr : 4 ≤ R.frames) (hlo : W + 65 ≤ R.locals) :
    Back l R p e below s sargs yN len W (fun A₁ a₁ => A₁.cells + 1 ≤ R.cells ∧ A₁.slots + A.slots.size ≤ R.slots ∧ P a D fV fC b A z a₁ A₁.U) (fun A₁ _ v₁ B₁ => E a D fV fC A v₁ A₁.U B₁.U ∧ B₁.locs = A₁.locs ++ [⟨a, fC.slot⟩, ⟨a, fV.slot⟩] ∧ B₁.cells = A₁.cells + 1 ∧ B₁.slots = A₁.slots + A.slots.size) :=
  (law l a D fV fC b A z).pays htab hfr (by omega)
end New1
/-- the byte, read back as charAt reads it, is the char -/
theorem lo8_mask {x : Int32} (h0 : ¬ x < 0) (h1 : ¬ 255 < x) : lo8 x &&& 255 = x := by
  have t : ∀ k : Fin 256, lo8 (Int32.ofNat k.val) &&& 255 = Int32.ofNat k.val := by decide +kernel
  rw [Int32.lt_iff_toInt_lt] at h0 h1
  have e0 : (0 : Int32).toInt = 0 := rfl
  have e1 : (255 : Int32).toInt = 255 := rfl
  obtain ⟨k, hk⟩ : ∃ k : Nat, x.toInt = k := ⟨x.toInt.toNat, by omega⟩
  have hx : x = Int32.ofNat k := Int32.toInt_inj.mp (by rw [hk, Int32.toInt_ofNat_small (by omega)])
  rw [hx]
  exact t ⟨k, by omega⟩
end StrChars
namespace StrChars.Road
open Jvm Sem ClassFile Op Lib Jvm.Stand Jvm.Free Jvm.Free.XT
open Jvm.Lib.Cold (StaticIs)
abbrev ST : String := "java/lang/String"
/-- every table word that New1's law asks, flat -/
abbrev words : List Jvm.Cond := [.code New1.yN New1.yB 2 none, .initialized ST, .methodLink ST 27 New4.yN, .instanceMethod New4.yN,
  .code New4.yN New4.yB 6 none, .fieldLink ST 38 ST "COMPACT_STRINGS" "Z", .laysFinal ST ST "value" "[B", .fieldLink ST 9 ST "value" "[B", .laysFinal ST ST "coder" "B", .fieldLink ST 15 ST "coder" "B",
  .methodLink ST 1 Lib.objectInit, .instanceMethod Lib.objectInit, .code Lib.objectInit ⟨#[0xb1]⟩ 1 none, .methodLink ST 177 Cmp3.yN, .static Cmp3.yN, .methodLink ST 47 CodL.yN, .static CodL.yN,
  .code Cmp3.yN Cmp3.yB 6 (some (.array .byte)), .initialized U16, .arrayClass .byte, .methodLink U16 115 Cmp5.yN, .static Cmp5.yN, .code Cmp5.yN Cmp5.yB 7 (some .int), .code CodL.yN CodL.yB 2 (some .byte)]
theorem tab_of {a : Array Value} {s : State} (h : ∀ w ∈ words, w.before a s = true) : New1.tab.before a s = true := by
  have h5 : Cmp5.tab.before a s = true := unparts (wk h (.code Cmp5.yN Cmp5.yB 7 (some .int))) (wks h (.initialized Cmp5.yN.cls :: Cmp5.site))
  have hc : CodL.tab.before a s = true := unparts (wk h (.code CodL.yN CodL.yB 2 (some .byte))) (wks h (.initialized CodL.yN.cls :: CodL.site))
  have q5 : ∀ w ∈ Cmp5.tab :: words, w.before a s = true := fun w hw => (List.mem_cons.mp hw).elim (fun e => e ▸ h5) (h w)
  have h3 : Cmp3.tab.before a s = true := unparts (wk q5 (.code Cmp3.yN Cmp3.yB 6 (some (.array .byte)))) (wks q5 (.initialized Cmp3.yN.cls :: Cmp3.site))
  have q3 : ∀ w ∈ Cmp3.tab :: CodL.tab :: words, w.before a s = true := fun w hw => (List.mem_cons.mp hw).elim (fun e => e ▸ h3) fun hw => (List.mem_cons.mp hw).elim (fun e => e ▸ hc) (h w)
  have h4 : New4.tab.before a s = true := unparts (wk q3 (.code New4.yN New4.yB 6 none)) (wks q3 (.initialized New4.yN.cls :: New4.site))
  have q4 : ∀ w ∈ New4.tab :: words, w.before a s = true := fun w hw => (List.mem_cons.mp hw).elim (fun e => e ▸ h4) (h w)
  exact unparts (wk q4 (.code New1.yN New1.yB 2 none)) (wks q4 (.initialized New1.yN.cls :: New1.site))
/-- the words ride from the start Z to the walk's own state -/
theorem moved {Z s : State} {a0 args : Array Value} (hZ : Z.Warmed39 s.vm) (hw : ∀ d ∈ words, d.before a0 Z = true) : ∀ d ∈ words, d.before args s = true := fun d hd => by
  have q := hw d hd
  have t : ∀ d ∈ words, d = .arrayClass .byte ∨ (d.onTables && d.keepsFace) = true := by decide +kernel
  rcases t d hd with rfl | t
  · exact RoadKit.mvA hZ q
  · exact RoadKit.mv hZ q t
/-- WHAT COMES BACK, over the tables of the start Z: h the heap at the call, h' behind it -/
def Q (Z : State) (x : Addr) (A : Cell) (h : Heap) (v : Option Value) (h' : Heap) (L : List Loc) : Prop := v = none ∧ (∀ y ∈ L, y.base = x) ∧ RoadKit.Keep h h' [x] ∧ h'.size = h.size + 1 ∧ RoadKit.Exa Z h' x ST ∧ RoadKit.Fld Z h' x ST "value" "[B" (.ref h.size) ∧ RoadKit.Fld Z h' x ST "coder" "B" (.int 0) ∧
  (∃ V : Cell, RoadKit.Arr Z h' h.size V .byte ∧ V.vm = .none ∧ Z.vm.findClass "[B" = some V.cls ∧ V.slots.size = A.slots.size ∧ ∀ j, j < A.slots.size → V.slots[j]? = some (.int (lo8 (cv A j)))) ∧
  ∀ (O n d : String) (w : Value), RoadKit.Fld Z h x O n d w → RoadKit.slotOf Z O n d ≠ RoadKit.slotOf Z ST "value" "[B" → RoadKit.slotOf Z O n d ≠ RoadKit.slotOf Z ST "coder" "B" → RoadKit.Fld Z h' x O n d w
/-- **new String(chars) AT A CALL, IN THE ROAD'S FORM**: for specialBack behind newO: x the fresh String, b the char[] with the cell A -/
theorem back {p : Program} {l : Launch} {e : Env} {R : Room} {s : State} {args : Array Value} {below : List Frame} {len W : Nat} {Z : State} {a0 : Array Value} {h : Heap} (hZ : Z.Warmed39 s.vm) (hw : ∀ d ∈ words, d.before a0 Z = true) {kI : Nat} (wi : (Jvm.Cond.instantiable ST kI).before a0 Z = true)
    {x b : Addr} {A : Cell} {z : Int32} {v0 c0 : Value} (E : RoadKit.Exa Z h x ST) (V : RoadKit.Fld Z h x ST "value" "[B" v0) (C : RoadKit.Fld Z h x ST "coder" "B" c0) (K : RoadKit.Arr Z h b A .char) (hty : Typed .char A) (S : RoadKit.Sta Z h ST "COMPACT_STRINGS" "Z" (.int z)) (hz : ¬ z = 0)
    (l0 : 0 < A.slots.size) (l2 : A.slots.size ≤ 536870912) (hp : ∀ i, i < A.slots.size → ¬ 255 < cv A i) (hfr : 4 ≤ R.frames) (hlo : W + 65 ≤ R.locals) :
    Back l R p e below s args New1.yN len W (fun P a => a = #[.ref x, .ref b] ∧ P.U.heap = h ∧ P.cells + 1 ≤ R.cells ∧ P.slots + A.slots.size ≤ R.slots)
      (fun P _ v B => ∃ L, Q Z x A h v B.U.heap L ∧ B.locs = P.locs ++ L ∧ B.cells = P.cells + 1 ∧ B.slots = P.slots + A.slots.size) := by
  intro m meth c P g ig mk a X hg hsize hdg hW hn hp'
  obtain ⟨rfl, rfl, r1, r2⟩ := hp'
  have al : Z.vm.Alike P.U.vm := hZ.alike.trans X.warmed.alike
  obtain ⟨D, cfV, kV, iV, fV, hD, gV, stV, knV, obV, asV, slV⟩ := id V
  obtain ⟨D', cfC, kC, iC, fC, hD', gC, stC, -, -, asC, slC⟩ := id C
  cases hD.symm.trans hD'
  obtain ⟨D2, kD, e1, e2, e3, e4, e5⟩ := id E
  cases hD.symm.trans e1
  obtain ⟨c2, k2, i1, i2, i3, -⟩ := Cond.instantiable_spec wi
  cases e2.symm.trans i1
  cases e3.symm.trans i2
  obtain ⟨kU, u1, u2⟩ := al.2.2 _ _ e3
  have hB : Blank ST x D P.U := ⟨hD, ⟨knV, fun q hq => by rw [hq] at obV; cases obV⟩, by rw [al.findClass]; exact e2, kU, u1, by rw [u2]; exact i3, by rw [u2]; exact e5 i3⟩
  have F1 : Found ST "value" "[B" fV P.U := ⟨SBG.found_only al ⟨cfV, kV, iV, gV⟩, stV⟩
  have F2 : Found ST "coder" "B" fC P.U := ⟨SBG.found_only al ⟨cfC, kC, iC, gC⟩, stC⟩
  have hA : Ch b A P.U := ⟨⟨K.1, State.isArrayOf_alike al K.2.1, K.2.2, by omega⟩, hty⟩
  have hS : StaticIs P.U ST "COMPACT_STRINGS" "Z" (.int z) := by
    obtain ⟨cfS, iS, kS, fS, st, cS, t1, t2, t3, t4, t5, t6, t7⟩ := S
    exact StaticIs.there (s := { Z with heap := P.U.heap }) ⟨cfS, iS, kS, fS, st, cS, t1, t2, t3, t4, t5, (fun q => by rw [q] at t6; cases t6), t7⟩ al rfl
  obtain ⟨v, B, X', ⟨⟨hv, E', V', q1, q2, q3, q4, q5, q6, q7, q8, q9, q10, q11⟩, hl, hc, hs⟩, st⟩ := New1.pays x D fV fC b A z (tab_of (moved hZ hw)) hfr hlo m meth c P g ig mk _ X hg hsize hdg hW hn ⟨r1, r2, rfl, hB, F1, F2, hA, hS, hz, l0, l2, hp⟩
  have al' : Z.vm.Alike B.U.vm := hZ.alike.trans X'.warmed.alike
  have hsz : E'.slots.size = D.slots.size := by
    obtain ⟨-, -, -, kB, w1, w2, w3⟩ := q1
    obtain ⟨kB', y1, y2⟩ := al'.2.2 _ _ e3
    rw [q2.2.1] at w1
    cases w1.symm.trans y1
    rw [w3, e5 i3, y2]
  refine ⟨v, B, X', ⟨_, ⟨hv, ?_, ⟨by omega, fun y cy hy hn' => q10 y cy (by simpa using hn') hy, fun y cy hy => ?_⟩, q11, ⟨E', _, q1.1, by rw [q2.2.1]; exact e2, by rw [q2.2.1]; exact e3, by rw [q2.1]; exact obV, fun _ => by rw [hsz]; exact e5 i3⟩,
    ⟨E', cfV, kV, iV, fV, q1.1, gV, stV, by rw [q2.1]; exact knV, by rw [q2.1]; exact obV, by rw [q2.2.1]; exact asV, q3⟩, ⟨E', cfC, kC, iC, fC, q1.1, gC, stC, by rw [q2.1]; exact knV, by rw [q2.1]; exact obV, by rw [q2.2.1]; exact asC, q4⟩,
    ⟨V', ⟨q5.1, State.isArrayOf_alike al'.symm q5.2.1, q5.2.2.1⟩, q6, by rw [← al'.findClass]; exact q7, q8, fun j hj => by have := q9 j hj; rwa [Nat.zero_add] at this⟩, fun O n d w F n1 n2 => ?_⟩, hl, hc, hs⟩, st⟩
  · intro y hy
    simp only [List.mem_cons, List.not_mem_nil, or_false] at hy
    rcases hy with rfl | rfl <;> rfl
  · by_cases q : y = x
    · subst q
      cases hD.symm.trans hy
      exact ⟨E', q1.1, q2.2.1, q2.1, hsz⟩
    · exact ⟨cy, q10 y cy q hy, rfl, rfl, rfl⟩
  · obtain ⟨D3, cf, k, i, f, g1, g2, g3, g4, g5, g6, g7⟩ := F
    cases hD.symm.trans g1
    simp only [RoadKit.slotOf, g2, gV, gC, Option.map_some, Option.getD_some] at n1 n2
    exact ⟨E', cf, k, i, f, q1.1, g2, g3, by rw [q2.1]; exact g4, by rw [q2.1]; exact g5, by rw [q2.2.1]; exact g6, by rw [q2.2.2 f.slot (by simp [n1, n2])]; exact g7⟩
end StrChars.Road
namespace StrChars.Road
open Jvm Sem ClassFile Op Lib Jvm.Stand Jvm.Free Jvm.Free.XT
/-- WHAT COMES BACK, the byte[] as a list of values -/
def QA (Z : State) (x : Addr) (zn : Int32) (cs : List Int32) (h : Heap) (v : Option Value) (h' : Heap) (L : List Loc) : Prop := v = none ∧ (∀ y ∈ L, y.base = x) ∧ RoadKit.Keep h h' [x] ∧ h'.size = h.size + 1 ∧ RoadKit.Exa Z h' x ST ∧ RoadKit.Fld Z h' x ST "value" "[B" (.ref h.size) ∧ RoadKit.Fld Z h' x ST "coder" "B" (.int 0) ∧
  (∃ kb, Z.vm.findClass "[B" = some kb ∧ RoadKit.Arv Z h' h.size kb .byte zn (cs.map fun c => .int (lo8 c)) (.int 0)) ∧
  ∀ (O n d : String) (w : Value), RoadKit.Fld Z h x O n d w → RoadKit.slotOf Z O n d ≠ RoadKit.slotOf Z ST "value" "[B" → RoadKit.slotOf Z O n d ≠ RoadKit.slotOf Z ST "coder" "B" → RoadKit.Fld Z h' x O n d w
/-- **new String(chars) AT A CALL, THE ARRAYS AS LISTS**: the char[] at b holds cs, not empty, no char above 255 -/
theorem backArv {p : Program} {l : Launch} {e : Env} {R : Room} {s : State} {args : Array Value} {below : List Frame} {len W : Nat} {Z : State} {a0 : Array Value} {h : Heap} (hZ : Z.Warmed39 s.vm) (hw : ∀ d ∈ words, d.before a0 Z = true) {kI : Nat} (wi : (Jvm.Cond.instantiable ST kI).before a0 Z = true)
    {x b : Addr} {k : ClassId} {zn z : Int32} {cs : List Int32} {dv v0 c0 : Value} (E : RoadKit.Exa Z h x ST) (V : RoadKit.Fld Z h x ST "value" "[B" v0) (C : RoadKit.Fld Z h x ST "coder" "B" c0) (K : RoadKit.Arv Z h b k .char zn (cs.map Value.int) dv) (S : RoadKit.Sta Z h ST "COMPACT_STRINGS" "Z" (.int z)) (hz : ¬ z = 0)
    (hlen : zn.toNatClampNeg = cs.length) (h0 : 0 < cs.length) (hbig : cs.length ≤ 536870912) (hall : ∀ c ∈ cs, ¬ 255 < c) (hfr : 4 ≤ R.frames) (hlo : W + 65 ≤ R.locals) :
    Back l R p e below s args New1.yN len W (fun P a => a = #[.ref x, .ref b] ∧ P.U.heap = h ∧ P.cells + 1 ≤ R.cells ∧ P.slots + cs.length ≤ R.slots)
      (fun P _ v B => ∃ L, QA Z x zn cs h v B.U.heap L ∧ B.locs = P.locs ++ L ∧ B.cells = P.cells + 1 ∧ B.slots = P.slots + cs.length) := by
  obtain ⟨A, K1, K2, K3, K4, K5, K6⟩ := K
  have e : A.slots.size = cs.length := K3.trans hlen
  have hat : ∀ (i : Nat) (hi : i < cs.length), A.slots[i]? = some (.int cs[i]) := fun i hi => by rw [K5 i (by omega)]; simp [List.getD_eq_getElem?_getD, hi]
  have hcv : ∀ (i : Nat) (hi : i < cs.length), cv A i = cs[i] := fun i hi => by unfold cv; rw [hat i hi]
  have hty : Typed .char A := fun i v hv => by
    have hi : i < A.slots.size := (Array.getElem?_eq_some_iff.mp hv).1
    have q := K5 i hi
    rw [hv] at q
    rw [Option.some.inj q]
    exact K6 i hi
  refine Back.mono (back hZ hw wi E V C K1 hty S hz (by omega) (by omega) (fun i hi => by rw [hcv i (by omega)]; exact hall _ (List.getElem_mem _)) hfr hlo) (fun P a hp => ⟨hp.1, hp.2.1, hp.2.2.1, by rw [e]; exact hp.2.2.2⟩) (fun P a v B hp hq => ?_)
  obtain ⟨L, ⟨q1, q2, q3, q4, q5, q6, q7, ⟨V', v1, v2, v3, v4, v5⟩, q9⟩, hl, hc, hs⟩ := hq
  refine ⟨L, ⟨q1, q2, q3, q4, q5, q6, q7, ⟨V'.cls, v3, V', v1, rfl, by rw [v4, e, hlen], K4, fun i hi => ?_, fun i hi => ?_⟩, q9⟩, hl, hc, by rw [hs, e]⟩
  · have hi' : i < cs.length := by omega
    rw [v5 i (by omega), hcv i hi']; simp [List.getD_eq_getElem?_getD, hi']
  · have hi' : i < cs.length := by omega
    simp only [List.getD_eq_getElem?_getD, List.getElem?_map, List.getElem?_eq_getElem hi', Option.map_some, Option.getD_some]
    exact fits_lo8 _
end StrChars.Road
namespace StrChars.Road
open Jvm Sem ClassFile Op Lib Jvm.Stand Jvm.Free Jvm.Free.XT
/-- WHAT COMES BACK, in the writer's own shape -/
def QV (Z : State) (x : Addr) (N : Int32) (bs : List Int32) (h : Heap) (n0 : Nat) (v : Option Value) (h' : Heap) (L : List Loc) : Prop := v = none ∧ RoadKit.Fr n0 L ∧ RoadKit.Keep h h' [x] ∧ RoadKit.Exa Z h' x ST ∧ RoadKit.Fld Z h' x ST "coder" "B" (.int 0) ∧
  ∃ (t : Addr) (kb : ClassId), n0 ≤ t ∧ h.size ≤ t ∧ ¬ t = x ∧ RoadKit.Fld Z h' x ST "value" "[B" (.ref t) ∧ RoadKit.Arv Z h' t kb .byte N (bs.map Value.int) (.int 0)
/-- **new String(chars) AT A CALL, FOR THE WRITER**: a char[] of n known ints, each 0 to 255 -/
theorem backV {p : Program} {l : Launch} {e : Env} {R : Room} {s : State} {args : Array Value} {below : List Frame} {len W : Nat} {Z : State} {a0 : Array Value} {h : Heap} (hZ : Z.Warmed39 s.vm) (hw : ∀ d ∈ words, d.before a0 Z = true) {kI : Nat} (wi : (Jvm.Cond.instantiable ST kI).before a0 Z = true)
    {x b : Addr} {kC : ClassId} {cs bs : List Int32} {d v0 c0 : Value} {z N : Int32} {n n0 : Nat} (hx0 : n0 ≤ x) (hh0 : n0 ≤ h.size) (E : RoadKit.Exa Z h x ST) (V : RoadKit.Fld Z h x ST "value" "[B" v0) (C : RoadKit.Fld Z h x ST "coder" "B" c0) (K : RoadKit.Arv Z h b kC .char N (cs.map Value.int) d) (S : RoadKit.Sta Z h ST "COMPACT_STRINGS" "Z" (.int z)) (hz : ¬ z = 0)
    (hn : cs.length = n) (hN : N = Int32.ofNat n) (l0 : 0 < n) (l2 : n ≤ 4000) (hp : ∀ c ∈ cs, ¬ c < 0 ∧ ¬ (255 : Int32) < c) (hb : bs = cs.map (fun c => c.toInt8.toInt32)) (hfr : 4 ≤ R.frames) (hlo : W + 65 ≤ R.locals) :
    Back l R p e below s args (⟨"java/lang/String", "<init>", "([C)V"⟩ : MethodName) len W (fun P a => a = #[.ref x, .ref b] ∧ P.U.heap = h ∧ P.cells + 1 ≤ R.cells ∧ P.slots + n ≤ R.slots)
      (fun P _ v B => ∃ L, QV Z x N bs h n0 v B.U.heap L ∧ B.locs = P.locs ++ L ∧ B.cells = P.cells + 1 ∧ B.slots = P.slots + n) := by
  subst hn hN hb
  refine Back.mono (backArv hZ hw wi E V C K S hz (n32 (by omega)) l0 (by omega) (fun c hc => (hp c hc).2) hfr hlo) (fun P a hp => hp) (fun P a v B hp hq => ?_)
  obtain ⟨L, ⟨q1, q2, q3, q4, q5, q6, q7, ⟨kb, v1, v2⟩, q9⟩, hl, hc, hs⟩ := hq
  exact ⟨L, ⟨q1, fun y hy => by rw [q2 y hy]; exact hx0, q3, q5, q7, h.size, kb, hh0, Nat.le_refl _, Nat.ne_of_gt E.lt, q6, by rw [List.map_map]; exact v2⟩, hl, hc, hs⟩
end StrChars.Road
namespace StrChars
open Jvm Sem ClassFile Op Lib Jvm.Stand Jvm.Free.XT Jvm.Free.ALB Jvm.Free.JM Jvm.Free
open Jvm.Lib.Cold (StaticIs)
def hi8 (x : Int32) : Int32 := lo8 (x >>> ((8 : Int32) &&& 31))
/-- what StringUTF16.getChar makes of two bytes -/
def pairCh (u v : Int32) : Int32 := (((u &&& 255) <<< ((0 : Int32) &&& 31)) ||| ((v &&& 255) <<< ((8 : Int32) &&& 31))).toUInt32.toUInt16.toUInt32.toInt32
theorem shr0 (c : Int32) : c >>> ((0 : Int32) &&& 31) = c := by
  have e : ((0 : Int32) &&& 31) = 0 := by decide
  rw [e]
  apply Int32.toBitVec_inj.mp
  rw [Int32.toBitVec_shiftRight]
  have e1 : ((0 : Int32).toBitVec.smod 32) = 0#32 := by decide
  rw [e1, BitVec.sshiftRight_eq']
  exact BitVec.sshiftRight_zero
theorem lo8_and (x : Int32) : (lo8 x &&& 255).toBitVec.toNat = x.toBitVec.toNat % 256 := by
  have h : (lo8 x).toBitVec = (x.toBitVec.signExtend 8).signExtend 32 := by rw [lo8, Int8.toBitVec_toInt32, Int32.toBitVec_toInt8]
  rw [Int32.toBitVec_and, BitVec.toNat_and, h]
  have e : ((x.toBitVec.signExtend 8).signExtend 32).toNat % 256 = x.toBitVec.toNat % 256 := by
    rw [BitVec.toNat_signExtend]
    have hlt := x.toBitVec.isLt
    simp only [BitVec.toNat_setWidth, BitVec.toNat_signExtend]
    split <;> split <;> omega
  rw [← e]
  exact Nat.and_two_pow_sub_one_eq_mod _ 8
theorem pair_says {c : Int32} (h0 : ¬ c < 0) (h1 : ¬ 65535 < c) : pairCh (lo8 c) (hi8 c) = c := by
  rw [Int32.lt_iff_toInt_lt] at h0 h1
  have e0 : (0 : Int32).toInt = 0 := rfl
  have e1 : (65535 : Int32).toInt = 65535 := rfl
  have hc : c.toInt = c.toBitVec.toNat := by
    have := c.toBitVec.isLt
    have e : c.toInt = c.toBitVec.toInt := rfl
    rw [e] at h0 h1
    rw [e]
    rw [BitVec.toInt_eq_toNat_cond] at h0 h1 ⊢
    split at h0 <;> split <;> omega
  have hn : c.toBitVec.toNat < 65536 := by omega
  have a1 := lo8_and c
  have a2 : (hi8 c &&& 255).toBitVec.toNat = c.toBitVec.toNat / 256 := by
    rw [hi8, lo8_and]
    have e : ((8 : Int32) &&& 31) = 8 := by decide
    rw [e, Int32.toBitVec_shiftRight]
    have e2 : ((8 : Int32).toBitVec.smod 32) = 8#32 := by decide
    rw [e2, BitVec.sshiftRight_eq', BitVec.toNat_sshiftRight_of_msb_false (by rw [BitVec.msb_eq_false_iff_two_mul_lt]; omega)]
    show c.toBitVec.toNat >>> 8 % 256 = _
    rw [Nat.shiftRight_eq_div_pow]
    omega
  unfold pairCh
  apply Int32.toBitVec_inj.mp
  apply BitVec.eq_of_toNat_eq
  have f0 : ((0 : Int32) &&& 31) = 0 := by decide
  have f8 : ((8 : Int32) &&& 31) = 8 := by decide
  rw [f0, f8]
  have g : (((lo8 c &&& 255) <<< (0 : Int32)) ||| ((hi8 c &&& 255) <<< (8 : Int32))).toBitVec.toNat = c.toBitVec.toNat := by
    rw [Int32.toBitVec_or, Int32.toBitVec_shiftLeft, Int32.toBitVec_shiftLeft]
    have s0 : ((0 : Int32).toBitVec.smod 32) = 0#32 := by decide
    have s8 : ((8 : Int32).toBitVec.smod 32) = 8#32 := by decide
    rw [s0, s8, BitVec.toNat_or]
    simp only [BitVec.shiftLeft_eq', BitVec.toNat_shiftLeft, a1, a2]
    show (c.toBitVec.toNat % 256) <<< 0 % 2 ^ 32 ||| (c.toBitVec.toNat / 256) <<< 8 % 2 ^ 32 = _
    rw [Nat.shiftLeft_zero, Nat.mod_eq_of_lt (show c.toBitVec.toNat % 256 < 2 ^ 32 by omega), Nat.mod_eq_of_lt (show (c.toBitVec.toNat / 256) <<< 8 < 2 ^ 32 by rw [Nat.shiftLeft_eq]; omega), Nat.or_comm, ← Nat.shiftLeft_add_eq_or_of_lt (by omega), Nat.shiftLeft_eq]
    omega
  show BitVec.toNat (((((lo8 c &&& 255) <<< (0 : Int32)) ||| ((hi8 c &&& 255) <<< (8 : Int32))).toBitVec.setWidth 16).setWidth 32) = _
  rw [BitVec.toNat_setWidth, BitVec.toNat_setWidth, g]
  omega
end StrChars
namespace StrChars
open Jvm Sem ClassFile Op Lib Jvm.Stand Jvm.Free.XT Jvm.Free.ALB Jvm.Free.JM Jvm.Free
open Jvm.Lib.Cold (StaticIs)
theorem shr1 {n : Nat} (h : 2 * n < 2 ^ 31) : Int32.ofNat (2 * n) >>> ((1 : Int32) &&& 31) = Int32.ofNat n := by
  have e : ((1 : Int32) &&& 31) = 1 := by decide
  rw [e]
  apply Int32.toBitVec_inj.mp
  rw [Int32.toBitVec_shiftRight]
  have e1 : ((1 : Int32).toBitVec.smod 32) = 1#32 := by decide
  have hm : (BitVec.ofNat 32 (2 * n)).toNat = 2 * n := by rw [BitVec.toNat_ofNat, Nat.mod_eq_of_lt (by omega)]
  rw [e1, BitVec.sshiftRight_eq']
  apply BitVec.eq_of_toNat_eq
  show ((BitVec.ofNat 32 (2 * n)).sshiftRight 1).toNat = (BitVec.ofNat 32 n).toNat
  rw [BitVec.toNat_sshiftRight_of_msb_false (by rw [BitVec.msb_eq_false_iff_two_mul_lt, hm]; omega), hm, BitVec.toNat_ofNat, Nat.shiftRight_eq_div_pow]
  omega
/-- charAt's cast of a byte read back -/
def chr8 (u : Int32) : Int32 := (u &&& 255).toUInt32.toUInt16.toUInt32.toInt32
theorem chr8_lo8 {c : Int32} (h0 : ¬ c < 0) (h1 : ¬ 255 < c) : chr8 (lo8 c) = c := by
  have t : ∀ k : Fin 256, (Int32.ofNat k.val).toUInt32.toUInt16.toUInt32.toInt32 = Int32.ofNat k.val := by decide +kernel
  unfold chr8
  rw [lo8_mask h0 h1]
  rw [Int32.lt_iff_toInt_lt] at h0 h1
  have e0 : (0 : Int32).toInt = 0 := rfl
  have e1 : (255 : Int32).toInt = 255 := rfl
  obtain ⟨k, hk⟩ : ∃ k : Nat, c.toInt = k := ⟨c.toInt.toNat, by omega⟩
  have hx : c = Int32.ofNat k := Int32.toInt_inj.mp (by rw [hk, Int32.toInt_ofNat_small (by omega)])
  rw [hx]
  exact t ⟨k, by omega⟩
theorem narrow_ch {c : Int32} (h0 : ¬ c < 0) (h1 : ¬ 65535 < c) : narrow .char (.int c) = .int c := by
  have q : narrow .char (.int (pairCh (lo8 c) (hi8 c))) = .int (pairCh (lo8 c) (hi8 c)) := narrow_c _
  rwa [pair_says h0 h1] at q
/-- the array's cell V codes the n chars f 0 .. f (n - 1) by the coder cd, as the JDK does: coder 1 just where some char is above 255 -/
def Cod (cd : Int32) (n : Nat) (f : Nat → Int32) (V : Cell) : Prop := (cd = 0 ∧ V.slots.size = n ∧ ∀ j, j < n → V.slots[j]? = some (.int (lo8 (f j))) ∧ ¬ 255 < f j) ∨ (cd = 1 ∧ V.slots.size = 2 * n ∧ (∀ j, j < n → V.slots[2 * j]? = some (.int (lo8 (f j))) ∧ V.slots[2 * j + 1]? = some (.int (hi8 (f j)))) ∧ ∃ j, j < n ∧ 255 < f j)
theorem Cod.cd {cd : Int32} {n : Nat} {f : Nat → Int32} {V : Cell} (h : Cod cd n f V) : cd = 0 ∨ cd = 1 := h.imp (fun q => q.1) fun q => q.1
theorem Cod.len {cd : Int32} {n : Nat} {f : Nat → Int32} {V : Cell} (h : Cod cd n f V) (hs : V.slots.size < 2 ^ 31) : Int32.ofNat V.slots.size >>> (cd &&& 31) = Int32.ofNat n := by
  rcases h with ⟨rfl, h, -⟩ | ⟨rfl, h, -⟩
  · rw [shr0, h]
  · rw [h, shr1 (by omega)]
/-- **x is a String of the n chars f 0 .. f (n - 1)**, Latin-1 or UTF-16; its array at t has the cell V -/
def Txt (x t : Addr) (V : Cell) (cd : Int32) (n : Nat) (f : Nat → Int32) (U : State) : Prop := Exact "java/lang/String" x U ∧ Has x "java/lang/String" "value" "[B" (.ref t) U ∧ Has x "java/lang/String" "coder" "B" (.int cd) U ∧ XT.Arr .byte t V U ∧ Cod cd n f V ∧ ∀ j, j < n → ¬ f j < 0 ∧ ¬ 65535 < f j
theorem Txt.mv {x t : Addr} {V : Cell} {cd : Int32} {n : Nat} {f : Nat → Int32} {U U' : State} (h : Txt x t V cd n f U) (hal : U.vm.Alike U'.vm) (hh : U'.heap = U.heap) : Txt x t V cd n f U' := ⟨h.1.mv hal hh, h.2.1.mv hal hh, h.2.2.1.mv hal hh, h.2.2.2.1.mv hal hh, h.2.2.2.2⟩
namespace Cdr
def yN : MethodName := ⟨"java/lang/String", "coder", "()B"⟩
abbrev yB : ByteArray := jdk_42_method_152_code
theorem d0 : decode yB 0 = .ok (.getstatic 38, 3) := by decide +kernel
theorem d3 : decode yB 3 = .ok (.ifCond (.eq) 10, 3) := by decide +kernel
theorem d6 : decode yB 6 = .ok (.aload_n 0, 1) := by decide +kernel
theorem d7 : decode yB 7 = .ok (.getfield 15, 3) := by decide +kernel
theorem d10 : decode yB 10 = .ok (.goto 4, 3) := by decide +kernel
theorem d14 : decode yB 14 = .ok (.ireturn, 1) := by decide +kernel
def site : List Cond := [.fieldLink "java/lang/String" 38 "java/lang/String" "COMPACT_STRINGS" "Z", .fieldLink "java/lang/String" 15 "java/lang/String" "coder" "B"]
def tab : Cond := tabOf yN yB 1 (some .byte) site
def P (x : Addr) (cd z : Int32) (args : Array Value) (s : State) : Prop := args = #[.ref x] ∧ Has x "java/lang/String" "coder" "B" (.int cd) s ∧ (cd = 0 ∨ cd = 1) ∧ StaticIs s "java/lang/String" "COMPACT_STRINGS" "Z" (.int z) ∧ ¬ z = 0
def E (cd : Int32) (r : Option Value) (s u : State) : Prop := XT.PureE (some (.int cd)) r s u
theorem law (l : Launch) (x : Addr) (cd z : Int32) : Law l yN 1 0 0 0 yB 1 (some .byte) site (P x cd z) (E cd) [] 0 0 := by
  refine Law.of_walk (plainFor_of_name (by decide +kernel)) (by decide +kernel) (by decide +kernel) (by decide) (fun _ _ h => by rw [h.1]; rfl) (fun _ U U' hal hh h => ⟨h.1, h.2.1.mv hal hh, h.2.2.1, h.2.2.2.1.there hal hh, h.2.2.2.2⟩) (fun r U U' V V' h1 hal h2 h => XT.PureE.mv r U U' V V' h1 hal h2 h) ?_
  intro p e s m args below meth c s₁ X0 hexec hbytes hml hret hlk hnm hown hh0 W hP
  obtain ⟨rfl, hx, hc, s1, hz⟩ := hP
  have c1 : Steps p.tables e below (s₁.setTop (entryFrame m #[.ref x] 1)) (s₁.setTop (mkF m 0 #[.val (.ref x)] [])) := entry rfl
  obtain ⟨T2, X2, q2, st2⟩ := X0.sget hexec hown (wk W (.fieldLink "java/lang/String" 38 "java/lang/String" "COMPACT_STRINGS" "Z")) s1 (fun _ _ h => by rw [hh0]; exact h) (g := (mkF m 0 #[.val (.ref x)] [])) rfl (hb hbytes d0)
  have hh2 := q2.trans hh0
  have c3 : Steps p.tables e below (s₁.setTop (entryFrame m #[.ref x] 1)) (T2.setTop (mkF m 7 #[.val (.ref x)] [.ref x])) := (c1.trans (st2 _ (Steps.refl _))).trans (by
    refine XS.ifNo X2.here hexec rfl (hb hbytes d3) rfl (i0_eq_f hz) ?_
    refine XS.aloadN X2.here hexec rfl (hb hbytes d6) rfl rfl ?_
    exact Steps.refl _)
  obtain ⟨T4, X4, q4, st4⟩ := X2.hget hexec hown (wk W (.fieldLink "java/lang/String" 15 "java/lang/String" "coder" "B")) (hx.mv X2.warmed.alike hh2) (g := (mkF m 7 #[.val (.ref x)] [.ref x])) rfl (rest := []) rfl (hb hbytes d7)
  have c5 : Steps p.tables e below (s₁.setTop (entryFrame m #[.ref x] 1)) (T4.setTop (mkF m 14 #[.val (.ref x)] [.int cd])) := (c3.trans (st4 _ (Steps.refl _))).trans (by
    refine XS.goto X4.here hexec rfl (pc0 := 10) rfl (hb hbytes d10) (by decide) rfl ?_
    exact Steps.refl _)
  exact ⟨T4, some (.int cd), _, _, _, X4, rfl, rfl, rfl, (fun h => by cases h), ⟨rfl, q4.trans hh2⟩, fun fs hl => c5.trans (X4.ireturnOut hexec hret (by rcases hc with rfl | rfl <;> rfl) (Or.inr (Or.inr (Or.inl rfl))) (hb hbytes d14) hl)⟩
end Cdr
namespace Len
def yN : MethodName := ⟨"java/lang/String", "length", "()I"⟩
abbrev yB : ByteArray := jdk_42_method_54_code
theorem d0 : decode yB 0 = .ok (.aload_n 0, 1) := by decide +kernel
theorem d1 : decode yB 1 = .ok (.getfield 9, 3) := by decide +kernel
theorem d4 : decode yB 4 = .ok (.arraylength, 1) := by decide +kernel
theorem d5 : decode yB 5 = .ok (.aload_n 0, 1) := by decide +kernel
theorem d6 : decode yB 6 = .ok (.invokevirtual 335, 3) := by decide +kernel
theorem d9 : decode yB 9 = .ok (.ishr, 1) := by decide +kernel
theorem d10 : decode yB 10 = .ok (.ireturn, 1) := by decide +kernel
def site : List Cond := [.fieldLink "java/lang/String" 9 "java/lang/String" "value" "[B", Cdr.tab] ++ virtW "java/lang/String" 335 "java/lang/String" Cdr.yN Cdr.yN
def tab : Cond := tabOf yN yB 1 (some .int) site
def P (x t : Addr) (V : Cell) (cd : Int32) (n : Nat) (f : Nat → Int32) (z : Int32) (args : Array Value) (s : State) : Prop := args = #[.ref x] ∧ Txt x t V cd n f s ∧ StaticIs s "java/lang/String" "COMPACT_STRINGS" "Z" (.int z) ∧ ¬ z = 0
def E (n : Nat) (r : Option Value) (s u : State) : Prop := XT.PureE (some (.int (Int32.ofNat n))) r s u
/-- length() of a String of n chars, in either coding -/
theorem law (l : Launch) (x t : Addr) (V : Cell) (cd : Int32) (n : Nat) (f : Nat → Int32) (z : Int32) : Law l yN 1 0 1 13 yB 1 (some .int) site (P x t V cd n f z) (E n) [] 0 0 := by
  refine Law.of_walk (plainFor_of_name (by decide +kernel)) (by decide +kernel) (by decide +kernel) (by decide) (fun _ _ h => by rw [h.1]; rfl) (fun _ U U' hal hh h => ⟨h.1, h.2.1.mv hal hh, h.2.2.1.there hal hh, h.2.2.2⟩) (fun r U U' V V' h1 hal h2 h => XT.PureE.mv r U U' V V' h1 hal h2 h) ?_
  intro p e s m args below meth c s₁ X0 hexec hbytes hml hret hlk hnm hown hh0 W hP
  obtain ⟨rfl, hx, s1, hz⟩ := hP
  have v31 := hx.2.2.2.1.2.2.2
  have c1 : Steps p.tables e below (s₁.setTop (entryFrame m #[.ref x] 1)) (s₁.setTop (mkF m 1 #[.val (.ref x)] [.ref x])) := Steps.trans (entry rfl) (by
    show Steps p.tables e below (s₁.setTop (mkF m 0 #[.val (.ref x)] [])) _
    refine XS.aloadN X0.here hexec rfl (hb hbytes d0) rfl rfl ?_
    exact Steps.refl _)
  obtain ⟨T2, X2, q2, st2⟩ := X0.hget hexec hown (wk W (.fieldLink "java/lang/String" 9 "java/lang/String" "value" "[B")) (hx.mv X0.warmed.alike hh0).2.1 (g := (mkF m 1 #[.val (.ref x)] [.ref x])) rfl (rest := []) rfl (hb hbytes d1)
  have hh2 := q2.trans hh0
  have hx2 := hx.mv X2.warmed.alike hh2
  have c3 : Steps p.tables e below (s₁.setTop (entryFrame m #[.ref x] 1)) (T2.setTop (mkF m 6 #[.val (.ref x)] [.ref x, .int (Int32.ofNat V.slots.size)])) := (c1.trans (st2 _ (Steps.refl _))).trans (by
    refine X2.alen hexec hx2.2.2.2.1 rfl rfl (hb hbytes d4) ?_
    refine XS.aloadN X2.here hexec rfl (hb hbytes d5) rfl rfl ?_
    exact Steps.refl _)
  obtain ⟨v4, T4, X4, E4, g4⟩ := X2.callV hexec (Cdr.law l x cd z) hown (wks W (virtW "java/lang/String" 335 "java/lang/String" Cdr.yN Cdr.yN)) rfl (by decide) (wk W Cdr.tab) (W := 1) (Nat.le_of_ble_eq_true rfl) (Nat.le_of_ble_eq_true rfl) (Nat.le_refl _) (Nat.le_refl _) (hx2.1.fc X2.warmed.alike) hx2.1.is (g := (mkF m 6 #[.val (.ref x)] [.ref x, .int (Int32.ofNat V.slots.size)])) rfl (by rw [hml]; rfl) c3 (argsL := []) (rest := [.int (Int32.ofNat V.slots.size)]) rfl rfl (by show 2 * 0 + (1 + 0) ≤ _; decide) (hb hbytes d6) (⟨rfl, hx2.2.2.1, hx.2.2.2.2.1.cd, s1.there X2.warmed.alike hh2, hz⟩)
  obtain ⟨rfl, q4⟩ := E4
  have c5 : Steps p.tables e below (s₁.setTop (entryFrame m #[.ref x] 1)) (T4.setTop (mkF m 10 #[.val (.ref x)] [.int (Int32.ofNat V.slots.size >>> (cd &&& 31))])) := Steps.trans g4 (by
    refine ishr X4.here hexec rfl (hb hbytes d9) rfl ?_
    exact Steps.refl _)
  rw [hx.2.2.2.2.1.len v31] at c5
  exact ⟨T4, some (.int (Int32.ofNat n)), _, _, _, X4, rfl, rfl, rfl, (fun h => by cases h), ⟨rfl, q4.trans hh2⟩, fun fs hl => c5.trans (X4.ireturnOut hexec hret rfl (Or.inl rfl) (hb hbytes d10) hl)⟩
theorem pays {l : Launch} {R : Room} {p : Program} {e : Env} {below : List Frame} {s : State} {sargs : Array Value} {len W : Nat} (x t : Addr) (V : Cell) (cd : Int32) (n : Nat) (f : Nat → Int32) (z : Int32) (htab : tab.before sargs s = true) (hfr : 2 ≤ R.frames) (hlo : W + 25 ≤ R.locals) :
    Back l R p e below s sargs yN len W (fun A₁ a₁ => A₁.cells + 0 ≤ R.cells ∧ A₁.slots + 0 ≤ R.slots ∧ P x t V cd n f z a₁ A₁.U) (fun A₁ _ v₁ B₁ => E n v₁ A₁.U B₁.U ∧ B₁.locs = A₁.locs ++ [] ∧ B₁.cells = A₁.cells + 0 ∧ B₁.slots = A₁.slots + 0) :=
  (law l x t V cd n f z).pays htab hfr (by omega)
end Len
namespace IsL
def yN : MethodName := ⟨"java/lang/String", "isLatin1", "()Z"⟩
abbrev yB : ByteArray := jdk_42_method_154_code
theorem d0 : decode yB 0 = .ok (.getstatic 38, 3) := by decide +kernel
theorem d3 : decode yB 3 = .ok (.ifCond (.eq) 14, 3) := by decide +kernel
theorem d6 : decode yB 6 = .ok (.aload_n 0, 1) := by decide +kernel
theorem d7 : decode yB 7 = .ok (.getfield 15, 3) := by decide +kernel
theorem d10 : decode yB 10 = .ok (.ifCond (.ne) 7, 3) := by decide +kernel
theorem d13 : decode yB 13 = .ok (.iconst 1, 1) := by decide +kernel
theorem d14 : decode yB 14 = .ok (.goto 4, 3) := by decide +kernel
theorem d17 : decode yB 17 = .ok (.iconst 0, 1) := by decide +kernel
theorem d18 : decode yB 18 = .ok (.ireturn, 1) := by decide +kernel
def site : List Cond := [.fieldLink "java/lang/String" 38 "java/lang/String" "COMPACT_STRINGS" "Z", .fieldLink "java/lang/String" 15 "java/lang/String" "coder" "B"]
def tab : Cond := tabOf yN yB 1 (some .boolean) site
def P (x : Addr) (cd z : Int32) (args : Array Value) (s : State) : Prop := args = #[.ref x] ∧ Has x "java/lang/String" "coder" "B" (.int cd) s ∧ (cd = 0 ∨ cd = 1) ∧ StaticIs s "java/lang/String" "COMPACT_STRINGS" "Z" (.int z) ∧ ¬ z = 0
def E (cd : Int32) (r : Option Value) (s u : State) : Prop := XT.PureE (some (.int (1 - cd))) r s u
theorem law (l : Launch) (x : Addr) (cd z : Int32) : Law l yN 1 0 0 0 yB 1 (some .boolean) site (P x cd z) (E cd) [] 0 0 := by
  refine Law.of_walk (plainFor_of_name (by decide +kernel)) (by decide +kernel) (by decide +kernel) (by decide) (fun _ _ h => by rw [h.1]; rfl) (fun _ U U' hal hh h => ⟨h.1, h.2.1.mv hal hh, h.2.2.1, h.2.2.2.1.there hal hh, h.2.2.2.2⟩) (fun r U U' V V' h1 hal h2 h => XT.PureE.mv r U U' V V' h1 hal h2 h) ?_
  intro p e s m args below meth c s₁ X0 hexec hbytes hml hret hlk hnm hown hh0 W hP
  obtain ⟨rfl, hx, hc, s1, hz⟩ := hP
  have c1 : Steps p.tables e below (s₁.setTop (entryFrame m #[.ref x] 1)) (s₁.setTop (mkF m 0 #[.val (.ref x)] [])) := entry rfl
  obtain ⟨T2, X2, q2, st2⟩ := X0.sget hexec hown (wk W (.fieldLink "java/lang/String" 38 "java/lang/String" "COMPACT_STRINGS" "Z")) s1 (fun _ _ h => by rw [hh0]; exact h) (g := (mkF m 0 #[.val (.ref x)] [])) rfl (hb hbytes d0)
  have hh2 := q2.trans hh0
  have c3 : Steps p.tables e below (s₁.setTop (entryFrame m #[.ref x] 1)) (T2.setTop (mkF m 7 #[.val (.ref x)] [.ref x])) := (c1.trans (st2 _ (Steps.refl _))).trans (by
    refine XS.ifNo X2.here hexec rfl (hb hbytes d3) rfl (i0_eq_f hz) ?_
    refine XS.aloadN X2.here hexec rfl (hb hbytes d6) rfl rfl ?_
    exact Steps.refl _)
  obtain ⟨T4, X4, q4, st4⟩ := X2.hget hexec hown (wk W (.fieldLink "java/lang/String" 15 "java/lang/String" "coder" "B")) (hx.mv X2.warmed.alike hh2) (g := (mkF m 7 #[.val (.ref x)] [.ref x])) rfl (rest := []) rfl (hb hbytes d7)
  have c5 : Steps p.tables e below (s₁.setTop (entryFrame m #[.ref x] 1)) (T4.setTop (mkF m 10 #[.val (.ref x)] [.int cd])) := c3.trans (st4 _ (Steps.refl _))
  have c6 : Steps p.tables e below (s₁.setTop (entryFrame m #[.ref x] 1)) (T4.setTop (mkF m 18 #[.val (.ref x)] [.int (1 - cd)])) := by
    rcases hc with rfl | rfl
    · exact c5.trans (by
        refine XS.ifNo X4.here hexec rfl (hb hbytes d10) rfl (i0_ne_f rfl) ?_
        refine iconstV X4.here hexec rfl 1 (hb hbytes d13) (by decide) ?_
        refine XS.goto X4.here hexec rfl (pc0 := 14) rfl (hb hbytes d14) (by decide) rfl ?_
        exact Steps.refl _)
    · exact c5.trans (by
        refine XS.ifYes X4.here hexec rfl (pc0 := 10) rfl (hb hbytes d10) rfl (i0_ne_t (by decide)) (by decide) rfl ?_
        refine iconstV X4.here hexec rfl 0 (hb hbytes d17) (by decide) ?_
        exact Steps.refl _)
  exact ⟨T4, some (.int (1 - cd)), _, _, _, X4, rfl, rfl, rfl, (fun h => by cases h), ⟨rfl, q4.trans hh2⟩, fun fs hl => c6.trans (X4.ireturnOut hexec hret (by rcases hc with rfl | rfl <;> rfl) (Or.inr (Or.inl rfl)) (hb hbytes d18) hl)⟩
end IsL
namespace LChA
def yN : MethodName := ⟨"java/lang/StringLatin1", "charAt", "([BI)C"⟩
abbrev yB : ByteArray := jdk_43_method_2_code
theorem d0 : decode yB 0 = .ok (.iload_n 1, 1) := by decide +kernel
theorem d1 : decode yB 1 = .ok (.aload_n 0, 1) := by decide +kernel
theorem d2 : decode yB 2 = .ok (.arraylength, 1) := by decide +kernel
theorem d3 : decode yB 3 = .ok (.invokestatic 9, 3) := by decide +kernel
theorem d6 : decode yB 6 = .ok (.aload_n 0, 1) := by decide +kernel
theorem d7 : decode yB 7 = .ok (.iload_n 1, 1) := by decide +kernel
theorem d8 : decode yB 8 = .ok (.baload, 1) := by decide +kernel
theorem d9 : decode yB 9 = .ok (.sipush 255, 3) := by decide +kernel
theorem d12 : decode yB 12 = .ok (.iand, 1) := by decide +kernel
theorem d13 : decode yB 13 = .ok (.i2c, 1) := by decide +kernel
theorem d14 : decode yB 14 = .ok (.ireturn, 1) := by decide +kernel
def site : List Cond := [JO.Str_checkIndex.tab] ++ staticW "java/lang/StringLatin1" 9 JO.Str_checkIndex.yN
def tab : Cond := tabOf yN yB 2 (some .char) site
def P (t : Addr) (V : Cell) (i : Nat) (u : Int32) (fm : Value) (args : Array Value) (s : State) : Prop := args = #[.ref t, .int (Int32.ofNat i)] ∧ XT.Arr .byte t V s ∧ V.slots[i]? = some (.int u) ∧ (StaticIs s "jdk/internal/util/Preconditions" "SIOOBE_FORMATTER" "Ljava/util/function/BiFunction;" fm ∧ fm.isRef = true)
def E (u : Int32) (r : Option Value) (s w : State) : Prop := XT.PureE (some (.int (chr8 u))) r s w
theorem law (l : Launch) (t : Addr) (V : Cell) (i : Nat) (u : Int32) (fm : Value) : Law l yN 2 2 2 27 yB 2 (some .char) site (P t V i u fm) (E u) [] 0 0 := by
  refine Law.of_walk (plainFor_of_name (by decide +kernel)) (by decide +kernel) (by decide +kernel) (by decide) (fun _ _ h => by rw [h.1]; rfl) (fun _ U U' hal hh h => ⟨h.1, h.2.1.mv hal hh, h.2.2.1, h.2.2.2.1.there hal hh, h.2.2.2.2⟩) (fun r U U' V V' h1 hal h2 h => XT.PureE.mv r U U' V V' h1 hal h2 h) ?_
  intro p e s m args below meth c s₁ X0 hexec hbytes hml hret hlk hnm hown hh0 W hP
  obtain ⟨rfl, hV, hu, s1, rf⟩ := hP
  have v31 := hV.2.2.2
  have hi : i < V.slots.size := (Array.getElem?_eq_some_iff.mp hu).1
  have c1 : Steps p.tables e below (s₁.setTop (entryFrame m #[.ref t, .int (Int32.ofNat i)] 2)) (s₁.setTop (mkF m 0 #[.val (.ref t), .val (.int (Int32.ofNat i))] [])) := entry rfl
  have c2 : Steps p.tables e below (s₁.setTop (entryFrame m #[.ref t, .int (Int32.ofNat i)] 2)) (s₁.setTop (mkF m 3 #[.val (.ref t), .val (.int (Int32.ofNat i))] [.int (Int32.ofNat V.slots.size), .int (Int32.ofNat i)])) := c1.trans (by
    refine XS.iloadN X0.here hexec rfl (hb hbytes d0) rfl ?_
    refine XS.aloadN X0.here hexec rfl (hb hbytes d1) rfl rfl ?_
    refine X0.alen hexec (hV.mv X0.warmed.alike hh0) rfl rfl (hb hbytes d2) ?_
    exact Steps.refl _)
  obtain ⟨v3, T3, X3, E3, g3⟩ := X0.callS hexec (JO.Str_checkIndex.law l (Int32.ofNat i) (Int32.ofNat V.slots.size) fm) hown (wks W (staticW "java/lang/StringLatin1" 9 JO.Str_checkIndex.yN)) (wk W JO.Str_checkIndex.tab) (W := 0) (Nat.le_of_ble_eq_true rfl) (Nat.le_of_ble_eq_true rfl) (Nat.le_refl _) (Nat.le_refl _) (g := (mkF m 3 #[.val (.ref t), .val (.int (Int32.ofNat i))] [.int (Int32.ofNat V.slots.size), .int (Int32.ofNat i)])) rfl (by rw [hml]; rfl) c2 (argsL := [.int (Int32.ofNat i), .int (Int32.ofNat V.slots.size)]) (rest := []) rfl rfl (by show 2 * 0 + 0 ≤ _; decide) (hb hbytes d3) (⟨rfl, rf, s1.there X0.warmed.alike hh0, Int32.ofNat_not_neg (by omega), lt32 v31 hi⟩)
  obtain ⟨rfl, q3⟩ := E3
  have hh3 := q3.trans hh0
  have c4 : Steps p.tables e below (s₁.setTop (entryFrame m #[.ref t, .int (Int32.ofNat i)] 2)) (T3.setTop (mkF m 14 #[.val (.ref t), .val (.int (Int32.ofNat i))] [.int (chr8 u)])) := Steps.trans g3 (by
    refine XS.aloadN X3.here hexec rfl (hb hbytes d6) rfl rfl ?_
    refine XS.iloadN X3.here hexec rfl (hb hbytes d7) rfl ?_
    refine X3.aget hexec (hV.mv X3.warmed.alike hh3) rfl hu rfl rfl (hb hbytes d8) ?_
    refine sipushV X3.here hexec rfl 255 (hb hbytes d9) (by decide) ?_
    refine XS.iand X3.here hexec rfl (hb hbytes d12) rfl ?_
    refine i2c X3.here hexec rfl (hb hbytes d13) rfl ?_
    exact Steps.refl _)
  exact ⟨T3, some (.int (chr8 u)), _, _, _, X3, rfl, rfl, rfl, (fun h => by cases h), ⟨rfl, hh3⟩, fun fs hl => c4.trans (X3.ireturnOut hexec hret (narrow_c _) (Or.inr (Or.inr (Or.inr (Or.inl rfl)))) (hb hbytes d14) hl)⟩
end LChA
end StrChars
namespace StrChars.Road
open Jvm Sem ClassFile Op Lib Jvm.Stand Jvm.Free Jvm.Free.XT
open Jvm.Lib.Cold (StaticIs)
theorem consq {a : Array Value} {s : State} {c : Jvm.Cond} {L : List Jvm.Cond} (h0 : c.before a s = true) (h : ∀ w ∈ L, w.before a s = true) : ∀ w ∈ c :: L, w.before a s = true := fun w hw => (List.mem_cons.mp hw).elim (fun e => e ▸ h0) (h w)
/-- the words of String.length(), either coding -/
abbrev wordsLen : List Jvm.Cond := [.code Len.yN Len.yB 1 (some .int), .initialized ST, .fieldLink ST 9 ST "value" "[B", .fieldLink ST 38 ST "COMPACT_STRINGS" "Z", .fieldLink ST 15 ST "coder" "B", .code Cdr.yN Cdr.yB 1 (some .byte), .methodLink ST 335 Cdr.yN, .declares Cdr.yN, .selects ST Cdr.yN Cdr.yN, .instanceMethod Cdr.yN]
theorem tabLen_of {a : Array Value} {s : State} (h : ∀ w ∈ wordsLen, w.before a s = true) : Len.tab.before a s = true := by
  have hc : Cdr.tab.before a s = true := unparts (wk h (.code Cdr.yN Cdr.yB 1 (some .byte))) (wks h (.initialized Cdr.yN.cls :: Cdr.site))
  have q := consq hc h
  exact unparts (wk q (.code Len.yN Len.yB 1 (some .int))) (wks q (.initialized Len.yN.cls :: Len.site))
theorem movedLen {Z s : State} {a0 args : Array Value} (hZ : Z.Warmed39 s.vm) (hw : ∀ d ∈ wordsLen, d.before a0 Z = true) : ∀ d ∈ wordsLen, d.before args s = true := fun d hd => by
  have q := hw d hd
  have t : ∀ d ∈ wordsLen, d = .arrayClass .byte ∨ (d.onTables && d.keepsFace) = true := by decide +kernel
  rcases t d hd with rfl | t
  · exact RoadKit.mvA hZ q
  · exact RoadKit.mv hZ q t
/-- the bytes of the chars cs, low before high -/
def wideBytes : List Int32 → List Value
  | [] => []
  | c :: cs => .int (lo8 c) :: .int (hi8 c) :: wideBytes cs
theorem wide_lo (d : Value) : ∀ (cs : List Int32) (j : Nat), j < cs.length → (wideBytes cs).getD (2 * j) d = .int (lo8 (cs.getD j 0))
  | [], j, h => absurd h (Nat.not_lt_zero j)
  | c :: cs, 0, _ => rfl
  | c :: cs, j + 1, h => by
    have q := wide_lo d cs j (by simpa using h)
    rw [show 2 * (j + 1) = 2 * j + 1 + 1 from by omega]
    simpa [wideBytes] using q
theorem wide_hi (d : Value) : ∀ (cs : List Int32) (j : Nat), j < cs.length → (wideBytes cs).getD (2 * j + 1) d = .int (hi8 (cs.getD j 0))
  | [], j, h => absurd h (Nat.not_lt_zero j)
  | c :: cs, 0, _ => rfl
  | c :: cs, j + 1, h => by
    have q := wide_hi d cs j (by simpa using h)
    rw [show 2 * (j + 1) + 1 = 2 * j + 1 + 1 + 1 from by omega]
    simpa [wideBytes] using q
theorem low_at (d : Value) (cs : List Int32) (j : Nat) (h : j < cs.length) : (cs.map fun c => Value.int (lo8 c)).getD j d = .int (lo8 (cs.getD j 0)) := by
  simp [List.getD_eq_getElem?_getD, h]
/-- an array of N2 bytes vs codes the chars cs by the coder cd -/
def CodA (cs : List Int32) (cd N2 : Int32) (vs : List Value) : Prop := (cd = 0 ∧ N2 = Int32.ofNat cs.length ∧ vs = (cs.map fun c => Value.int (lo8 c)) ∧ ∀ c ∈ cs, ¬ 255 < c) ∨ (cd = 1 ∧ N2 = Int32.ofNat (2 * cs.length) ∧ vs = wideBytes cs ∧ ∃ c ∈ cs, 255 < c)
theorem CodA.cod {cs : List Int32} {cd N2 : Int32} {vs : List Value} {V : Cell} (h : CodA cs cd N2 vs) (hn : 2 * cs.length < 2 ^ 31) (hs : V.slots.size = N2.toNatClampNeg) (hv : RoadKit.Has V vs (.int 0)) : Cod cd cs.length (fun j => cs.getD j 0) V := by
  rcases h with ⟨rfl, rfl, rfl, h⟩ | ⟨rfl, rfl, rfl, c, hc, hw⟩
  · rw [n32 (by omega)] at hs
    exact Or.inl ⟨rfl, hs, fun j hj => ⟨by rw [hv j (by omega), low_at _ _ _ hj], by
      have e : cs.getD j 0 = cs[j] := by simp [List.getD_eq_getElem?_getD, hj]
      show ¬ 255 < cs.getD j 0
      rw [e]; exact h _ (List.getElem_mem _)⟩⟩
  · rw [n32 (by omega)] at hs
    obtain ⟨j, hj, rfl⟩ := List.getElem_of_mem hc
    exact Or.inr ⟨rfl, hs, fun j hj => ⟨by rw [hv _ (by omega), wide_lo _ _ _ hj], by rw [hv _ (by omega), wide_hi _ _ _ hj]⟩, j, hj, by
      have e : cs.getD j 0 = cs[j] := by simp [List.getD_eq_getElem?_getD, hj]
      show 255 < cs.getD j 0
      rw [e]; exact hw⟩
/-- an object of exactly java/lang/String, its two fields found: as the laws ask it -/
theorem strObj {Z U : State} {a0 : Array Value} {kI : Nat} (wi : (Jvm.Cond.instantiable ST kI).before a0 Z = true) (al : Z.vm.Alike U.vm) {x : Addr} {v0 c0 : Value} (E : RoadKit.Exa Z U.heap x ST) (V : RoadKit.Fld Z U.heap x ST "value" "[B" v0) (C : RoadKit.Fld Z U.heap x ST "coder" "B" c0) :
    ∃ (D : Cell) (fV fC : Field), Blank ST x D U ∧ Found ST "value" "[B" fV U ∧ Found ST "coder" "B" fC U ∧ D.slots[fV.slot]? = some v0 ∧ D.slots[fC.slot]? = some c0 ∧ RoadKit.slotOf Z ST "value" "[B" = fV.slot ∧ RoadKit.slotOf Z ST "coder" "B" = fC.slot := by
  obtain ⟨D, cfV, kV, iV, fV, hD, gV, stV, knV, obV, asV, slV⟩ := V
  obtain ⟨D', cfC, kC, iC, fC, hD', gC, stC, -, -, asC, slC⟩ := C
  cases hD.symm.trans hD'
  obtain ⟨D2, kD, e1, e2, e3, e4, e5⟩ := E
  cases hD.symm.trans e1
  obtain ⟨c2, k2, i1, i2, i3, -⟩ := Cond.instantiable_spec wi
  cases e2.symm.trans i1
  cases e3.symm.trans i2
  obtain ⟨kU, u1, u2⟩ := al.2.2 _ _ e3
  exact ⟨D, fV, fC, ⟨hD, ⟨knV, fun q hq => by rw [hq] at obV; cases obV⟩, by rw [al.findClass]; exact e2, kU, u1, by rw [u2]; exact i3, by rw [u2]; exact e5 i3⟩, ⟨SBG.found_only al ⟨cfV, kV, iV, gV⟩, stV⟩, ⟨SBG.found_only al ⟨cfC, kC, iC, gC⟩, stC⟩, slV, slC, by simp [RoadKit.slotOf, gV], by simp [RoadKit.slotOf, gC]⟩
theorem sta_is {Z U : State} (al : Z.vm.Alike U.vm) {C n d : String} {v : Value} (S : RoadKit.Sta Z U.heap C n d v) : StaticIs U C n d v := by
  obtain ⟨cfS, iS, kS, fS, st, cS, t1, t2, t3, t4, t5, t6, t7⟩ := S
  exact StaticIs.there (s := { Z with heap := U.heap }) ⟨cfS, iS, kS, fS, st, cS, t1, t2, t3, t4, t5, (fun q => by rw [q] at t6; cases t6), t7⟩ al rfl
/-- **length() OF SUCH A STRING** -/
theorem lenW {p : Program} {l : Launch} {e : Env} {R : Room} {s : State} {args : Array Value} {below : List Frame} {len W : Nat} {Z : State} {a0 : Array Value} {h : Heap} (hZ : Z.Warmed39 s.vm) (hw : ∀ d ∈ wordsLen, d.before a0 Z = true) {kI : Nat} (wi : (Jvm.Cond.instantiable ST kI).before a0 Z = true)
    {x t : Addr} {kb : ClassId} {cs : List Int32} {cd N2 z : Int32} {vs : List Value} (E : RoadKit.Exa Z h x ST) (V : RoadKit.Fld Z h x ST "value" "[B" (.ref t)) (C : RoadKit.Fld Z h x ST "coder" "B" (.int cd)) (K : RoadKit.Arv Z h t kb .byte N2 vs (.int 0)) (hc : CodA cs cd N2 vs) (hb : ∀ c ∈ cs, ¬ c < 0 ∧ ¬ (65535 : Int32) < c)
    (S : RoadKit.Sta Z h ST "COMPACT_STRINGS" "Z" (.int z)) (hz : ¬ z = 0) (l2 : cs.length ≤ 4000) (hfr : 2 ≤ R.frames) (hlo : W + 25 ≤ R.locals) :
    Back l R p e below s args (⟨"java/lang/String", "length", "()I"⟩ : MethodName) len W (fun P a => a = #[.ref x] ∧ P.U.heap = h ∧ P.cells + 0 ≤ R.cells ∧ P.slots + 0 ≤ R.slots)
      (fun P _ v B => ∃ L, (v = some (.int (Int32.ofNat cs.length)) ∧ L = [] ∧ B.U.heap = h) ∧ B.locs = P.locs ++ L ∧ B.cells = P.cells + 0 ∧ B.slots = P.slots + 0) := by
  obtain ⟨A, K1, K2, K3, K4, K5, K6⟩ := K
  have hcod := hc.cod (by omega) K3 K5
  intro m meth c P g ig mk a X hg hsize hdg hW hn hp'
  obtain ⟨rfl, rfl, r1, r2⟩ := hp'
  have al : Z.vm.Alike P.U.vm := hZ.alike.trans X.warmed.alike
  obtain ⟨D, fV, fC, hB, F1, F2, g1, g2, -, -⟩ := strObj wi al E V C
  have hx : Txt x t A cd cs.length (fun j => cs.getD j 0) P.U := ⟨⟨_, hB.2.2.1, D, hB.1, rfl, by cases q : D.vm <;> first | rfl | exact absurd q (hB.2.1.2 _)⟩, Has.of hB F1 g1, Has.of hB F2 g2, ⟨K1.1, State.isArrayOf_alike al K1.2.1, K1.2.2, by rcases hcod with ⟨-, q, -⟩ | ⟨-, q, -⟩ <;> omega⟩, hcod, fun j hj => by
    have e : cs.getD j 0 = cs[j] := by simp [List.getD_eq_getElem?_getD, hj]
    show ¬ cs.getD j 0 < 0 ∧ ¬ 65535 < cs.getD j 0
    rw [e]; exact hb _ (List.getElem_mem _)⟩
  obtain ⟨v, B, X', ⟨⟨hv, hh⟩, hl, hk, hs⟩, st⟩ := Len.pays x t A cd cs.length (fun j => cs.getD j 0) z (tabLen_of (movedLen hZ hw)) hfr hlo m meth c P g ig mk _ X hg hsize hdg hW hn ⟨r1, r2, rfl, hx, sta_is al S, hz⟩
  exact ⟨v, B, X', ⟨[], ⟨hv, rfl, hh⟩, hl, hk, hs⟩, st⟩
end StrChars.Road
namespace StrChars.Road
open Jvm Sem ClassFile Op Lib Jvm.Stand Jvm.Free Jvm.Free.XT
open Jvm.Lib.Cold (StaticIs)
/-- the road's facts of a String, as the laws ask it -/
theorem txt_of {Z U : State} {a0 : Array Value} {kI : Nat} (wi : (Jvm.Cond.instantiable ST kI).before a0 Z = true) (al : Z.vm.Alike U.vm) {x t : Addr} {kb : ClassId} {cs : List Int32} {cd N2 : Int32} {vs : List Value} (E : RoadKit.Exa Z U.heap x ST) (V : RoadKit.Fld Z U.heap x ST "value" "[B" (.ref t)) (C : RoadKit.Fld Z U.heap x ST "coder" "B" (.int cd)) (K : RoadKit.Arv Z U.heap t kb .byte N2 vs (.int 0)) (hc : CodA cs cd N2 vs) (hb : ∀ c ∈ cs, ¬ c < 0 ∧ ¬ (65535 : Int32) < c) (l2 : cs.length ≤ 4000) :
    ∃ A, Txt x t A cd cs.length (fun j => cs.getD j 0) U := by
  obtain ⟨A, K1, K2, K3, K4, K5, K6⟩ := K
  have hcod := hc.cod (by omega) K3 K5
  obtain ⟨D, fV, fC, hB, F1, F2, g1, g2, -, -⟩ := strObj wi al E V C
  exact ⟨A, ⟨_, hB.2.2.1, D, hB.1, rfl, by cases q : D.vm <;> first | rfl | exact absurd q (hB.2.1.2 _)⟩, Has.of hB F1 g1, Has.of hB F2 g2, ⟨K1.1, State.isArrayOf_alike al K1.2.1, K1.2.2, by rcases hcod with ⟨-, q, -⟩ | ⟨-, q, -⟩ <;> omega⟩, hcod, fun j hj => by
    have e : cs.getD j 0 = cs[j] := by simp [List.getD_eq_getElem?_getD, hj]
    show ¬ cs.getD j 0 < 0 ∧ ¬ 65535 < cs.getD j 0
    rw [e]; exact hb _ (List.getElem_mem _)⟩
end StrChars.Road
namespace StrChars
open Jvm Sem ClassFile Op Lib Jvm.Stand Jvm.Free.XT Jvm.Free.ALB Jvm.Free.JM Jvm.Free
open Jvm.Lib.Cold (StaticIs)
namespace ChN
def yN : MethodName := ⟨"java/lang/String", "charAt", "(I)C"⟩
abbrev yB : ByteArray := jdk_42_method_56_code
theorem d0 : decode yB 0 = .ok (.aload_n 0, 1) := by decide +kernel
theorem d1 : decode yB 1 = .ok (.invokevirtual 492, 3) := by decide +kernel
theorem d4 : decode yB 4 = .ok (.ifCond (.eq) 12, 3) := by decide +kernel
theorem d7 : decode yB 7 = .ok (.aload_n 0, 1) := by decide +kernel
theorem d8 : decode yB 8 = .ok (.getfield 9, 3) := by decide +kernel
theorem d11 : decode yB 11 = .ok (.iload_n 1, 1) := by decide +kernel
theorem d12 : decode yB 12 = .ok (.invokestatic 495, 3) := by decide +kernel
theorem d15 : decode yB 15 = .ok (.ireturn, 1) := by decide +kernel
def site : List Cond := [.fieldLink "java/lang/String" 9 "java/lang/String" "value" "[B", IsL.tab, LChA.tab] ++ virtW "java/lang/String" 492 "java/lang/String" IsL.yN IsL.yN ++ staticW "java/lang/String" 495 LChA.yN
def tab : Cond := tabOf yN yB 2 (some .char) site
def P (x t : Addr) (V : Cell) (n : Nat) (f : Nat → Int32) (z : Int32) (fm : Value) (i : Nat) (args : Array Value) (s : State) : Prop := args = #[.ref x, .int (Int32.ofNat i)] ∧ Txt x t V 0 n f s ∧ i < n ∧ StaticIs s "java/lang/String" "COMPACT_STRINGS" "Z" (.int z) ∧ ¬ z = 0 ∧ StaticIs s "jdk/internal/util/Preconditions" "SIOOBE_FORMATTER" "Ljava/util/function/BiFunction;" fm ∧ fm.isRef = true
def E (f : Nat → Int32) (i : Nat) (r : Option Value) (s u : State) : Prop := XT.PureE (some (.int (f i))) r s u
/-- charAt(i) of a Latin-1 String of n chars, i < n: f i -/
theorem law (l : Launch) (x t : Addr) (V : Cell) (n : Nat) (f : Nat → Int32) (z : Int32) (fm : Value) (i : Nat) : Law l yN 2 1 3 40 yB 2 (some .char) site (P x t V n f z fm i) (E f i) [] 0 0 := by
  refine Law.of_walk (plainFor_of_name (by decide +kernel)) (by decide +kernel) (by decide +kernel) (by decide) (fun _ _ h => by rw [h.1]; rfl) (fun _ U U' hal hh h => ⟨h.1, h.2.1.mv hal hh, h.2.2.1, h.2.2.2.1.there hal hh, h.2.2.2.2.1, h.2.2.2.2.2.1.there hal hh, h.2.2.2.2.2.2⟩) (fun r U U' V V' h1 hal h2 h => XT.PureE.mv r U U' V V' h1 hal h2 h) ?_
  intro p e s m args below meth c s₁ X0 hexec hbytes hml hret hlk hnm hown hh0 W hP
  obtain ⟨rfl, hx, hi, s1, hz, s3, rf⟩ := hP
  have v31 := hx.2.2.2.1.2.2.2
  have hr := hx.2.2.2.2.2 i hi
  have hx0 := hx.mv X0.warmed.alike hh0
  have c1 : Steps p.tables e below (s₁.setTop (entryFrame m #[.ref x, .int (Int32.ofNat i)] 2)) (s₁.setTop (mkF m 1 #[.val (.ref x), .val (.int (Int32.ofNat i))] [.ref x])) := Steps.trans (entry rfl) (by
    show Steps p.tables e below (s₁.setTop (mkF m 0 #[.val (.ref x), .val (.int (Int32.ofNat i))] [])) _
    refine XS.aloadN X0.here hexec rfl (hb hbytes d0) rfl rfl ?_
    exact Steps.refl _)
  obtain ⟨v2, T2, X2, E2, g2⟩ := X0.callV hexec (IsL.law l x 0 z) hown (wks W (virtW "java/lang/String" 492 "java/lang/String" IsL.yN IsL.yN)) rfl (by decide) (wk W IsL.tab) (W := 0) (Nat.le_of_ble_eq_true rfl) (Nat.le_of_ble_eq_true rfl) (Nat.le_refl _) (Nat.le_refl _) (hx0.1.fc X0.warmed.alike) hx0.1.is (g := (mkF m 1 #[.val (.ref x), .val (.int (Int32.ofNat i))] [.ref x])) rfl (by rw [hml]; rfl) c1 (argsL := []) (rest := []) rfl rfl (by show 2 * 0 + 0 ≤ _; decide) (hb hbytes d1) (⟨rfl, hx0.2.2.1, hx.2.2.2.2.1.cd, s1.there X0.warmed.alike hh0, hz⟩)
  obtain ⟨rfl, q2⟩ := E2
  have hh2 := q2.trans hh0
  have hx2 := hx.mv X2.warmed.alike hh2
  obtain ⟨-, k1, k2⟩ | ⟨k0, -⟩ := hx.2.2.2.2.1
  · have c3 : Steps p.tables e below (s₁.setTop (entryFrame m #[.ref x, .int (Int32.ofNat i)] 2)) (T2.setTop (mkF m 8 #[.val (.ref x), .val (.int (Int32.ofNat i))] [.ref x])) := Steps.trans g2 (by
      refine XS.ifNo X2.here hexec rfl (hb hbytes d4) rfl (i0_eq_f (by decide)) ?_
      refine XS.aloadN X2.here hexec rfl (hb hbytes d7) rfl rfl ?_
      exact Steps.refl _)
    obtain ⟨T4, X4, q4, st4⟩ := X2.hget hexec hown (wk W (.fieldLink "java/lang/String" 9 "java/lang/String" "value" "[B")) hx2.2.1 (g := (mkF m 8 #[.val (.ref x), .val (.int (Int32.ofNat i))] [.ref x])) rfl (rest := []) rfl (hb hbytes d8)
    have hh4 := q4.trans hh2
    have c5 : Steps p.tables e below (s₁.setTop (entryFrame m #[.ref x, .int (Int32.ofNat i)] 2)) (T4.setTop (mkF m 12 #[.val (.ref x), .val (.int (Int32.ofNat i))] [.int (Int32.ofNat i), .ref t])) := (c3.trans (st4 _ (Steps.refl _))).trans (by
      refine XS.iloadN X4.here hexec rfl (hb hbytes d11) rfl ?_
      exact Steps.refl _)
    obtain ⟨v6, T6, X6, E6, g6⟩ := X4.callS hexec (LChA.law l t V i (lo8 (f i)) fm) hown (wks W (staticW "java/lang/String" 495 LChA.yN)) (wk W LChA.tab) (W := 0) (Nat.le_of_ble_eq_true rfl) (Nat.le_of_ble_eq_true rfl) (Nat.le_refl _) (Nat.le_refl _) (g := (mkF m 12 #[.val (.ref x), .val (.int (Int32.ofNat i))] [.int (Int32.ofNat i), .ref t])) rfl (by rw [hml]; rfl) c5 (argsL := [.ref t, .int (Int32.ofNat i)]) (rest := []) rfl rfl (by show 2 * 0 + 0 ≤ _; decide) (hb hbytes d12) (⟨rfl, hx.2.2.2.1.mv X4.warmed.alike hh4, (k2 i hi).1, s3.there X4.warmed.alike hh4, rf⟩)
    obtain ⟨rfl, q6⟩ := E6
    rw [chr8_lo8 hr.1 (k2 i hi).2] at g6
    exact ⟨T6, some (.int (f i)), _, _, _, X6, rfl, rfl, rfl, (fun h => by cases h), ⟨rfl, q6.trans hh4⟩, fun fs hl => Steps.trans g6 (X6.ireturnOut hexec hret (narrow_ch hr.1 hr.2) (Or.inr (Or.inr (Or.inr (Or.inl rfl)))) (hb hbytes d15) hl)⟩
  · exact absurd k0 (by decide)
theorem pays {l : Launch} {R : Room} {p : Program} {e : Env} {below : List Frame} {s : State} {sargs : Array Value} {len W : Nat} (x t : Addr) (V : Cell) (n : Nat) (f : Nat → Int32) (z : Int32) (fm : Value) (i : Nat) (htab : tab.before sargs s = true) (hfr : 4 ≤ R.frames) (hlo : W + 53 ≤ R.locals) :
    Back l R p e below s sargs yN len W (fun A₁ a₁ => A₁.cells + 0 ≤ R.cells ∧ A₁.slots + 0 ≤ R.slots ∧ P x t V n f z fm i a₁ A₁.U) (fun A₁ _ v₁ B₁ => E f i v₁ A₁.U B₁.U ∧ B₁.locs = A₁.locs ++ [] ∧ B₁.cells = A₁.cells + 0 ∧ B₁.slots = A₁.slots + 0) :=
  (law l x t V n f z fm i).pays htab hfr (by omega)
end ChN
end StrChars
namespace StrChars.Road
open Jvm Sem ClassFile Op Lib Jvm.Stand Jvm.Free Jvm.Free.XT
open Jvm.Lib.Cold (StaticIs)
/-- the words of String.charAt(int), the Latin-1 road alone -/
abbrev wordsChN : List Jvm.Cond := [.code ChN.yN ChN.yB 2 (some .char), .initialized ST, .fieldLink ST 9 ST "value" "[B", .fieldLink ST 38 ST "COMPACT_STRINGS" "Z", .fieldLink ST 15 ST "coder" "B", .code IsL.yN IsL.yB 1 (some .boolean), .methodLink ST 492 IsL.yN, .declares IsL.yN, .selects ST IsL.yN IsL.yN, .instanceMethod IsL.yN,
  .methodLink ST 495 LChA.yN, .static LChA.yN, .code LChA.yN LChA.yB 2 (some .char), .initialized "java/lang/StringLatin1", .methodLink "java/lang/StringLatin1" 9 JO.Str_checkIndex.yN, .static JO.Str_checkIndex.yN, .code JO.Str_checkIndex.yN JO.Str_checkIndex.yB 2 none,
  .fieldLink ST 1053 "jdk/internal/util/Preconditions" "SIOOBE_FORMATTER" "Ljava/util/function/BiFunction;", .methodLink ST 1059 JC.PreCheck.yN, .static JC.PreCheck.yN, .code JC.PreCheck.yN JC.PreCheck.yB 3 (some .int), .initialized "jdk/internal/util/Preconditions"]
theorem tabChN_of {a : Array Value} {s : State} (h : ∀ w ∈ wordsChN, w.before a s = true) : ChN.tab.before a s = true := by
  have hp : JC.PreCheck.tab.before a s = true := unparts (wk h (.code JC.PreCheck.yN JC.PreCheck.yB 3 (some .int))) (wks h (.initialized JC.PreCheck.yN.cls :: JC.PreCheck.site))
  have qk := consq hp h
  have hk : JO.Str_checkIndex.tab.before a s = true := unparts (wk qk (.code JO.Str_checkIndex.yN JO.Str_checkIndex.yB 2 none)) (wks qk (.initialized JO.Str_checkIndex.yN.cls :: JO.Str_checkIndex.site))
  have ql := consq hk h
  have hl : LChA.tab.before a s = true := unparts (wk ql (.code LChA.yN LChA.yB 2 (some .char))) (wks ql (.initialized LChA.yN.cls :: LChA.site))
  have hi : IsL.tab.before a s = true := unparts (wk h (.code IsL.yN IsL.yB 1 (some .boolean))) (wks h (.initialized IsL.yN.cls :: IsL.site))
  have q := consq hi (consq hl h)
  exact unparts (wk q (.code ChN.yN ChN.yB 2 (some .char))) (wks q (.initialized ChN.yN.cls :: ChN.site))
theorem movedChN {Z s : State} {a0 args : Array Value} (hZ : Z.Warmed39 s.vm) (hw : ∀ d ∈ wordsChN, d.before a0 Z = true) : ∀ d ∈ wordsChN, d.before args s = true := fun d hd => by
  have t : ∀ d ∈ wordsChN, (d.onTables && d.keepsFace) = true := by decide +kernel
  exact RoadKit.mv hZ (hw d hd) (t d hd)
/-- **charAt(i) OF A LATIN-1 STRING**, i < n: the char -/
theorem chN {p : Program} {l : Launch} {e : Env} {R : Room} {s : State} {args : Array Value} {below : List Frame} {len W : Nat} {Z : State} {a0 : Array Value} {h : Heap} (hZ : Z.Warmed39 s.vm) (hw : ∀ d ∈ wordsChN, d.before a0 Z = true) {kI : Nat} (wi : (Jvm.Cond.instantiable ST kI).before a0 Z = true)
    {x t : Addr} {kb : ClassId} {cs : List Int32} {N2 z : Int32} {vs : List Value} {fm : Value} {i : Nat} {j : Int32} (E : RoadKit.Exa Z h x ST) (V : RoadKit.Fld Z h x ST "value" "[B" (.ref t)) (C : RoadKit.Fld Z h x ST "coder" "B" (.int 0)) (K : RoadKit.Arv Z h t kb .byte N2 vs (.int 0)) (hc : CodA cs 0 N2 vs) (hb : ∀ c ∈ cs, ¬ c < 0 ∧ ¬ (65535 : Int32) < c)
    (S : RoadKit.Sta Z h ST "COMPACT_STRINGS" "Z" (.int z)) (hz : ¬ z = 0) (F : RoadKit.Sta Z h "jdk/internal/util/Preconditions" "SIOOBE_FORMATTER" "Ljava/util/function/BiFunction;" fm) (rf : fm.isRef = true) (l2 : cs.length ≤ 4000) (hi : i < cs.length) (hj : j = Int32.ofNat i) (hfr : 4 ≤ R.frames) (hlo : W + 53 ≤ R.locals) :
    Back l R p e below s args (⟨"java/lang/String", "charAt", "(I)C"⟩ : MethodName) len W (fun P a => a = #[.ref x, .int j] ∧ P.U.heap = h ∧ P.cells + 0 ≤ R.cells ∧ P.slots + 0 ≤ R.slots)
      (fun P _ v B => ∃ L, (v = some (.int (cs.getD i 0)) ∧ L = [] ∧ B.U.heap = h) ∧ B.locs = P.locs ++ L ∧ B.cells = P.cells + 0 ∧ B.slots = P.slots + 0) := by
  subst hj
  intro m meth c P g ig mk a X hg hsize hdg hW hn hp'
  obtain ⟨rfl, rfl, r1, r2⟩ := hp'
  have al : Z.vm.Alike P.U.vm := hZ.alike.trans X.warmed.alike
  obtain ⟨A, hx⟩ := txt_of wi al E V C K hc hb l2
  obtain ⟨v, B, X', ⟨⟨hv, hh⟩, hl, hk, hs⟩, st⟩ := ChN.pays x t A cs.length (fun j => cs.getD j 0) z fm i (tabChN_of (movedChN hZ hw)) hfr hlo m meth c P g ig mk _ X hg hsize hdg hW hn ⟨r1, r2, rfl, hx, hi, sta_is al S, hz, sta_is al F, rf⟩
  exact ⟨v, B, X', ⟨[], ⟨hv, rfl, hh⟩, hl, hk, hs⟩, st⟩
/-- what backV says of its String, as the contracts of this text ask it: cs's low bytes, coder 0 -/
theorem codOf {cs : List Int32} {n : Nat} (hn : cs.length = n) (hb : ∀ c ∈ cs, ¬ 255 < c) : CodA cs 0 (Int32.ofNat n) ((cs.map lo8).map Value.int) := Or.inl ⟨rfl, by rw [hn], by simp [List.map_map, Function.comp_def], hb⟩
end StrChars.Road
end Jvm.Pilot.@@N@@

namespace Jvm.Pilot.@@N@@
open Jvm Jvm.ClassFile Sem Op Lib Jvm.Free Jvm.Stand Jvm.LawKit Jvm.RoadKit Bundle Jvm.Pilot.@@N@@.Jvm.D
section Own
variable {p : Program} {l : Launch} {e : Env} {R : Room} {s : State} {m : MethodId} {args : Array Value} {below : List Frame} {meth : Method} {c : Code} {T : State} {locs : List Loc} {cells slots : Nat}
/-- from t on the body comes to an end, with at most C cells and S slots made, and Q says of it -/
def own_Comes (p : Program) (e : Env) (below : List Frame) (s : State) (C S : Nat) (Q : Option Value → Heap → List Loc → Prop) (t : State) : Prop :=
  ∃ (U : State) (o : Outcome), Steps p.tables e below t U ∧ U.status = .running ∧ Ended U below o ∧ ∃ v L, o = .returned v ∧ Q v U.heap L ∧ FrameEnd s o U L C S
theorem own_by {C S : Nat} {Q : Option Value → Heap → List Loc → Prop} {t t' : State} (st : ∀ target, Steps p.tables e below t' target → Steps p.tables e below t target) (h : own_Comes p e below s C S Q t') : own_Comes p e below s C S Q t := by
  obtain ⟨U, o, h1, h2⟩ := h
  exact ⟨U, o, st _ h1, h2⟩
theorem own_tr {C S : Nat} {Q : Option Value → Heap → List Loc → Prop} {t t' : State} (st : Steps p.tables e below t t') (h : own_Comes p e below s C S Q t') : own_Comes p e below s C S Q t := by
  obtain ⟨U, o, h1, h2⟩ := h
  exact ⟨U, o, st.trans h1, h2⟩
theorem own_ret (X : Stand p l e R s m args below meth c T locs cells slots) {C S : Nat} {Q : Option Value → Heap → List Loc → Prop} {v : Option Value} {t : State} (hv : meth.sig.returnType = none → v = none) (hlk : meth.locks = false) (hC : cells ≤ C) (hS : slots ≤ S) (hQ : Q v T.heap locs)
    (st : ∀ fs, (∀ (f : JFrame) (acts : List Action), f.method = m → f.locked = none → f.entered = [] → (doReturn e (T.setTop f) acts v).1 = T.setFrames fs) → Steps p.tables e below t (T.setFrames fs)) : own_Comes p e below s C S Q t := by
  obtain ⟨fs, hr, hrun, hended, hW, hsame⟩ := X.leave (v := v) hv hlk
  exact ⟨_, _, st fs hr, hrun, hended, v, locs, rfl, hQ, ⟨_, rfl⟩, hW, hsame.mono hC hS⟩
theorem retI (X : Stand p l e R s m args below meth c T locs cells slots) (hx : p.tables.exec = Jvm.exec) {pc : Nat} {Ls : Array Slot} {z : Int32} {rest : List Value} (hret : meth.sig.returnType = some .int) (hd : decode c.code pc = .ok (.ireturn, 1)) {fs : List Frame}
    (hl : ∀ (f : JFrame) (acts : List Action), f.method = m → f.locked = none → f.entered = [] → (doReturn e (T.setTop f) acts (some (.int z))).1 = T.setFrames fs) : Steps p.tables e below (T.setTop (mkF m pc Ls (.int z :: rest))) (T.setFrames fs) := by
  have hm' : T.vm.method? m = some meth := X.method'
  have hn : narrow .int (.int z) = .int z := rfl
  show Steps p.tables e below (T.setTop { method := m, pc := pc, locals := Ls, stack := _ :: rest, locked := none }) _
  jvm_step X.here [X.here.top, hx, hd, hm', hret, hn]
  first | (intro acts; rw [hl _ acts rfl rfl rfl]) | rw [hl _ _ rfl rfl rfl]
  exact Steps.refl _
theorem own_reta (X : Stand p l e R s m args below meth c T locs cells slots) (hx : p.tables.exec = Jvm.exec) {pc : Nat} {Ls : Array Slot} {w : Value} {t : FieldType} {rest : List Value} (hret : meth.sig.returnType = some t) (ht : t.isReference = true) (hw : w.isRef = true) (hd : decode c.code pc = .ok (.areturn, 1)) {fs : List Frame}
    (hl : ∀ (f : JFrame) (acts : List Action), f.method = m → f.locked = none → f.entered = [] → (doReturn e (T.setTop f) acts (some w)).1 = T.setFrames fs) : Steps p.tables e below (T.setTop (mkF m pc Ls (w :: rest))) (T.setFrames fs) := by
  have hm' : T.vm.method? m = some meth := X.method'
  have hn : narrow t w = w := by cases t <;> first | (cases ht; done) | (cases w <;> rfl)
  rcases ref_cases hw with rfl | ⟨z, rfl⟩
  all_goals
    show Steps p.tables e below (T.setTop { method := m, pc := pc, locals := Ls, stack := _ :: rest, locked := none }) _
    jvm_step X.here [X.here.top, hx, hd, hm', hret, hn, Value.isRef]
    try (refine ⟨ht, ?_⟩)
    first | (intro acts; rw [hl _ acts rfl rfl rfl]) | rw [hl _ _ rfl rfl rfl]
    exact Steps.refl _
/-- what is kept with nothing old written is only added to -/
theorem own_ext {h h' : Heap} (K : Keep h h' []) : Ext h h' := ⟨K.1, fun x c q => K.2.1 x c q nin0⟩
/-- the same, where String constants may have been loaded -/
def own_ComesW (p : Program) (e : Env) (below : List Frame) (s : State) (C S : Nat) (Q : Option Value → Heap → List Loc → Prop) (t : State) : Prop :=
  ∃ (U : State) (o : Outcome), Steps p.tables e below t U ∧ U.status = .running ∧ Ended U below o ∧ ∃ v L, o = .returned v ∧ Q v U.heap L ∧ ReturnedEndW s o U L C S
theorem own_byW {C S : Nat} {Q : Option Value → Heap → List Loc → Prop} {t t' : State} (st : ∀ target, Steps p.tables e below t' target → Steps p.tables e below t target) (h : own_ComesW p e below s C S Q t') : own_ComesW p e below s C S Q t := by
  obtain ⟨U, o, h1, h2⟩ := h
  exact ⟨U, o, st _ h1, h2⟩
theorem own_trW {C S : Nat} {Q : Option Value → Heap → List Loc → Prop} {t t' : State} (st : Steps p.tables e below t t') (h : own_ComesW p e below s C S Q t') : own_ComesW p e below s C S Q t := by
  obtain ⟨U, o, h1, h2⟩ := h
  exact ⟨U, o, st.trans h1, h2⟩
theorem own_retW {vm1 : Vm} (X : Stand p l e R (s.setVm vm1) m args below meth c T locs cells slots) {k : Nat} (hS : s.Since vm1 k) (hk : k ≤ T.heap.size) {C S : Nat} {Q : Option Value → Heap → List Loc → Prop} {v : Option Value} {t : State} (hv : meth.sig.returnType = none → v = none) (hlk : meth.locks = false) (hC : cells ≤ C) (hSl : slots ≤ S) (hQ : Q v T.heap locs)
    (st : ∀ fs, (∀ (f : JFrame) (acts : List Action), f.method = m → f.locked = none → f.entered = [] → (doReturn e (T.setTop f) acts v).1 = T.setFrames fs) → Steps p.tables e below t (T.setFrames fs)) : own_ComesW p e below s C S Q t := by
  obtain ⟨fs, hr, hrun, hended, hE⟩ := X.leaveW hS hk (v := v) hv hlk
  exact ⟨_, _, st fs hr, hrun, hended, v, locs, rfl, hQ, hE.1, hE.2.1, hE.2.2.1, hE.2.2.2.mono hC hSl⟩
end Own
def own_EL : List (String × Nat) := [("com/example/eslabon/eslabon/CodeChallengeMethodIsWellFormedPinLaw", 13)]
section OwnH
variable {p : Program} {l : Launch} {e : Env} {R : Room} {s : State} {m : MethodId} {args : Array Value} {below : List Frame} {meth : Method} {c : Code} {T : State} {locs : List Loc} {cells slots : Nat} {Z : State} {a0 : Array Value}
theorem own_EW (hw : ∀ d ∈ tables_1, d.before a0 Z = true) : EW Z a0 own_EL := (EW.cons (hw _ (List.mem_of_getElem? (i := 126) rfl)) (by decide) EW.nil)
/-- the same, where String constants may have been loaded and those of own_EL are read -/
def own_ComesH (Z : State) (p : Program) (e : Env) (below : List Frame) (s : State) (C S : Nat) (Q : Option Value → Heap → List Loc → Prop) (t : State) : Prop :=
  ∃ (U : State) (o : Outcome), Steps p.tables e below t U ∧ U.status = .running ∧ Ended U below o ∧ ∃ v L, o = .returned v ∧ Q v U.heap L ∧ CHr Z own_EL s.vm s.heap U.vm U.heap ∧ ReturnedEndW s o U L C S
theorem own_byH {C S : Nat} {Q : Option Value → Heap → List Loc → Prop} {t t' : State} (st : ∀ target, Steps p.tables e below t' target → Steps p.tables e below t target) (h : own_ComesH Z p e below s C S Q t') : own_ComesH Z p e below s C S Q t := by
  obtain ⟨U, o, h1, h2⟩ := h
  exact ⟨U, o, st _ h1, h2⟩
theorem own_trH {C S : Nat} {Q : Option Value → Heap → List Loc → Prop} {t t' : State} (st : Steps p.tables e below t t') (h : own_ComesH Z p e below s C S Q t') : own_ComesH Z p e below s C S Q t := by
  obtain ⟨U, o, h1, h2⟩ := h
  exact ⟨U, o, st.trans h1, h2⟩
theorem own_retH {vm1 : Vm} (X : Stand p l e R (s.setVm vm1) m args below meth c T locs cells slots) {k : Nat} (hS : s.Since vm1 k) (hk : k ≤ T.heap.size) (hcr : CHr Z own_EL s.vm s.heap T.vm T.heap) {C S : Nat} {Q : Option Value → Heap → List Loc → Prop} {v : Option Value} {t : State} (hv : meth.sig.returnType = none → v = none) (hlk : meth.locks = false) (hC : cells ≤ C) (hSl : slots ≤ S) (hQ : Q v T.heap locs)
    (st : ∀ fs, (∀ (f : JFrame) (acts : List Action), f.method = m → f.locked = none → f.entered = [] → (doReturn e (T.setTop f) acts v).1 = T.setFrames fs) → Steps p.tables e below t (T.setFrames fs)) : own_ComesH Z p e below s C S Q t := by
  obtain ⟨fs, hr, hrun, hended, hE⟩ := X.leaveW hS hk (v := v) hv hlk
  exact ⟨_, _, st fs hr, hrun, hended, v, locs, rfl, hQ, hcr, hE.1, hE.2.1, hE.2.2.1, hE.2.2.2.mono hC hSl⟩
theorem own_nullsafe {EL : List (String × Nat)} {vm : Vm} {h : Heap} {x : Addr} (hal : Z.vm.Alike vm) (E : Exa Z h x "java/lang/String") (F : Fld Z h x "java/lang/String" "value" "[B" .null) : Safe Z EL vm h x := fun B => by
  obtain ⟨cell, k, e1, e2, e3, -, -⟩ := E
  obtain ⟨cell', cf, kf, i, f, f1, f2, f3, f4, f5, f6, f7⟩ := F
  cases e1.symm.trans f1
  have nm : ∀ {n : String} {c : ClassId}, vm.findClass n = some c → c = cell.cls → n = "java/lang/String" := fun {n c} f e => by
    subst e
    rw [hal.findClass] at f
    obtain ⟨k1, q1, q2⟩ := Vm.findClass_spec f
    obtain ⟨k2, q3, q4⟩ := Vm.findClass_spec e2
    cases q1.symm.trans q3
    exact q2.symm.trans q4
  obtain ⟨p, -, u, a, -, q, -, G, rfl | rfl⟩ := B
  · cases (show h[q.sa]? = some q.sC from G.ha).symm.trans e1
    obtain ⟨cS, ⟨⟨s1, s2, s3, ⟨cv, kv, iv, s4, s4'⟩, s5, s6, s7, s8, s9⟩, -, -⟩, -⟩ := G
    obtain ⟨kv', z4⟩ := ff_back (U := Wst Z vm h) hal s4
    cases f2.symm.trans z4
    cases s8.symm.trans f7
  · cases (show h[q.sd]? = some q.SA from G.hd).symm.trans e1
    obtain ⟨cS, -, -, g, -⟩ := G
    exact absurd (nm g rfl) (by decide)
end OwnH
theorem own_cat {w : Value} (i : w.isRef = true) : w.category = 1 := by rcases ref_cases i with rfl | ⟨z, rfl⟩ <;> rfl
section OwnU
open StrChars StrChars.Road
def own_Txt (Z : State) (h : Heap) (x : Addr) (cs : List Int32) : Prop :=
  Exa Z h x "java/lang/String" ∧ ∃ (t : Addr) (kb : ClassId) (cd N2 : Int32) (vs : List Value), Fld Z h x "java/lang/String" "value" "[B" (.ref t) ∧ Fld Z h x "java/lang/String" "coder" "B" (.int cd) ∧ Arv Z h t kb .byte N2 vs (.int 0) ∧ CodA cs cd N2 vs ∧ (∀ c ∈ cs, ¬ c < 0 ∧ ¬ (65535 : Int32) < c) ∧ cs.length ≤ 4000
theorem own_Txt.ext {Z : State} {h h' : Heap} {x : Addr} {cs : List Int32} (A : own_Txt Z h x cs) (E : Ext h h') : own_Txt Z h' x cs := by
  obtain ⟨a1, t, kb, cd, N2, vs, a2, a3, a4, a5⟩ := A
  exact ⟨a1.ext E, t, kb, cd, N2, vs, a2.ext E, a3.ext E, a4.ext E, a5⟩
theorem own_tn {k : Nat} (h : k < 2 ^ 31) : (Int32.ofNat k).toNatClampNeg = k := Int32.toNatClampNeg_ofNat_of_lt h
theorem own_ti {k : Nat} (h : k < 2 ^ 31) : (Int32.ofNat k).toInt = k := Int32.toInt_ofNat_of_lt h
theorem own_neg {k : Nat} (h : k < 2 ^ 31) : ¬ Int32.ofNat k < 0 := by
  have e0 : (0 : Int32).toInt = 0 := by decide
  rw [Int32.lt_iff_toInt_lt, own_ti h]; omega
theorem own_lt {a b : Nat} (ha : a < 2 ^ 31) (hB : b < 2 ^ 31) : Int32.ofNat a < Int32.ofNat b ↔ a < b := by
  rw [Int32.lt_iff_toInt_lt, own_ti ha, own_ti hB]; omega
theorem own_inb {c : Cell} {n k : Nat} (S : c.slots.size = (Int32.ofNat n).toNatClampNeg) (hn : n < 2 ^ 31) (hk : k < n) : ¬ (Int32.ofNat k < 0 ∨ c.slots.size ≤ (Int32.ofNat k).toNatClampNeg) := by
  rw [S, own_tn hn, own_tn (by omega)]
  rintro (q | q)
  · exact own_neg (by omega) q
  · omega
theorem own_succ {k : Nat} (h : k + 1 < 2 ^ 31) : Int32.ofNat k + (1 : Int32) = Int32.ofNat (k + 1) := by
  have e1 : (1 : Int32).toInt = 1 := by decide
  have q := c_iadd (Int32.ofNat k) (1 : Int32)
  have r := rng32 (Int32.ofNat k + (1 : Int32))
  rw [own_ti (by omega), e1] at q
  apply Int32.toInt_inj.mp
  rw [own_ti h]; omega
theorem own_shl {k : Nat} (h : k ≤ 4000) : Int32.ofNat k <<< ((1 : Int32) &&& 31) = Int32.ofNat (2 * k) := by
  have q := c_ishl (Int32.ofNat k) (1 : Int32) 1 (by decide)
  have r := rng32 (Int32.ofNat k <<< ((1 : Int32) &&& 31))
  rw [own_ti (by omega)] at q
  apply Int32.toInt_inj.mp
  rw [own_ti (by omega)]; omega
theorem own_mem {cs : List Int32} {i : Nat} (h : i < cs.length) : cs.getD i 0 ∈ cs := by
  rw [List.getD_eq_getElem?_getD, List.getElem?_eq_getElem h]; exact List.getElem_mem h
theorem own_nar16 {x : Int32} (h : ¬ x < 0 ∧ ¬ (65535 : Int32) < x) : nar .char x = x := by
  show x.toUInt32.toUInt16.toUInt32.toInt32 = x
  have e0 : (0 : Int32).toInt = 0 := by decide
  have e : (65535 : Int32).toInt = 65535 := by decide
  have q := c_i2c x
  rw [Int32.lt_iff_toInt_lt, Int32.lt_iff_toInt_lt] at h
  apply Int32.toInt_inj.mp; omega
theorem own_up {c : Int32} (h : ¬ c < 0 ∧ ¬ (255 : Int32) < c) : ¬ c < 0 ∧ ¬ (65535 : Int32) < c := by
  have e0 : (0 : Int32).toInt = 0 := by decide
  have e : (255 : Int32).toInt = 255 := by decide
  have e' : (65535 : Int32).toInt = 65535 := by decide
  rw [Int32.lt_iff_toInt_lt, Int32.lt_iff_toInt_lt] at h ⊢; omega
theorem own_gc {c : Int32} (h : ¬ c < 0 ∧ ¬ (65535 : Int32) < c) : nar .char (((((lo8 c) &&& (255 : Int32)) <<< ((0 : Int32) &&& 31)) ||| (((hi8 c) &&& (255 : Int32)) <<< ((8 : Int32) &&& 31))).toUInt32.toUInt16.toUInt32.toInt32) = c := by
  have q : ((((lo8 c) &&& (255 : Int32)) <<< ((0 : Int32) &&& 31)) ||| (((hi8 c) &&& (255 : Int32)) <<< ((8 : Int32) &&& 31))).toUInt32.toUInt16.toUInt32.toInt32 = c := pair_says h.1 h.2
  rw [q]; exact own_nar16 h
theorem own_gl {c : Int32} (h : ¬ c < 0 ∧ ¬ (255 : Int32) < c) : nar .char (((lo8 c) &&& (255 : Int32)).toUInt32.toUInt16.toUInt32.toInt32) = c := by
  have q : ((lo8 c) &&& (255 : Int32)).toUInt32.toUInt16.toUInt32.toInt32 = c := chr8_lo8 h.1 h.2
  rw [q]; exact own_nar16 (own_up h)
theorem own_b1 (c : Int32) : ((c >>> ((0 : Int32) &&& 31)).toInt8.toInt32).toInt8.toInt32 = lo8 c := by
  rw [shr0]; show c.toInt8.toInt32.toInt8.toInt32 = c.toInt8.toInt32
  simp
theorem own_b2 (c : Int32) : ((c >>> ((8 : Int32) &&& 31)).toInt8.toInt32).toInt8.toInt32 = hi8 c := by
  show (c >>> ((8 : Int32) &&& 31)).toInt8.toInt32.toInt8.toInt32 = (c >>> ((8 : Int32) &&& 31)).toInt8.toInt32
  simp
theorem own_wlen (cs : List Int32) : (wideBytes cs).length = 2 * cs.length := by
  induction cs with
  | nil => rfl
  | cons c cs ih => simp only [wideBytes, List.length_cons, ih]; omega
/-- the bytes written so far -/
def own_Half (cs : List Int32) (i : Nat) (vs : List Value) : Prop := vs.length = 2 * cs.length ∧ ∀ j, j < 2 * i → vs.getD j (.int 0) = (wideBytes cs).getD j (.int 0)
theorem own_Half.zero (cs : List Int32) : own_Half cs 0 (List.replicate (2 * cs.length) (.int (0 : Int32))) := ⟨by simp, fun j hj => absurd hj (by omega)⟩
theorem own_Half.step {cs : List Int32} {i : Nat} {vs : List Value} (h : own_Half cs i vs) (hi : i < cs.length) : own_Half cs (i + 1) ((vs.set (2 * i) (.int (lo8 (cs.getD i 0)))).set (2 * i + 1) (.int (hi8 (cs.getD i 0)))) := by
  obtain ⟨h1, h2⟩ := h
  refine ⟨by simp [h1], fun j hj => ?_⟩
  by_cases q1 : j = 2 * i + 1
  · subst q1
    rw [wide_hi _ cs i hi, List.getD_eq_getElem?_getD, List.getElem?_set_self (by simp only [List.length_set]; omega)]; rfl
  · rw [List.getD_eq_getElem?_getD, List.getElem?_set_ne (Ne.symm q1)]
    by_cases q2 : j = 2 * i
    · subst q2
      rw [wide_lo _ cs i hi, List.getElem?_set_self (by omega)]; rfl
    · rw [List.getElem?_set_ne (Ne.symm q2), ← List.getD_eq_getElem?_getD]; exact h2 j (by omega)
theorem own_Half.full {cs : List Int32} {vs : List Value} (h : own_Half cs cs.length vs) : vs = wideBytes cs := by
  obtain ⟨h1, h2⟩ := h
  apply List.ext_getElem (by rw [h1, own_wlen])
  intro j q1 q2
  have := h2 j (by rw [h1] at q1; exact q1)
  rw [List.getD_eq_getElem?_getD, List.getD_eq_getElem?_getD, List.getElem?_eq_getElem q1, List.getElem?_eq_getElem q2] at this
  exact this
theorem own_cod {n : Nat} (h0 : 0 < n) (h : n ≤ 4000) : nar .byte ((((Int32.ofNat n) - (Int32.ofNat (2 * n))).toUInt32 >>> ((31 : Int32) &&& 31).toUInt32).toInt32.toInt8.toInt32) = 1 := by
  have q := c_isub (Int32.ofNat n) (Int32.ofNat (2 * n))
  have r := rng32 (Int32.ofNat n - Int32.ofNat (2 * n))
  rw [own_ti (by omega), own_ti (by omega)] at q
  have u := c_iushr (Int32.ofNat n - Int32.ofNat (2 * n)) (31 : Int32) 31 (by decide) (by decide)
  have e : (((Int32.ofNat n) - (Int32.ofNat (2 * n))).toUInt32 >>> ((31 : Int32) &&& 31).toUInt32).toInt32 = 1 := by
    apply Int32.toInt_inj.mp
    have e1 : (1 : Int32).toInt = 1 := by decide
    rw [u, e1]; omega
  rw [e]; decide
theorem own_shr1 {n : Nat} (h : n ≤ 4000) : Int32.ofNat (2 * n) >>> ((1 : Int32) &&& 31) = Int32.ofNat n := shr1 (by omega)
theorem own_char {cs : List Int32} {i : Nat} (h : i < cs.length) : (cs.map Value.int).getD i (.int 0) = .int (cs.getD i 0) := by
  rw [List.getD_eq_getElem?_getD, List.getElem?_map, List.getElem?_eq_getElem h, List.getD_eq_getElem?_getD, List.getElem?_eq_getElem h]; rfl
theorem own_first {cs : List Int32} {i : Nat} (hw : ∃ c ∈ cs, (255 : Int32) < c) (h : ∀ j, j < i → ¬ (255 : Int32) < cs.getD j 0) (hi : i ≤ cs.length) : i < cs.length := by
  by_cases q : i < cs.length
  · exact q
  · obtain ⟨c, hc, hc2⟩ := hw
    obtain ⟨j, hj, rfl⟩ := List.getElem_of_mem hc
    refine absurd ?_ (h j (by omega))
    rw [List.getD_eq_getElem?_getD, List.getElem?_eq_getElem hj]; exact hc2
theorem own_next {cs : List Int32} {i : Nat} (h : ∀ j, j < i → ¬ (255 : Int32) < cs.getD j 0) (k : ¬ (255 : Int32) < cs.getD i 0) : ∀ j, j < i + 1 → ¬ (255 : Int32) < cs.getD j 0 := fun j hj => by
  by_cases q : j = i
  · subst q; exact k
  · exact h j (by omega)
theorem own_ne32 {a b : Nat} (ha : a < 2 ^ 31) (hB : b < 2 ^ 31) (h : a < b) : ¬ Int32.ofNat a = Int32.ofNat b := fun q => by
  have := congrArg Int32.toInt q
  rw [own_ti ha, own_ti hB] at this; omega
theorem own_big {k : Nat} (h : k ≤ 4000) : Int32.ofNat k < (1073741823 : Int32) := by
  have e : (1073741823 : Int32).toInt = 1073741823 := by decide
  rw [Int32.lt_iff_toInt_lt, own_ti (by omega), e]; omega
theorem own_not0 {k : Nat} (h0 : 0 < k) (h : k ≤ 4000) : ¬ Int32.ofNat k = (0 : Int32) := fun q => by
  have e0 : (0 : Int32).toInt = 0 := by decide
  have := congrArg Int32.toInt q
  rw [own_ti (by omega), e0] at this; omega
end OwnU
def Q29 (Z : State) (p0 : Int32) (h0 : Heap) (n0 : Nat) (v : Option Value) (h : Heap) (L : List Loc) : Prop := v = some (.int p0) ∧ Fr n0 L ∧ h = h0
theorem ef_rm29 (m : MethodId) (x0 : Int32) (x1 : Int32) (x2 : Value) (c2 : x2.category = 1) : entryFrame m #[(.int x0), (.int x1), x2] 3 = mkF m 0 #[.val (.int x0), .val (.int x1), .val x2] [] := by first | (simp [entryFrame, mkF, argsToLocals, (show ((.int x0) : Value).category = 1 from rfl), (show ((.int x1) : Value).category = 1 from rfl), c2]; done) | rfl
theorem pn_jdk_internal_util_Preconditions : plainName "jdk/internal/util/Preconditions" = true := by first | (simp [plainName, overriddenIn]; done) | decide +kernel
theorem d29_0 : decode jdk_41_method_11_code 0 = .ok (.iload_n 0, 1) := by decide +kernel
theorem d29_1 : decode jdk_41_method_11_code 1 = .ok (.ifCond .lt 8, 3) := by decide +kernel
theorem d29_4 : decode jdk_41_method_11_code 4 = .ok (.iload_n 0, 1) := by decide +kernel
theorem d29_5 : decode jdk_41_method_11_code 5 = .ok (.iload_n 1, 1) := by decide +kernel
theorem d29_6 : decode jdk_41_method_11_code 6 = .ok (.if_icmp .lt 10, 3) := by decide +kernel
theorem d29_16 : decode jdk_41_method_11_code 16 = .ok (.iload_n 0, 1) := by decide +kernel
theorem d29_17 : decode jdk_41_method_11_code 17 = .ok (.ireturn, 1) := by decide +kernel
set_option maxRecDepth 65536 in
set_option maxHeartbeats 40000000 in
theorem rm29 (l : Launch) (Z : State) (a0 : Array Value) (hw : ∀ d ∈ tables_1, d.before a0 Z = true) (ws : List Jvm.Cond) (p0 p1 : Int32) (fm : Value) (h0 : Heap) (n0 : Nat) (Z0 : n0 ≤ h0.size) (k1 : ¬ p0 < (0 : Int32)) (k2 : p0 < p1) (c_fm : fm.category = 1) :
    MetFree l (⟨"jdk/internal/util/Preconditions", "checkIndex", "(IILjava/util/function/BiFunction;)I"⟩ : MethodName) (head1 (Jvm.Cond.code (⟨"jdk/internal/util/Preconditions", "checkIndex", "(IILjava/util/function/BiFunction;)I"⟩ : MethodName) jdk_41_method_11_code 3 (some .int) :: ws) ({ frames := 0, cells := 0, slots := 0, locals := 0 } : Room)) (fun aX UX => aX = #[(.int p0), (.int p1), fm] ∧ Z.Warmed39 UX.vm ∧ UX.heap = h0) (fun _ _ _ _ _ => True) (fun _ UX oX UX' => ∃ vX LX, oX = .returned vX ∧ Q29 Z p0 h0 n0 vX UX'.heap LX ∧ FrameEnd UX oX UX' LX ({ frames := 0, cells := 0, slots := 0, locals := 0 } : Room).cells ({ frames := 0, cells := 0, slots := 0, locals := 0 } : Room).slots) := by
  refine MetFree.of_bodySF (plainFor_of_name pn_jdk_internal_util_Preconditions) hisR ?_
  intro p e s m args below meth c s₁ Bd hml0 hP hK
  obtain ⟨rfl, hZ, hh⟩ := hP
  have hx := Bd.exec
  have hby := Bd.bytes
  have hml : c.maxLocals = 3 := hml0
  have hown : s.vm.findClass "jdk/internal/util/Preconditions" = some m.cls := findClass_of_methodNamed Bd.named
  have hnm := (name_of_methodNamed Bd.named Bd.method).1
  have X0 : Stand p l e ({ frames := 0, cells := 0, slots := 0, locals := 0 } : Room) s m #[(.int p0), (.int p1), fm] below meth c s₁ [] 0 0 := Stand.of_body Bd
  have e0 : s₁.heap = h0 := by rw [← hh, Bd.state]; rfl
  have N0 := Fr.nil n0
  show own_Comes p e below s ({ frames := 0, cells := 0, slots := 0, locals := 0 } : Room).cells ({ frames := 0, cells := 0, slots := 0, locals := 0 } : Room).slots (Q29 Z p0 h0 n0) _
  rw [show entryFrame m #[(.int p0), (.int p1), fm] 3 = mkF m 0 #[.val (.int p0), .val (.int p1), .val fm] [] from ef_rm29 m p0 p1 fm c_fm]
  show own_Comes p e below s _ _ _ (s₁.setTop (mkF m 0 #[.val (.int p0), .val (.int p1), .val fm] []))
  refine own_by (fun _ kS => XS.iloadN X0.here hx rfl (hb hby d29_0) rfl kS) ?_
  show own_Comes p e below s _ _ _ (s₁.setTop (mkF m 1 #[.val (.int p0), .val (.int p1), .val fm] [(.int p0)]))
  refine own_by (fun _ kS => XS.ifNo X0.here hx rfl (hb hby d29_1) rfl ((if0 _ _).trans (flt k1).1) kS) ?_
  show own_Comes p e below s _ _ _ (s₁.setTop (mkF m 4 #[.val (.int p0), .val (.int p1), .val fm] []))
  refine own_by (fun _ kS => XS.iloadN X0.here hx rfl (hb hby d29_4) rfl kS) ?_
  show own_Comes p e below s _ _ _ (s₁.setTop (mkF m 5 #[.val (.int p0), .val (.int p1), .val fm] [(.int p0)]))
  refine own_by (fun _ kS => XS.iloadN X0.here hx rfl (hb hby d29_5) rfl kS) ?_
  show own_Comes p e below s _ _ _ (s₁.setTop (mkF m 6 #[.val (.int p0), .val (.int p1), .val fm] [(.int p1), (.int p0)]))
  refine own_by (fun _ kS => XS.icmpYes X0.here hx rfl (pc0 := 6) (pc' := 16) rfl (hb hby d29_6) rfl (tlt k2).1 (by decide) (by decide) kS) ?_
  show own_Comes p e below s _ _ _ (s₁.setTop (mkF m 16 #[.val (.int p0), .val (.int p1), .val fm] []))
  refine own_by (fun _ kS => XS.iloadN X0.here hx rfl (hb hby d29_16) rfl kS) ?_
  show own_Comes p e below s _ _ _ (s₁.setTop (mkF m 17 #[.val (.int p0), .val (.int p1), .val fm] [(.int p0)]))
  refine own_ret X0 (v := some (.int p0)) (fun h => by rw [Bd.returns] at h; cases h) Bd.notSynchronized (by decide) (by decide) ?_ (fun fs hr => retI X0 hx Bd.returns (hb hby d29_17) hr)
  rw [e0]; exact ⟨rfl, N0, rfl⟩
def Q28 (Z : State)  (h0 : Heap) (n0 : Nat) (v : Option Value) (h : Heap) (L : List Loc) : Prop := v = none ∧ Fr n0 L ∧ h = h0
theorem ef_rm28 (m : MethodId) (x0 : Int32) (x1 : Int32) : entryFrame m #[(.int x0), (.int x1)] 2 = mkF m 0 #[.val (.int x0), .val (.int x1)] [] := by first | (simp [entryFrame, mkF, argsToLocals, Value.category]; done) | rfl
theorem pn_java_lang_String : plainName "java/lang/String" = true := by first | (simp [plainName, overriddenIn]; done) | decide +kernel
theorem d28_0 : decode jdk_42_method_155_code 0 = .ok (.iload_n 0, 1) := by decide +kernel
theorem d28_1 : decode jdk_42_method_155_code 1 = .ok (.iload_n 1, 1) := by decide +kernel
theorem d28_2 : decode jdk_42_method_155_code 2 = .ok (.getstatic 1053, 3) := by decide +kernel
theorem pd__IILjava_util_function_BiFunction__I_328 : parseMethodDescriptor "(IILjava/util/function/BiFunction;)I" = some ⟨[.int, .int, (.object "java/util/function/BiFunction")], some .int⟩ := by decide +kernel
theorem d28_5 : decode jdk_42_method_155_code 5 = .ok (.invokestatic 1059, 3) := by decide +kernel
theorem d28_8 : decode jdk_42_method_155_code 8 = .ok (.pop, 1) := by decide +kernel
theorem d28_9 : decode jdk_42_method_155_code 9 = .ok (.return_, 1) := by decide +kernel
set_option maxRecDepth 65536 in
set_option maxHeartbeats 40000000 in
theorem rm28 (l : Launch) (Z : State) (a0 : Array Value) (hw : ∀ d ∈ tables_1, d.before a0 Z = true) (ws : List Jvm.Cond) (p0 p1 : Int32) (fm : Value) (h0 : Heap) (n0 : Nat) (Z0 : n0 ≤ h0.size) (O0 : Old Z n0 h0) (Sf : Sta Z Z.heap "jdk/internal/util/Preconditions" "SIOOBE_FORMATTER" "Ljava/util/function/BiFunction;" fm) (i_fm : fm.isRef = true) (k1 : ¬ p0 < (0 : Int32)) (k2 : p0 < p1) :
    MetFree l (⟨"java/lang/String", "checkIndex", "(II)V"⟩ : MethodName) (head1 (Jvm.Cond.code (⟨"java/lang/String", "checkIndex", "(II)V"⟩ : MethodName) jdk_42_method_155_code 2 none :: ws) ({ frames := 1, cells := 0, slots := 0, locals := 14 } : Room)) (fun aX UX => aX = #[(.int p0), (.int p1)] ∧ Z.Warmed39 UX.vm ∧ UX.heap = h0) (fun _ _ _ _ _ => True) (fun _ UX oX UX' => ∃ vX LX, oX = .returned vX ∧ Q28 Z  h0 n0 vX UX'.heap LX ∧ FrameEnd UX oX UX' LX ({ frames := 1, cells := 0, slots := 0, locals := 14 } : Room).cells ({ frames := 1, cells := 0, slots := 0, locals := 14 } : Room).slots) := by
  refine MetFree.of_bodySF (plainFor_of_name pn_java_lang_String) hisR ?_
  intro p e s m args below meth c s₁ Bd hml0 hP hK
  obtain ⟨rfl, hZ, hh⟩ := hP
  have hx := Bd.exec
  have hby := Bd.bytes
  have hml : c.maxLocals = 2 := hml0
  have hown : s.vm.findClass "java/lang/String" = some m.cls := findClass_of_methodNamed Bd.named
  have hnm := (name_of_methodNamed Bd.named Bd.method).1
  have X0 : Stand p l e ({ frames := 1, cells := 0, slots := 0, locals := 14 } : Room) s m #[(.int p0), (.int p1)] below meth c s₁ [] 0 0 := Stand.of_body Bd
  have e0 : s₁.heap = h0 := by rw [← hh, Bd.state]; rfl
  have N0 := Fr.nil n0
  show own_Comes p e below s ({ frames := 1, cells := 0, slots := 0, locals := 14 } : Room).cells ({ frames := 1, cells := 0, slots := 0, locals := 14 } : Room).slots (Q28 Z  h0 n0) _
  rw [show entryFrame m #[(.int p0), (.int p1)] 2 = mkF m 0 #[.val (.int p0), .val (.int p1)] [] from ef_rm28 m p0 p1]
  show own_Comes p e below s _ _ _ (s₁.setTop (mkF m 0 #[.val (.int p0), .val (.int p1)] []))
  refine own_by (fun _ kS => XS.iloadN X0.here hx rfl (hb hby d28_0) rfl kS) ?_
  show own_Comes p e below s _ _ _ (s₁.setTop (mkF m 1 #[.val (.int p0), .val (.int p1)] [(.int p0)]))
  refine own_by (fun _ kS => XS.iloadN X0.here hx rfl (hb hby d28_1) rfl kS) ?_
  show own_Comes p e below s _ _ _ (s₁.setTop (mkF m 2 #[.val (.int p0), .val (.int p1)] [(.int p1), (.int p0)]))
  obtain ⟨T1, X1, e1, st1⟩ := getS2 X0 hx hZ hown (host := "") (Or.inl (hw _ (List.mem_of_getElem? (i := 112) rfl))) Via.refl e0 (Sf.ext O0.2) (g := (mkF m 2 #[.val (.int p0), .val (.int p1)] [(.int p1), (.int p0)])) rfl (hb hby d28_2)
  refine own_by st1 ?_
  show own_Comes p e below s _ _ _ (T1.setTop (mkF m 5 #[.val (.int p0), .val (.int p1)] [fm, (.int p1), (.int p0)]))
  obtain ⟨vv2, _, ⟨T2, L2, k2, n2⟩, -, X2, ⟨Lc2, hQ2, l2, y2, z2⟩, st2⟩ := Jvm.LawKit.callS X1 hx (y := (⟨"jdk/internal/util/Preconditions", "checkIndex", "(IILjava/util/function/BiFunction;)I"⟩ : MethodName)) hown (mvT hZ (hw _ (List.mem_of_getElem? (i := 114) rfl))) (mvT hZ (hw _ (List.mem_of_getElem? (i := 115) rfl))) (mvT hZ (hw _ (List.mem_of_getElem? (i := 113) rfl))) (mvT hZ (hw _ (List.mem_of_getElem? (i := 116) rfl))) (by decide) (backOf (W := 0) (rm29 l Z a0 hw [] p0 p1 fm h0 n0 Z0 k1 k2 (own_cat i_fm)) hZ (hw _ (List.mem_of_getElem? (i := 116) rfl)) (hw _ (List.mem_of_getElem? (i := 113) rfl)) (by decide) (by decide)) (g := (mkF m 5 #[.val (.int p0), .val (.int p1)] [fm, (.int p1), (.int p0)])) rfl (by rw [hml]; rfl) (argsL := [(.int p0), (.int p1), fm]) (rest := []) (lenOf pd__IILjava_util_function_BiFunction__I_328 rfl) rfl (by show 2 * 0 + _ ≤ _; exact Nat.le_of_eq rfl) (hb hby d28_5) (fun _ _ => ⟨rfl, e1, (by decide : 0 + 0 ≤ _), (by decide : 0 + 0 ≤ _)⟩)
  dsimp only [Pt.U, Pt.locs, Pt.cells, Pt.slots] at X2 l2 y2 z2 st2 hQ2
  subst l2 y2 z2
  obtain ⟨rfl, N2q, e2q⟩ := hQ2
  have N2 := Fr.app N0 N2q
  refine own_by st2 ?_
  have e2 : T2.heap = h0 := e2q
  show own_Comes p e below s _ _ _ (T2.setTop (mkF m 8 #[.val (.int p0), .val (.int p1)] [(.int p0)]))
  refine own_by (fun _ kS => XS.pop X2.here hx rfl (hb hby d28_8) rfl rfl kS) ?_
  show own_Comes p e below s _ _ _ (T2.setTop (mkF m 9 #[.val (.int p0), .val (.int p1)] []))
  refine own_ret X2 (v := none) (fun _ => rfl) Bd.notSynchronized (by decide) (by decide) ?_ (fun fs hr => X2.returnOut hx Bd.returns (hb hby d28_9) hr)
  rw [e2]; exact ⟨rfl, N2, rfl⟩
def Q27 (Z : State) (n : Nat) (h0 : Heap) (n0 : Nat) (v : Option Value) (h : Heap) (L : List Loc) : Prop := v = some (.int (Int32.ofNat n)) ∧ Fr n0 L ∧ h = h0
theorem ef_rm27 (m : MethodId) (x0 : Addr) : entryFrame m #[(.ref x0)] 1 = mkF m 0 #[.val (.ref x0)] [] := by first | (simp [entryFrame, mkF, argsToLocals, Value.category]; done) | rfl
theorem pn_java_lang_StringUTF16 : plainName "java/lang/StringUTF16" = true := by first | (simp [plainName, overriddenIn]; done) | decide +kernel
theorem d27_0 : decode jdk_52_method_6_code 0 = .ok (.aload_n 0, 1) := by decide +kernel
theorem d27_1 : decode jdk_52_method_6_code 1 = .ok (.arraylength, 1) := by decide +kernel
theorem d27_2 : decode jdk_52_method_6_code 2 = .ok (.iconst 1, 1) := by decide +kernel
theorem d27_3 : decode jdk_52_method_6_code 3 = .ok (.ishr, 1) := by decide +kernel
theorem d27_4 : decode jdk_52_method_6_code 4 = .ok (.ireturn, 1) := by decide +kernel
set_option maxRecDepth 65536 in
set_option maxHeartbeats 40000000 in
theorem rm27 (l : Launch) (Z : State) (a0 : Array Value) (hw : ∀ d ∈ tables_1, d.before a0 Z = true) (ws : List Jvm.Cond) (r0 : Addr) (kb : ClassId) (cs : List Int32) (h0 : Heap) (n0 : Nat) (Z0 : n0 ≤ h0.size) (Va : Arv Z h0 r0 kb .byte (Int32.ofNat (2 * cs.length)) (StrChars.Road.wideBytes cs) (.int 0)) (hl : cs.length ≤ 4000) :
    MetFree l (⟨"java/lang/StringUTF16", "length", "([B)I"⟩ : MethodName) (head1 (Jvm.Cond.code (⟨"java/lang/StringUTF16", "length", "([B)I"⟩ : MethodName) jdk_52_method_6_code 1 (some .int) :: ws) ({ frames := 0, cells := 0, slots := 0, locals := 0 } : Room)) (fun aX UX => aX = #[(.ref r0)] ∧ Z.Warmed39 UX.vm ∧ UX.heap = h0) (fun _ _ _ _ _ => True) (fun _ UX oX UX' => ∃ vX LX, oX = .returned vX ∧ Q27 Z cs.length h0 n0 vX UX'.heap LX ∧ FrameEnd UX oX UX' LX ({ frames := 0, cells := 0, slots := 0, locals := 0 } : Room).cells ({ frames := 0, cells := 0, slots := 0, locals := 0 } : Room).slots) := by
  refine MetFree.of_bodySF (plainFor_of_name pn_java_lang_StringUTF16) hisR ?_
  intro p e s m args below meth c s₁ Bd hml0 hP hK
  obtain ⟨rfl, hZ, hh⟩ := hP
  have hx := Bd.exec
  have hby := Bd.bytes
  have hml : c.maxLocals = 1 := hml0
  have hown : s.vm.findClass "java/lang/StringUTF16" = some m.cls := findClass_of_methodNamed Bd.named
  have hnm := (name_of_methodNamed Bd.named Bd.method).1
  have X0 : Stand p l e ({ frames := 0, cells := 0, slots := 0, locals := 0 } : Room) s m #[(.ref r0)] below meth c s₁ [] 0 0 := Stand.of_body Bd
  have e0 : s₁.heap = h0 := by rw [← hh, Bd.state]; rfl
  have N0 := Fr.nil n0
  show own_Comes p e below s ({ frames := 0, cells := 0, slots := 0, locals := 0 } : Room).cells ({ frames := 0, cells := 0, slots := 0, locals := 0 } : Room).slots (Q27 Z cs.length h0 n0) _
  rw [show entryFrame m #[(.ref r0)] 1 = mkF m 0 #[.val (.ref r0)] [] from ef_rm27 m r0]
  show own_Comes p e below s _ _ _ (s₁.setTop (mkF m 0 #[.val (.ref r0)] []))
  refine own_by (fun _ kS => XS.aloadN X0.here hx rfl (hb hby d27_0) rfl rfl kS) ?_
  show own_Comes p e below s _ _ _ (s₁.setTop (mkF m 1 #[.val (.ref r0)] [(.ref r0)]))
  have Vo3 := Va
  obtain ⟨cl3, Ar3, qA3, SA3, NA3, HA3, GA3⟩ := Vo3
  refine own_by (fun _ kS => X0.arraylength hx (by rw [e0]; exact Ar3.1) (State.isArrayOf_alike hZ.alike Ar3.2.1) (g := (mkF m 1 #[.val (.ref r0)] [(.ref r0)])) rfl rfl (hb hby d27_1) _ kS) ?_
  rw [len_of SA3 NA3]
  show own_Comes p e below s _ _ _ (s₁.setTop (mkF m 2 #[.val (.ref r0)] [(.int (Int32.ofNat (2 * cs.length)))]))
  refine own_by (fun _ kS => XS.iconst X0.here hx rfl (hb hby d27_2) kS) ?_
  show own_Comes p e below s _ _ _ (s₁.setTop (mkF m 3 #[.val (.ref r0)] [(.int (1 : Int32)), (.int (Int32.ofNat (2 * cs.length)))]))
  refine own_by (fun _ kS => XS.ishr X0.here hx rfl (hb hby d27_3) rfl kS) ?_
  show own_Comes p e below s _ _ _ (s₁.setTop (mkF m 4 #[.val (.ref r0)] [(.int ((Int32.ofNat (2 * cs.length)) >>> ((1 : Int32) &&& 31)))]))
  rw [show ((Int32.ofNat (2 * cs.length)) >>> ((1 : Int32) &&& 31)) = (Int32.ofNat cs.length) from own_shr1 hl]
  show own_Comes p e below s _ _ _ (s₁.setTop (mkF m 4 #[.val (.ref r0)] [(.int (Int32.ofNat cs.length))]))
  refine own_ret X0 (v := some (.int (Int32.ofNat cs.length))) (fun h => by rw [Bd.returns] at h; cases h) Bd.notSynchronized (by decide) (by decide) ?_ (fun fs hr => retI X0 hx Bd.returns (hb hby d27_4) hr)
  rw [e0]; exact ⟨rfl, N0, rfl⟩
def Q26 (Z : State)  (h0 : Heap) (n0 : Nat) (v : Option Value) (h : Heap) (L : List Loc) : Prop := v = none ∧ Fr n0 L ∧ h = h0
theorem ef_rm26 (m : MethodId) (x0 : Int32) (x1 : Addr) : entryFrame m #[(.int x0), (.ref x1)] 2 = mkF m 0 #[.val (.int x0), .val (.ref x1)] [] := by first | (simp [entryFrame, mkF, argsToLocals, Value.category]; done) | rfl
theorem d26_0 : decode jdk_52_method_91_code 0 = .ok (.iload_n 0, 1) := by decide +kernel
theorem d26_1 : decode jdk_52_method_91_code 1 = .ok (.aload_n 1, 1) := by decide +kernel
theorem pd___B_I_311 : parseMethodDescriptor "([B)I" = some ⟨[(.array .byte)], some .int⟩ := by decide +kernel
theorem d26_2 : decode jdk_52_method_91_code 2 = .ok (.invokestatic 48, 3) := by decide +kernel
theorem pd__II_V_313 : parseMethodDescriptor "(II)V" = some ⟨[.int, .int], none⟩ := by decide +kernel
theorem d26_5 : decode jdk_52_method_91_code 5 = .ok (.invokestatic 414, 3) := by decide +kernel
theorem d26_8 : decode jdk_52_method_91_code 8 = .ok (.return_, 1) := by decide +kernel
set_option maxRecDepth 65536 in
set_option maxHeartbeats 40000000 in
theorem rm26 (l : Launch) (Z : State) (a0 : Array Value) (hw : ∀ d ∈ tables_1, d.before a0 Z = true) (ws : List Jvm.Cond) (i : Nat) (r1 : Addr) (kb : ClassId) (cs : List Int32) (fm : Value) (h0 : Heap) (n0 : Nat) (Z0 : n0 ≤ h0.size) (O0 : Old Z n0 h0) (Sf : Sta Z Z.heap "jdk/internal/util/Preconditions" "SIOOBE_FORMATTER" "Ljava/util/function/BiFunction;" fm) (i_fm : fm.isRef = true) (Va : Arv Z h0 r1 kb .byte (Int32.ofNat (2 * cs.length)) (StrChars.Road.wideBytes cs) (.int 0)) (hl : cs.length ≤ 4000) (hi : i < cs.length) :
    MetFree l (⟨"java/lang/StringUTF16", "checkIndex", "(I[B)V"⟩ : MethodName) (head1 (Jvm.Cond.code (⟨"java/lang/StringUTF16", "checkIndex", "(I[B)V"⟩ : MethodName) jdk_52_method_91_code 2 none :: ws) ({ frames := 2, cells := 0, slots := 0, locals := 27 } : Room)) (fun aX UX => aX = #[(.int (Int32.ofNat i)), (.ref r1)] ∧ Z.Warmed39 UX.vm ∧ UX.heap = h0) (fun _ _ _ _ _ => True) (fun _ UX oX UX' => ∃ vX LX, oX = .returned vX ∧ Q26 Z  h0 n0 vX UX'.heap LX ∧ FrameEnd UX oX UX' LX ({ frames := 2, cells := 0, slots := 0, locals := 27 } : Room).cells ({ frames := 2, cells := 0, slots := 0, locals := 27 } : Room).slots) := by
  refine MetFree.of_bodySF (plainFor_of_name pn_java_lang_StringUTF16) hisR ?_
  intro p e s m args below meth c s₁ Bd hml0 hP hK
  obtain ⟨rfl, hZ, hh⟩ := hP
  have hx := Bd.exec
  have hby := Bd.bytes
  have hml : c.maxLocals = 2 := hml0
  have hown : s.vm.findClass "java/lang/StringUTF16" = some m.cls := findClass_of_methodNamed Bd.named
  have hnm := (name_of_methodNamed Bd.named Bd.method).1
  have X0 : Stand p l e ({ frames := 2, cells := 0, slots := 0, locals := 27 } : Room) s m #[(.int (Int32.ofNat i)), (.ref r1)] below meth c s₁ [] 0 0 := Stand.of_body Bd
  have e0 : s₁.heap = h0 := by rw [← hh, Bd.state]; rfl
  have N0 := Fr.nil n0
  show own_Comes p e below s ({ frames := 2, cells := 0, slots := 0, locals := 27 } : Room).cells ({ frames := 2, cells := 0, slots := 0, locals := 27 } : Room).slots (Q26 Z  h0 n0) _
  rw [show entryFrame m #[(.int (Int32.ofNat i)), (.ref r1)] 2 = mkF m 0 #[.val (.int (Int32.ofNat i)), .val (.ref r1)] [] from ef_rm26 m (Int32.ofNat i) r1]
  show own_Comes p e below s _ _ _ (s₁.setTop (mkF m 0 #[.val (.int (Int32.ofNat i)), .val (.ref r1)] []))
  refine own_by (fun _ kS => XS.iloadN X0.here hx rfl (hb hby d26_0) rfl kS) ?_
  show own_Comes p e below s _ _ _ (s₁.setTop (mkF m 1 #[.val (.int (Int32.ofNat i)), .val (.ref r1)] [(.int (Int32.ofNat i))]))
  refine own_by (fun _ kS => XS.aloadN X0.here hx rfl (hb hby d26_1) rfl rfl kS) ?_
  show own_Comes p e below s _ _ _ (s₁.setTop (mkF m 2 #[.val (.int (Int32.ofNat i)), .val (.ref r1)] [(.ref r1), (.int (Int32.ofNat i))]))
  obtain ⟨vv4, _, ⟨T4, L4, k4, n4⟩, -, X4, ⟨Lc4, hQ4, l4, y4, z4⟩, st4⟩ := Jvm.LawKit.callS X0 hx (y := (⟨"java/lang/StringUTF16", "length", "([B)I"⟩ : MethodName)) hown (mvT hZ (hw _ (List.mem_of_getElem? (i := 106) rfl))) (mvT hZ (hw _ (List.mem_of_getElem? (i := 107) rfl))) (mvT hZ (hw _ (List.mem_of_getElem? (i := 25) rfl))) (mvT hZ (hw _ (List.mem_of_getElem? (i := 108) rfl))) (by decide) (backOf (W := 1) (rm27 l Z a0 hw [] r1 kb cs h0 n0 Z0 Va hl) hZ (hw _ (List.mem_of_getElem? (i := 108) rfl)) (hw _ (List.mem_of_getElem? (i := 25) rfl)) (by decide) (by decide)) (g := (mkF m 2 #[.val (.int (Int32.ofNat i)), .val (.ref r1)] [(.ref r1), (.int (Int32.ofNat i))])) rfl (by rw [hml]; rfl) (argsL := [(.ref r1)]) (rest := [(.int (Int32.ofNat i))]) (lenOf pd___B_I_311 rfl) rfl (by show 2 * 0 + _ ≤ _; exact Nat.le_of_eq rfl) (hb hby d26_2) (fun _ _ => ⟨rfl, e0, (by decide : 0 + 0 ≤ _), (by decide : 0 + 0 ≤ _)⟩)
  dsimp only [Pt.U, Pt.locs, Pt.cells, Pt.slots] at X4 l4 y4 z4 st4 hQ4
  subst l4 y4 z4
  obtain ⟨rfl, N4q, e4q⟩ := hQ4
  have N4 := Fr.app N0 N4q
  refine own_by st4 ?_
  have e4 : T4.heap = h0 := e4q
  show own_Comes p e below s _ _ _ (T4.setTop (mkF m 5 #[.val (.int (Int32.ofNat i)), .val (.ref r1)] [(.int (Int32.ofNat cs.length)), (.int (Int32.ofNat i))]))
  obtain ⟨vv5, _, ⟨T5, L5, k5, n5⟩, -, X5, ⟨Lc5, hQ5, l5, y5, z5⟩, st5⟩ := Jvm.LawKit.callS X4 hx (y := (⟨"java/lang/String", "checkIndex", "(II)V"⟩ : MethodName)) hown (mvT hZ (hw _ (List.mem_of_getElem? (i := 109) rfl))) (mvT hZ (hw _ (List.mem_of_getElem? (i := 110) rfl))) (mvT hZ (hw _ (List.mem_of_getElem? (i := 10) rfl))) (mvT hZ (hw _ (List.mem_of_getElem? (i := 111) rfl))) (by decide) (backOf (W := 0) (rm28 l Z a0 hw [] (Int32.ofNat i) (Int32.ofNat cs.length) fm h0 n0 Z0 O0 Sf i_fm (own_neg (by omega)) ((own_lt (by omega) (by omega)).mpr hi)) hZ (hw _ (List.mem_of_getElem? (i := 111) rfl)) (hw _ (List.mem_of_getElem? (i := 10) rfl)) (by decide) (by decide)) (g := (mkF m 5 #[.val (.int (Int32.ofNat i)), .val (.ref r1)] [(.int (Int32.ofNat cs.length)), (.int (Int32.ofNat i))])) rfl (by rw [hml]; rfl) (argsL := [(.int (Int32.ofNat i)), (.int (Int32.ofNat cs.length))]) (rest := []) (lenOf pd__II_V_313 rfl) rfl (by show 2 * 0 + _ ≤ _; exact Nat.le_of_eq rfl) (hb hby d26_5) (fun _ _ => ⟨rfl, e4, (by decide : 0 + 0 ≤ _), (by decide : 0 + 0 ≤ _)⟩)
  dsimp only [Pt.U, Pt.locs, Pt.cells, Pt.slots] at X5 l5 y5 z5 st5 hQ5
  subst l5 y5 z5
  obtain ⟨rfl, N5q, e5q⟩ := hQ5
  have N5 := Fr.app N4 N5q
  refine own_by st5 ?_
  have e5 : T5.heap = h0 := e5q
  show own_Comes p e below s _ _ _ (T5.setTop (mkF m 8 #[.val (.int (Int32.ofNat i)), .val (.ref r1)] []))
  refine own_ret X5 (v := none) (fun _ => rfl) Bd.notSynchronized (by decide) (by decide) ?_ (fun fs hr => X5.returnOut hx Bd.returns (hb hby d26_8) hr)
  rw [e5]; exact ⟨rfl, N5, rfl⟩
def Q16 (Z : State) (c : Int32) (h0 : Heap) (n0 : Nat) (v : Option Value) (h : Heap) (L : List Loc) : Prop := v = some (.int c) ∧ Fr n0 L ∧ h = h0
theorem ef_rm16 (m : MethodId) (x0 : Addr) (x1 : Int32) : entryFrame m #[(.ref x0), (.int x1)] 2 = mkF m 0 #[.val (.ref x0), .val (.int x1)] [] := by first | (simp [entryFrame, mkF, argsToLocals, Value.category]; done) | rfl
theorem d16_0 : decode jdk_52_method_5_code 0 = .ok (.getstatic 44, 3) := by decide +kernel
theorem d16_3 : decode jdk_52_method_5_code 3 = .ok (.ifCond .ne 25, 3) := by decide +kernel
theorem d16_28 : decode jdk_52_method_5_code 28 = .ok (.iload_n 1, 1) := by decide +kernel
theorem d16_29 : decode jdk_52_method_5_code 29 = .ok (.iconst 1, 1) := by decide +kernel
theorem d16_30 : decode jdk_52_method_5_code 30 = .ok (.ishl, 1) := by decide +kernel
theorem d16_31 : decode jdk_52_method_5_code 31 = .ok (.istore_n 1, 1) := by decide +kernel
theorem d16_32 : decode jdk_52_method_5_code 32 = .ok (.aload_n 0, 1) := by decide +kernel
theorem d16_33 : decode jdk_52_method_5_code 33 = .ok (.iload_n 1, 1) := by decide +kernel
theorem d16_34 : decode jdk_52_method_5_code 34 = .ok (.iinc 1 1, 3) := by decide +kernel
theorem d16_37 : decode jdk_52_method_5_code 37 = .ok (.baload, 1) := by decide +kernel
theorem d16_38 : decode jdk_52_method_5_code 38 = .ok (.sipush 255, 3) := by decide +kernel
theorem d16_41 : decode jdk_52_method_5_code 41 = .ok (.iand, 1) := by decide +kernel
theorem d16_42 : decode jdk_52_method_5_code 42 = .ok (.getstatic 59, 3) := by decide +kernel
theorem d16_45 : decode jdk_52_method_5_code 45 = .ok (.ishl, 1) := by decide +kernel
theorem d16_46 : decode jdk_52_method_5_code 46 = .ok (.aload_n 0, 1) := by decide +kernel
theorem d16_47 : decode jdk_52_method_5_code 47 = .ok (.iload_n 1, 1) := by decide +kernel
theorem d16_48 : decode jdk_52_method_5_code 48 = .ok (.baload, 1) := by decide +kernel
theorem d16_49 : decode jdk_52_method_5_code 49 = .ok (.sipush 255, 3) := by decide +kernel
theorem d16_52 : decode jdk_52_method_5_code 52 = .ok (.iand, 1) := by decide +kernel
theorem d16_53 : decode jdk_52_method_5_code 53 = .ok (.getstatic 63, 3) := by decide +kernel
theorem d16_56 : decode jdk_52_method_5_code 56 = .ok (.ishl, 1) := by decide +kernel
theorem d16_57 : decode jdk_52_method_5_code 57 = .ok (.ior, 1) := by decide +kernel
theorem d16_58 : decode jdk_52_method_5_code 58 = .ok (.i2c, 1) := by decide +kernel
theorem d16_59 : decode jdk_52_method_5_code 59 = .ok (.ireturn, 1) := by decide +kernel
set_option maxRecDepth 65536 in
set_option maxHeartbeats 40000000 in
theorem rm16 (l : Launch) (Z : State) (a0 : Array Value) (hw : ∀ d ∈ tables_1, d.before a0 Z = true) (ws : List Jvm.Cond) (r0 : Addr) (i : Nat) (kb : ClassId) (cs : List Int32) (h0 : Heap) (n0 : Nat) (Z0 : n0 ≤ h0.size) (O0 : Old Z n0 h0) (Sd : Sta Z Z.heap "java/lang/StringUTF16" "$assertionsDisabled" "Z" (.int (1 : Int32))) (Sh : Sta Z Z.heap "java/lang/StringUTF16" "HI_BYTE_SHIFT" "I" (.int (0 : Int32))) (Sl : Sta Z Z.heap "java/lang/StringUTF16" "LO_BYTE_SHIFT" "I" (.int (8 : Int32))) (Va : Arv Z h0 r0 kb .byte (Int32.ofNat (2 * cs.length)) (StrChars.Road.wideBytes cs) (.int 0)) (hl : cs.length ≤ 4000) (hi : i < cs.length) (hB : ∀ c ∈ cs, ¬ c < 0 ∧ ¬ (65535 : Int32) < c) :
    MetFree l (⟨"java/lang/StringUTF16", "getChar", "([BI)C"⟩ : MethodName) (head1 (Jvm.Cond.code (⟨"java/lang/StringUTF16", "getChar", "([BI)C"⟩ : MethodName) jdk_52_method_5_code 2 (some .char) :: ws) ({ frames := 0, cells := 0, slots := 0, locals := 0 } : Room)) (fun aX UX => aX = #[(.ref r0), (.int (Int32.ofNat i))] ∧ Z.Warmed39 UX.vm ∧ UX.heap = h0) (fun _ _ _ _ _ => True) (fun _ UX oX UX' => ∃ vX LX, oX = .returned vX ∧ Q16 Z (cs.getD i 0) h0 n0 vX UX'.heap LX ∧ FrameEnd UX oX UX' LX ({ frames := 0, cells := 0, slots := 0, locals := 0 } : Room).cells ({ frames := 0, cells := 0, slots := 0, locals := 0 } : Room).slots) := by
  refine MetFree.of_bodySF (plainFor_of_name pn_java_lang_StringUTF16) hisR ?_
  intro p e s m args below meth c s₁ Bd hml0 hP hK
  obtain ⟨rfl, hZ, hh⟩ := hP
  have hx := Bd.exec
  have hby := Bd.bytes
  have hml : c.maxLocals = 2 := hml0
  have hown : s.vm.findClass "java/lang/StringUTF16" = some m.cls := findClass_of_methodNamed Bd.named
  have hnm := (name_of_methodNamed Bd.named Bd.method).1
  have X0 : Stand p l e ({ frames := 0, cells := 0, slots := 0, locals := 0 } : Room) s m #[(.ref r0), (.int (Int32.ofNat i))] below meth c s₁ [] 0 0 := Stand.of_body Bd
  have e0 : s₁.heap = h0 := by rw [← hh, Bd.state]; rfl
  have N0 := Fr.nil n0
  show own_Comes p e below s ({ frames := 0, cells := 0, slots := 0, locals := 0 } : Room).cells ({ frames := 0, cells := 0, slots := 0, locals := 0 } : Room).slots (Q16 Z (cs.getD i 0) h0 n0) _
  rw [show entryFrame m #[(.ref r0), (.int (Int32.ofNat i))] 2 = mkF m 0 #[.val (.ref r0), .val (.int (Int32.ofNat i))] [] from ef_rm16 m r0 (Int32.ofNat i)]
  show own_Comes p e below s _ _ _ (s₁.setTop (mkF m 0 #[.val (.ref r0), .val (.int (Int32.ofNat i))] []))
  obtain ⟨T6, X6, e6, st6⟩ := getS2 X0 hx hZ hown (host := "") (Or.inl (hw _ (List.mem_of_getElem? (i := 64) rfl))) Via.refl e0 (Sd.ext O0.2) (g := (mkF m 0 #[.val (.ref r0), .val (.int (Int32.ofNat i))] [])) rfl (hb hby d16_0)
  refine own_by st6 ?_
  show own_Comes p e below s _ _ _ (T6.setTop (mkF m 3 #[.val (.ref r0), .val (.int (Int32.ofNat i))] [(.int (1 : Int32))]))
  have hb7 : ¬ ((1 : Int32) = (0 : Int32)) := by decide
  refine own_by (fun _ kS => XS.ifYes X6.here hx rfl (pc0 := 3) (pc' := 28) rfl (hb hby d16_3) rfl ((if0 _ _).trans (feq hb7).2) (by decide) (by decide) kS) ?_
  show own_Comes p e below s _ _ _ (T6.setTop (mkF m 28 #[.val (.ref r0), .val (.int (Int32.ofNat i))] []))
  refine own_by (fun _ kS => XS.iloadN X6.here hx rfl (hb hby d16_28) rfl kS) ?_
  show own_Comes p e below s _ _ _ (T6.setTop (mkF m 29 #[.val (.ref r0), .val (.int (Int32.ofNat i))] [(.int (Int32.ofNat i))]))
  refine own_by (fun _ kS => XS.iconst X6.here hx rfl (hb hby d16_29) kS) ?_
  show own_Comes p e below s _ _ _ (T6.setTop (mkF m 30 #[.val (.ref r0), .val (.int (Int32.ofNat i))] [(.int (1 : Int32)), (.int (Int32.ofNat i))]))
  refine own_by (fun _ kS => XS.ishl X6.here hx rfl (hb hby d16_30) rfl kS) ?_
  show own_Comes p e below s _ _ _ (T6.setTop (mkF m 31 #[.val (.ref r0), .val (.int (Int32.ofNat i))] [(.int ((Int32.ofNat i) <<< ((1 : Int32) &&& 31)))]))
  rw [show ((Int32.ofNat i) <<< ((1 : Int32) &&& 31)) = (Int32.ofNat (2 * i)) from own_shl (by omega)]
  show own_Comes p e below s _ _ _ (T6.setTop (mkF m 31 #[.val (.ref r0), .val (.int (Int32.ofNat i))] [(.int (Int32.ofNat (2 * i)))]))
  refine own_by (fun _ kS => XS.istoreN X6.here hx rfl (hb hby d16_31) rfl (l' := #[.val (.ref r0), .val (.int (Int32.ofNat (2 * i)))]) rfl kS) ?_
  show own_Comes p e below s _ _ _ (T6.setTop (mkF m 32 #[.val (.ref r0), .val (.int (Int32.ofNat (2 * i)))] []))
  refine own_by (fun _ kS => XS.aloadN X6.here hx rfl (hb hby d16_32) rfl rfl kS) ?_
  show own_Comes p e below s _ _ _ (T6.setTop (mkF m 33 #[.val (.ref r0), .val (.int (Int32.ofNat (2 * i)))] [(.ref r0)]))
  refine own_by (fun _ kS => XS.iloadN X6.here hx rfl (hb hby d16_33) rfl kS) ?_
  show own_Comes p e below s _ _ _ (T6.setTop (mkF m 34 #[.val (.ref r0), .val (.int (Int32.ofNat (2 * i)))] [(.int (Int32.ofNat (2 * i))), (.ref r0)]))
  refine own_by (fun _ kS => XS.iinc X6.here hx rfl (hb hby d16_34) rfl (l' := #[.val (.ref r0), .val (.int ((Int32.ofNat (2 * i)) + (1 : Int32)))]) rfl kS) ?_
  show own_Comes p e below s _ _ _ (T6.setTop (mkF m 37 #[.val (.ref r0), .val (.int ((Int32.ofNat (2 * i)) + (1 : Int32)))] [(.int (Int32.ofNat (2 * i))), (.ref r0)]))
  rw [show ((Int32.ofNat (2 * i)) + (1 : Int32)) = (Int32.ofNat (2 * i + 1)) from own_succ (by omega)]
  show own_Comes p e below s _ _ _ (T6.setTop (mkF m 37 #[.val (.ref r0), .val (.int (Int32.ofNat (2 * i + 1)))] [(.int (Int32.ofNat (2 * i))), (.ref r0)]))
  have Vo8 := Va
  obtain ⟨cl8, Ar8, qA8, SA8, NA8, HA8, GA8⟩ := Vo8
  have hin8 : ¬ ((Int32.ofNat (2 * i)) < 0 ∨ cl8.slots.size ≤ ((Int32.ofNat (2 * i))).toNatClampNeg) := own_inb SA8 (by omega) (by omega)
  have hat8 : cl8.slots[((Int32.ofNat (2 * i))).toNatClampNeg]? = some (.int (StrChars.lo8 (cs.getD i 0))) := HA8.at hin8 (by rw [own_tn (by omega)]; exact StrChars.Road.wide_lo _ cs i hi)
  refine own_by (fun _ kS => X6.baloadBytes hx (j := (Int32.ofNat (2 * i))) (v := (.int (StrChars.lo8 (cs.getD i 0)))) (by rw [e6]; exact Ar8.1) (State.isArrayOf_alike hZ.alike Ar8.2.1) Ar8.2.2 hin8 hat8 (g := (mkF m 37 #[.val (.ref r0), .val (.int (Int32.ofNat (2 * i + 1)))] [(.int (Int32.ofNat (2 * i))), (.ref r0)])) rfl rfl (hb hby d16_37) _ kS) ?_
  show own_Comes p e below s _ _ _ (T6.setTop (mkF m 38 #[.val (.ref r0), .val (.int (Int32.ofNat (2 * i + 1)))] [(.int (StrChars.lo8 (cs.getD i 0)))]))
  refine own_by (fun _ kS => XS.sipush X6.here hx rfl (hb hby d16_38) kS) ?_
  show own_Comes p e below s _ _ _ (T6.setTop (mkF m 41 #[.val (.ref r0), .val (.int (Int32.ofNat (2 * i + 1)))] [(.int (255 : Int32)), (.int (StrChars.lo8 (cs.getD i 0)))]))
  refine own_by (fun _ kS => XS.iand X6.here hx rfl (hb hby d16_41) rfl kS) ?_
  show own_Comes p e below s _ _ _ (T6.setTop (mkF m 42 #[.val (.ref r0), .val (.int (Int32.ofNat (2 * i + 1)))] [(.int ((StrChars.lo8 (cs.getD i 0)) &&& (255 : Int32)))]))
  obtain ⟨T9, X9, e9, st9⟩ := getS2 X6 hx hZ hown (host := "") (Or.inl (hw _ (List.mem_of_getElem? (i := 65) rfl))) Via.refl e6 (Sh.ext O0.2) (g := (mkF m 42 #[.val (.ref r0), .val (.int (Int32.ofNat (2 * i + 1)))] [(.int ((StrChars.lo8 (cs.getD i 0)) &&& (255 : Int32)))])) rfl (hb hby d16_42)
  refine own_by st9 ?_
  show own_Comes p e below s _ _ _ (T9.setTop (mkF m 45 #[.val (.ref r0), .val (.int (Int32.ofNat (2 * i + 1)))] [(.int (0 : Int32)), (.int ((StrChars.lo8 (cs.getD i 0)) &&& (255 : Int32)))]))
  refine own_by (fun _ kS => XS.ishl X9.here hx rfl (hb hby d16_45) rfl kS) ?_
  show own_Comes p e below s _ _ _ (T9.setTop (mkF m 46 #[.val (.ref r0), .val (.int (Int32.ofNat (2 * i + 1)))] [(.int (((StrChars.lo8 (cs.getD i 0)) &&& (255 : Int32)) <<< ((0 : Int32) &&& 31)))]))
  refine own_by (fun _ kS => XS.aloadN X9.here hx rfl (hb hby d16_46) rfl rfl kS) ?_
  show own_Comes p e below s _ _ _ (T9.setTop (mkF m 47 #[.val (.ref r0), .val (.int (Int32.ofNat (2 * i + 1)))] [(.ref r0), (.int (((StrChars.lo8 (cs.getD i 0)) &&& (255 : Int32)) <<< ((0 : Int32) &&& 31)))]))
  refine own_by (fun _ kS => XS.iloadN X9.here hx rfl (hb hby d16_47) rfl kS) ?_
  show own_Comes p e below s _ _ _ (T9.setTop (mkF m 48 #[.val (.ref r0), .val (.int (Int32.ofNat (2 * i + 1)))] [(.int (Int32.ofNat (2 * i + 1))), (.ref r0), (.int (((StrChars.lo8 (cs.getD i 0)) &&& (255 : Int32)) <<< ((0 : Int32) &&& 31)))]))
  have Vo10 := Va
  obtain ⟨cl10, Ar10, qA10, SA10, NA10, HA10, GA10⟩ := Vo10
  have hin10 : ¬ ((Int32.ofNat (2 * i + 1)) < 0 ∨ cl10.slots.size ≤ ((Int32.ofNat (2 * i + 1))).toNatClampNeg) := own_inb SA10 (by omega) (by omega)
  have hat10 : cl10.slots[((Int32.ofNat (2 * i + 1))).toNatClampNeg]? = some (.int (StrChars.hi8 (cs.getD i 0))) := HA10.at hin10 (by rw [own_tn (by omega)]; exact StrChars.Road.wide_hi _ cs i hi)
  refine own_by (fun _ kS => X9.baloadBytes hx (j := (Int32.ofNat (2 * i + 1))) (v := (.int (StrChars.hi8 (cs.getD i 0)))) (by rw [e9]; exact Ar10.1) (State.isArrayOf_alike hZ.alike Ar10.2.1) Ar10.2.2 hin10 hat10 (g := (mkF m 48 #[.val (.ref r0), .val (.int (Int32.ofNat (2 * i + 1)))] [(.int (Int32.ofNat (2 * i + 1))), (.ref r0), (.int (((StrChars.lo8 (cs.getD i 0)) &&& (255 : Int32)) <<< ((0 : Int32) &&& 31)))])) rfl rfl (hb hby d16_48) _ kS) ?_
  show own_Comes p e below s _ _ _ (T9.setTop (mkF m 49 #[.val (.ref r0), .val (.int (Int32.ofNat (2 * i + 1)))] [(.int (StrChars.hi8 (cs.getD i 0))), (.int (((StrChars.lo8 (cs.getD i 0)) &&& (255 : Int32)) <<< ((0 : Int32) &&& 31)))]))
  refine own_by (fun _ kS => XS.sipush X9.here hx rfl (hb hby d16_49) kS) ?_
  show own_Comes p e below s _ _ _ (T9.setTop (mkF m 52 #[.val (.ref r0), .val (.int (Int32.ofNat (2 * i + 1)))] [(.int (255 : Int32)), (.int (StrChars.hi8 (cs.getD i 0))), (.int (((StrChars.lo8 (cs.getD i 0)) &&& (255 : Int32)) <<< ((0 : Int32) &&& 31)))]))
  refine own_by (fun _ kS => XS.iand X9.here hx rfl (hb hby d16_52) rfl kS) ?_
  show own_Comes p e below s _ _ _ (T9.setTop (mkF m 53 #[.val (.ref r0), .val (.int (Int32.ofNat (2 * i + 1)))] [(.int ((StrChars.hi8 (cs.getD i 0)) &&& (255 : Int32))), (.int (((StrChars.lo8 (cs.getD i 0)) &&& (255 : Int32)) <<< ((0 : Int32) &&& 31)))]))
  obtain ⟨T11, X11, e11, st11⟩ := getS2 X9 hx hZ hown (host := "") (Or.inl (hw _ (List.mem_of_getElem? (i := 66) rfl))) Via.refl e9 (Sl.ext O0.2) (g := (mkF m 53 #[.val (.ref r0), .val (.int (Int32.ofNat (2 * i + 1)))] [(.int ((StrChars.hi8 (cs.getD i 0)) &&& (255 : Int32))), (.int (((StrChars.lo8 (cs.getD i 0)) &&& (255 : Int32)) <<< ((0 : Int32) &&& 31)))])) rfl (hb hby d16_53)
  refine own_by st11 ?_
  show own_Comes p e below s _ _ _ (T11.setTop (mkF m 56 #[.val (.ref r0), .val (.int (Int32.ofNat (2 * i + 1)))] [(.int (8 : Int32)), (.int ((StrChars.hi8 (cs.getD i 0)) &&& (255 : Int32))), (.int (((StrChars.lo8 (cs.getD i 0)) &&& (255 : Int32)) <<< ((0 : Int32) &&& 31)))]))
  refine own_by (fun _ kS => XS.ishl X11.here hx rfl (hb hby d16_56) rfl kS) ?_
  show own_Comes p e below s _ _ _ (T11.setTop (mkF m 57 #[.val (.ref r0), .val (.int (Int32.ofNat (2 * i + 1)))] [(.int (((StrChars.hi8 (cs.getD i 0)) &&& (255 : Int32)) <<< ((8 : Int32) &&& 31))), (.int (((StrChars.lo8 (cs.getD i 0)) &&& (255 : Int32)) <<< ((0 : Int32) &&& 31)))]))
  refine own_by (fun _ kS => XS.ior X11.here hx rfl (hb hby d16_57) rfl kS) ?_
  show own_Comes p e below s _ _ _ (T11.setTop (mkF m 58 #[.val (.ref r0), .val (.int (Int32.ofNat (2 * i + 1)))] [(.int ((((StrChars.lo8 (cs.getD i 0)) &&& (255 : Int32)) <<< ((0 : Int32) &&& 31)) ||| (((StrChars.hi8 (cs.getD i 0)) &&& (255 : Int32)) <<< ((8 : Int32) &&& 31))))]))
  refine own_by (fun _ kS => XS.i2c X11.here hx rfl (hb hby d16_58) rfl kS) ?_
  show own_Comes p e below s _ _ _ (T11.setTop (mkF m 59 #[.val (.ref r0), .val (.int (Int32.ofNat (2 * i + 1)))] [(.int (((((StrChars.lo8 (cs.getD i 0)) &&& (255 : Int32)) <<< ((0 : Int32) &&& 31)) ||| (((StrChars.hi8 (cs.getD i 0)) &&& (255 : Int32)) <<< ((8 : Int32) &&& 31))).toUInt32.toUInt16.toUInt32.toInt32))]))
  refine own_ret X11 (v := some (.int (nar .char (((((StrChars.lo8 (cs.getD i 0)) &&& (255 : Int32)) <<< ((0 : Int32) &&& 31)) ||| (((StrChars.hi8 (cs.getD i 0)) &&& (255 : Int32)) <<< ((8 : Int32) &&& 31))).toUInt32.toUInt16.toUInt32.toInt32)))) (fun h => by rw [Bd.returns] at h; cases h) Bd.notSynchronized (by decide) (by decide) ?_ (fun fs hr => retN X11 hx (t := .char) Bd.returns (by simp) (hb hby d16_59) hr)
  rw [e11]; exact ⟨congrArg (fun z => some (Value.int z)) (own_gc (hB _ (own_mem hi))), N0, rfl⟩
def Q25 (Z : State) (c : Int32) (h0 : Heap) (n0 : Nat) (v : Option Value) (h : Heap) (L : List Loc) : Prop := v = some (.int c) ∧ Fr n0 L ∧ h = h0
theorem ef_rm25 (m : MethodId) (x0 : Addr) (x1 : Int32) : entryFrame m #[(.ref x0), (.int x1)] 2 = mkF m 0 #[.val (.ref x0), .val (.int x1)] [] := by first | (simp [entryFrame, mkF, argsToLocals, Value.category]; done) | rfl
theorem d25_0 : decode jdk_52_method_83_code 0 = .ok (.iload_n 1, 1) := by decide +kernel
theorem d25_1 : decode jdk_52_method_83_code 1 = .ok (.aload_n 0, 1) := by decide +kernel
theorem pd__I_B_V_397 : parseMethodDescriptor "(I[B)V" = some ⟨[.int, (.array .byte)], none⟩ := by decide +kernel
theorem d25_2 : decode jdk_52_method_83_code 2 = .ok (.invokestatic 67, 3) := by decide +kernel
theorem d25_5 : decode jdk_52_method_83_code 5 = .ok (.aload_n 0, 1) := by decide +kernel
theorem d25_6 : decode jdk_52_method_83_code 6 = .ok (.iload_n 1, 1) := by decide +kernel
theorem pd___BI_C_378 : parseMethodDescriptor "([BI)C" = some ⟨[(.array .byte), .int], some .char⟩ := by decide +kernel
theorem d25_7 : decode jdk_52_method_83_code 7 = .ok (.invokestatic 71, 3) := by decide +kernel
theorem d25_10 : decode jdk_52_method_83_code 10 = .ok (.ireturn, 1) := by decide +kernel
set_option maxRecDepth 65536 in
set_option maxHeartbeats 40000000 in
theorem rm25 (l : Launch) (Z : State) (a0 : Array Value) (hw : ∀ d ∈ tables_1, d.before a0 Z = true) (ws : List Jvm.Cond) (r0 : Addr) (i : Nat) (kb : ClassId) (cs : List Int32) (fm : Value) (h0 : Heap) (n0 : Nat) (Z0 : n0 ≤ h0.size) (O0 : Old Z n0 h0) (Sf : Sta Z Z.heap "jdk/internal/util/Preconditions" "SIOOBE_FORMATTER" "Ljava/util/function/BiFunction;" fm) (i_fm : fm.isRef = true) (Sd : Sta Z Z.heap "java/lang/StringUTF16" "$assertionsDisabled" "Z" (.int (1 : Int32))) (Sh : Sta Z Z.heap "java/lang/StringUTF16" "HI_BYTE_SHIFT" "I" (.int (0 : Int32))) (Sl : Sta Z Z.heap "java/lang/StringUTF16" "LO_BYTE_SHIFT" "I" (.int (8 : Int32))) (Va : Arv Z h0 r0 kb .byte (Int32.ofNat (2 * cs.length)) (StrChars.Road.wideBytes cs) (.int 0)) (hl : cs.length ≤ 4000) (hi : i < cs.length) (hB : ∀ c ∈ cs, ¬ c < 0 ∧ ¬ (65535 : Int32) < c) :
    MetFree l (⟨"java/lang/StringUTF16", "charAt", "([BI)C"⟩ : MethodName) (head1 (Jvm.Cond.code (⟨"java/lang/StringUTF16", "charAt", "([BI)C"⟩ : MethodName) jdk_52_method_83_code 2 (some .char) :: ws) ({ frames := 3, cells := 0, slots := 0, locals := 40 } : Room)) (fun aX UX => aX = #[(.ref r0), (.int (Int32.ofNat i))] ∧ Z.Warmed39 UX.vm ∧ UX.heap = h0) (fun _ _ _ _ _ => True) (fun _ UX oX UX' => ∃ vX LX, oX = .returned vX ∧ Q25 Z (cs.getD i 0) h0 n0 vX UX'.heap LX ∧ FrameEnd UX oX UX' LX ({ frames := 3, cells := 0, slots := 0, locals := 40 } : Room).cells ({ frames := 3, cells := 0, slots := 0, locals := 40 } : Room).slots) := by
  refine MetFree.of_bodySF (plainFor_of_name pn_java_lang_StringUTF16) hisR ?_
  intro p e s m args below meth c s₁ Bd hml0 hP hK
  obtain ⟨rfl, hZ, hh⟩ := hP
  have hx := Bd.exec
  have hby := Bd.bytes
  have hml : c.maxLocals = 2 := hml0
  have hown : s.vm.findClass "java/lang/StringUTF16" = some m.cls := findClass_of_methodNamed Bd.named
  have hnm := (name_of_methodNamed Bd.named Bd.method).1
  have X0 : Stand p l e ({ frames := 3, cells := 0, slots := 0, locals := 40 } : Room) s m #[(.ref r0), (.int (Int32.ofNat i))] below meth c s₁ [] 0 0 := Stand.of_body Bd
  have e0 : s₁.heap = h0 := by rw [← hh, Bd.state]; rfl
  have N0 := Fr.nil n0
  show own_Comes p e below s ({ frames := 3, cells := 0, slots := 0, locals := 40 } : Room).cells ({ frames := 3, cells := 0, slots := 0, locals := 40 } : Room).slots (Q25 Z (cs.getD i 0) h0 n0) _
  rw [show entryFrame m #[(.ref r0), (.int (Int32.ofNat i))] 2 = mkF m 0 #[.val (.ref r0), .val (.int (Int32.ofNat i))] [] from ef_rm25 m r0 (Int32.ofNat i)]
  show own_Comes p e below s _ _ _ (s₁.setTop (mkF m 0 #[.val (.ref r0), .val (.int (Int32.ofNat i))] []))
  refine own_by (fun _ kS => XS.iloadN X0.here hx rfl (hb hby d25_0) rfl kS) ?_
  show own_Comes p e below s _ _ _ (s₁.setTop (mkF m 1 #[.val (.ref r0), .val (.int (Int32.ofNat i))] [(.int (Int32.ofNat i))]))
  refine own_by (fun _ kS => XS.aloadN X0.here hx rfl (hb hby d25_1) rfl rfl kS) ?_
  show own_Comes p e below s _ _ _ (s₁.setTop (mkF m 2 #[.val (.ref r0), .val (.int (Int32.ofNat i))] [(.ref r0), (.int (Int32.ofNat i))]))
  obtain ⟨vv12, _, ⟨T12, L12, k12, n12⟩, -, X12, ⟨Lc12, hQ12, l12, y12, z12⟩, st12⟩ := Jvm.LawKit.callS X0 hx (y := (⟨"java/lang/StringUTF16", "checkIndex", "(I[B)V"⟩ : MethodName)) hown (mvT hZ (hw _ (List.mem_of_getElem? (i := 103) rfl))) (mvT hZ (hw _ (List.mem_of_getElem? (i := 104) rfl))) (mvT hZ (hw _ (List.mem_of_getElem? (i := 25) rfl))) (mvT hZ (hw _ (List.mem_of_getElem? (i := 105) rfl))) (by decide) (backOf (W := 0) (rm26 l Z a0 hw [] i r0 kb cs fm h0 n0 Z0 O0 Sf i_fm Va hl hi) hZ (hw _ (List.mem_of_getElem? (i := 105) rfl)) (hw _ (List.mem_of_getElem? (i := 25) rfl)) (by decide) (by decide)) (g := (mkF m 2 #[.val (.ref r0), .val (.int (Int32.ofNat i))] [(.ref r0), (.int (Int32.ofNat i))])) rfl (by rw [hml]; rfl) (argsL := [(.int (Int32.ofNat i)), (.ref r0)]) (rest := []) (lenOf pd__I_B_V_397 rfl) rfl (by show 2 * 0 + _ ≤ _; exact Nat.le_of_eq rfl) (hb hby d25_2) (fun _ _ => ⟨rfl, e0, (by decide : 0 + 0 ≤ _), (by decide : 0 + 0 ≤ _)⟩)
  dsimp only [Pt.U, Pt.locs, Pt.cells, Pt.slots] at X12 l12 y12 z12 st12 hQ12
  subst l12 y12 z12
  obtain ⟨rfl, N12q, e12q⟩ := hQ12
  have N12 := Fr.app N0 N12q
  refine own_by st12 ?_
  have e12 : T12.heap = h0 := e12q
  show own_Comes p e below s _ _ _ (T12.setTop (mkF m 5 #[.val (.ref r0), .val (.int (Int32.ofNat i))] []))
  refine own_by (fun _ kS => XS.aloadN X12.here hx rfl (hb hby d25_5) rfl rfl kS) ?_
  show own_Comes p e below s _ _ _ (T12.setTop (mkF m 6 #[.val (.ref r0), .val (.int (Int32.ofNat i))] [(.ref r0)]))
  refine own_by (fun _ kS => XS.iloadN X12.here hx rfl (hb hby d25_6) rfl kS) ?_
  show own_Comes p e below s _ _ _ (T12.setTop (mkF m 7 #[.val (.ref r0), .val (.int (Int32.ofNat i))] [(.int (Int32.ofNat i)), (.ref r0)]))
  obtain ⟨vv13, _, ⟨T13, L13, k13, n13⟩, -, X13, ⟨Lc13, hQ13, l13, y13, z13⟩, st13⟩ := Jvm.LawKit.callS X12 hx (y := (⟨"java/lang/StringUTF16", "getChar", "([BI)C"⟩ : MethodName)) hown (mvT hZ (hw _ (List.mem_of_getElem? (i := 67) rfl))) (mvT hZ (hw _ (List.mem_of_getElem? (i := 68) rfl))) (mvT hZ (hw _ (List.mem_of_getElem? (i := 25) rfl))) (mvT hZ (hw _ (List.mem_of_getElem? (i := 69) rfl))) (by decide) (backOf (W := 0) (rm16 l Z a0 hw [] r0 i kb cs h0 n0 Z0 O0 Sd Sh Sl Va hl hi hB) hZ (hw _ (List.mem_of_getElem? (i := 69) rfl)) (hw _ (List.mem_of_getElem? (i := 25) rfl)) (by decide) (by decide)) (g := (mkF m 7 #[.val (.ref r0), .val (.int (Int32.ofNat i))] [(.int (Int32.ofNat i)), (.ref r0)])) rfl (by rw [hml]; rfl) (argsL := [(.ref r0), (.int (Int32.ofNat i))]) (rest := []) (lenOf pd___BI_C_378 rfl) rfl (by show 2 * 0 + _ ≤ _; exact Nat.le_of_eq rfl) (hb hby d25_7) (fun _ _ => ⟨rfl, e12, (by decide : 0 + 0 ≤ _), (by decide : 0 + 0 ≤ _)⟩)
  dsimp only [Pt.U, Pt.locs, Pt.cells, Pt.slots] at X13 l13 y13 z13 st13 hQ13
  subst l13 y13 z13
  obtain ⟨rfl, N13q, e13q⟩ := hQ13
  have N13 := Fr.app N12 N13q
  refine own_by st13 ?_
  have e13 : T13.heap = h0 := e13q
  show own_Comes p e below s _ _ _ (T13.setTop (mkF m 10 #[.val (.ref r0), .val (.int (Int32.ofNat i))] [(.int (cs.getD i 0))]))
  refine own_ret X13 (v := some (.int (nar .char (cs.getD i 0)))) (fun h => by rw [Bd.returns] at h; cases h) Bd.notSynchronized (by decide) (by decide) ?_ (fun fs hr => retN X13 hx (t := .char) Bd.returns (by simp) (hb hby d25_10) hr)
  rw [e13]; exact ⟨congrArg (fun z => some (Value.int z)) (own_nar16 (hB _ (own_mem hi))), N13, rfl⟩
def Q33 (Z : State) (c : Int32) (h0 : Heap) (n0 : Nat) (v : Option Value) (h : Heap) (L : List Loc) : Prop := v = some (.int c) ∧ Fr n0 L ∧ h = h0
theorem ef_rm33 (m : MethodId) (x0 : Addr) (x1 : Int32) : entryFrame m #[(.ref x0), (.int x1)] 2 = mkF m 0 #[.val (.ref x0), .val (.int x1)] [] := by first | (simp [entryFrame, mkF, argsToLocals, Value.category]; done) | rfl
theorem pn_java_lang_StringLatin1 : plainName "java/lang/StringLatin1" = true := by first | (simp [plainName, overriddenIn]; done) | decide +kernel
theorem d33_0 : decode jdk_43_method_2_code 0 = .ok (.iload_n 1, 1) := by decide +kernel
theorem d33_1 : decode jdk_43_method_2_code 1 = .ok (.aload_n 0, 1) := by decide +kernel
theorem d33_2 : decode jdk_43_method_2_code 2 = .ok (.arraylength, 1) := by decide +kernel
theorem d33_3 : decode jdk_43_method_2_code 3 = .ok (.invokestatic 9, 3) := by decide +kernel
theorem d33_6 : decode jdk_43_method_2_code 6 = .ok (.aload_n 0, 1) := by decide +kernel
theorem d33_7 : decode jdk_43_method_2_code 7 = .ok (.iload_n 1, 1) := by decide +kernel
theorem d33_8 : decode jdk_43_method_2_code 8 = .ok (.baload, 1) := by decide +kernel
theorem d33_9 : decode jdk_43_method_2_code 9 = .ok (.sipush 255, 3) := by decide +kernel
theorem d33_12 : decode jdk_43_method_2_code 12 = .ok (.iand, 1) := by decide +kernel
theorem d33_13 : decode jdk_43_method_2_code 13 = .ok (.i2c, 1) := by decide +kernel
theorem d33_14 : decode jdk_43_method_2_code 14 = .ok (.ireturn, 1) := by decide +kernel
set_option maxRecDepth 65536 in
set_option maxHeartbeats 40000000 in
theorem rm33 (l : Launch) (Z : State) (a0 : Array Value) (hw : ∀ d ∈ tables_1, d.before a0 Z = true) (ws : List Jvm.Cond) (r0 : Addr) (i : Nat) (kb : ClassId) (cs : List Int32) (fm : Value) (h0 : Heap) (n0 : Nat) (Z0 : n0 ≤ h0.size) (O0 : Old Z n0 h0) (Sf : Sta Z Z.heap "jdk/internal/util/Preconditions" "SIOOBE_FORMATTER" "Ljava/util/function/BiFunction;" fm) (i_fm : fm.isRef = true) (Va : Arv Z h0 r0 kb .byte (Int32.ofNat cs.length) (cs.map fun c => Value.int (StrChars.lo8 c)) (.int 0)) (hl : cs.length ≤ 4000) (hi : i < cs.length) (hB : ∀ c ∈ cs, ¬ c < 0 ∧ ¬ (65535 : Int32) < c) (Hl : ∀ c ∈ cs, ¬ (255 : Int32) < c) :
    MetFree l (⟨"java/lang/StringLatin1", "charAt", "([BI)C"⟩ : MethodName) (head1 (Jvm.Cond.code (⟨"java/lang/StringLatin1", "charAt", "([BI)C"⟩ : MethodName) jdk_43_method_2_code 2 (some .char) :: ws) ({ frames := 2, cells := 0, slots := 0, locals := 27 } : Room)) (fun aX UX => aX = #[(.ref r0), (.int (Int32.ofNat i))] ∧ Z.Warmed39 UX.vm ∧ UX.heap = h0) (fun _ _ _ _ _ => True) (fun _ UX oX UX' => ∃ vX LX, oX = .returned vX ∧ Q33 Z (cs.getD i 0) h0 n0 vX UX'.heap LX ∧ FrameEnd UX oX UX' LX ({ frames := 2, cells := 0, slots := 0, locals := 27 } : Room).cells ({ frames := 2, cells := 0, slots := 0, locals := 27 } : Room).slots) := by
  refine MetFree.of_bodySF (plainFor_of_name pn_java_lang_StringLatin1) hisR ?_
  intro p e s m args below meth c s₁ Bd hml0 hP hK
  obtain ⟨rfl, hZ, hh⟩ := hP
  have hx := Bd.exec
  have hby := Bd.bytes
  have hml : c.maxLocals = 2 := hml0
  have hown : s.vm.findClass "java/lang/StringLatin1" = some m.cls := findClass_of_methodNamed Bd.named
  have hnm := (name_of_methodNamed Bd.named Bd.method).1
  have X0 : Stand p l e ({ frames := 2, cells := 0, slots := 0, locals := 27 } : Room) s m #[(.ref r0), (.int (Int32.ofNat i))] below meth c s₁ [] 0 0 := Stand.of_body Bd
  have e0 : s₁.heap = h0 := by rw [← hh, Bd.state]; rfl
  have N0 := Fr.nil n0
  show own_Comes p e below s ({ frames := 2, cells := 0, slots := 0, locals := 27 } : Room).cells ({ frames := 2, cells := 0, slots := 0, locals := 27 } : Room).slots (Q33 Z (cs.getD i 0) h0 n0) _
  rw [show entryFrame m #[(.ref r0), (.int (Int32.ofNat i))] 2 = mkF m 0 #[.val (.ref r0), .val (.int (Int32.ofNat i))] [] from ef_rm33 m r0 (Int32.ofNat i)]
  show own_Comes p e below s _ _ _ (s₁.setTop (mkF m 0 #[.val (.ref r0), .val (.int (Int32.ofNat i))] []))
  refine own_by (fun _ kS => XS.iloadN X0.here hx rfl (hb hby d33_0) rfl kS) ?_
  show own_Comes p e below s _ _ _ (s₁.setTop (mkF m 1 #[.val (.ref r0), .val (.int (Int32.ofNat i))] [(.int (Int32.ofNat i))]))
  refine own_by (fun _ kS => XS.aloadN X0.here hx rfl (hb hby d33_1) rfl rfl kS) ?_
  show own_Comes p e below s _ _ _ (s₁.setTop (mkF m 2 #[.val (.ref r0), .val (.int (Int32.ofNat i))] [(.ref r0), (.int (Int32.ofNat i))]))
  have Vo14 := Va
  obtain ⟨cl14, Ar14, qA14, SA14, NA14, HA14, GA14⟩ := Vo14
  refine own_by (fun _ kS => X0.arraylength hx (by rw [e0]; exact Ar14.1) (State.isArrayOf_alike hZ.alike Ar14.2.1) (g := (mkF m 2 #[.val (.ref r0), .val (.int (Int32.ofNat i))] [(.ref r0), (.int (Int32.ofNat i))])) rfl rfl (hb hby d33_2) _ kS) ?_
  rw [len_of SA14 NA14]
  show own_Comes p e below s _ _ _ (s₁.setTop (mkF m 3 #[.val (.ref r0), .val (.int (Int32.ofNat i))] [(.int (Int32.ofNat cs.length)), (.int (Int32.ofNat i))]))
  obtain ⟨vv15, _, ⟨T15, L15, k15, n15⟩, -, X15, ⟨Lc15, hQ15, l15, y15, z15⟩, st15⟩ := Jvm.LawKit.callS X0 hx (y := (⟨"java/lang/String", "checkIndex", "(II)V"⟩ : MethodName)) hown (mvT hZ (hw _ (List.mem_of_getElem? (i := 132) rfl))) (mvT hZ (hw _ (List.mem_of_getElem? (i := 110) rfl))) (mvT hZ (hw _ (List.mem_of_getElem? (i := 10) rfl))) (mvT hZ (hw _ (List.mem_of_getElem? (i := 111) rfl))) (by decide) (backOf (W := 0) (rm28 l Z a0 hw [] (Int32.ofNat i) (Int32.ofNat cs.length) fm h0 n0 Z0 O0 Sf i_fm (own_neg (by omega)) ((own_lt (by omega) (by omega)).mpr hi)) hZ (hw _ (List.mem_of_getElem? (i := 111) rfl)) (hw _ (List.mem_of_getElem? (i := 10) rfl)) (by decide) (by decide)) (g := (mkF m 3 #[.val (.ref r0), .val (.int (Int32.ofNat i))] [(.int (Int32.ofNat cs.length)), (.int (Int32.ofNat i))])) rfl (by rw [hml]; rfl) (argsL := [(.int (Int32.ofNat i)), (.int (Int32.ofNat cs.length))]) (rest := []) (lenOf pd__II_V_313 rfl) rfl (by show 2 * 0 + _ ≤ _; exact Nat.le_of_eq rfl) (hb hby d33_3) (fun _ _ => ⟨rfl, e0, (by decide : 0 + 0 ≤ _), (by decide : 0 + 0 ≤ _)⟩)
  dsimp only [Pt.U, Pt.locs, Pt.cells, Pt.slots] at X15 l15 y15 z15 st15 hQ15
  subst l15 y15 z15
  obtain ⟨rfl, N15q, e15q⟩ := hQ15
  have N15 := Fr.app N0 N15q
  refine own_by st15 ?_
  have e15 : T15.heap = h0 := e15q
  show own_Comes p e below s _ _ _ (T15.setTop (mkF m 6 #[.val (.ref r0), .val (.int (Int32.ofNat i))] []))
  refine own_by (fun _ kS => XS.aloadN X15.here hx rfl (hb hby d33_6) rfl rfl kS) ?_
  show own_Comes p e below s _ _ _ (T15.setTop (mkF m 7 #[.val (.ref r0), .val (.int (Int32.ofNat i))] [(.ref r0)]))
  refine own_by (fun _ kS => XS.iloadN X15.here hx rfl (hb hby d33_7) rfl kS) ?_
  show own_Comes p e below s _ _ _ (T15.setTop (mkF m 8 #[.val (.ref r0), .val (.int (Int32.ofNat i))] [(.int (Int32.ofNat i)), (.ref r0)]))
  have Vo16 := Va
  obtain ⟨cl16, Ar16, qA16, SA16, NA16, HA16, GA16⟩ := Vo16
  have hin16 : ¬ ((Int32.ofNat i) < 0 ∨ cl16.slots.size ≤ ((Int32.ofNat i)).toNatClampNeg) := own_inb SA16 (by omega) hi
  have hat16 : cl16.slots[((Int32.ofNat i)).toNatClampNeg]? = some (.int (StrChars.lo8 (cs.getD i 0))) := HA16.at hin16 (by rw [own_tn (by omega)]; exact StrChars.Road.low_at _ cs i hi)
  refine own_by (fun _ kS => X15.baloadBytes hx (j := (Int32.ofNat i)) (v := (.int (StrChars.lo8 (cs.getD i 0)))) (by rw [e15]; exact Ar16.1) (State.isArrayOf_alike hZ.alike Ar16.2.1) Ar16.2.2 hin16 hat16 (g := (mkF m 8 #[.val (.ref r0), .val (.int (Int32.ofNat i))] [(.int (Int32.ofNat i)), (.ref r0)])) rfl rfl (hb hby d33_8) _ kS) ?_
  show own_Comes p e below s _ _ _ (T15.setTop (mkF m 9 #[.val (.ref r0), .val (.int (Int32.ofNat i))] [(.int (StrChars.lo8 (cs.getD i 0)))]))
  refine own_by (fun _ kS => XS.sipush X15.here hx rfl (hb hby d33_9) kS) ?_
  show own_Comes p e below s _ _ _ (T15.setTop (mkF m 12 #[.val (.ref r0), .val (.int (Int32.ofNat i))] [(.int (255 : Int32)), (.int (StrChars.lo8 (cs.getD i 0)))]))
  refine own_by (fun _ kS => XS.iand X15.here hx rfl (hb hby d33_12) rfl kS) ?_
  show own_Comes p e below s _ _ _ (T15.setTop (mkF m 13 #[.val (.ref r0), .val (.int (Int32.ofNat i))] [(.int ((StrChars.lo8 (cs.getD i 0)) &&& (255 : Int32)))]))
  refine own_by (fun _ kS => XS.i2c X15.here hx rfl (hb hby d33_13) rfl kS) ?_
  show own_Comes p e below s _ _ _ (T15.setTop (mkF m 14 #[.val (.ref r0), .val (.int (Int32.ofNat i))] [(.int (((StrChars.lo8 (cs.getD i 0)) &&& (255 : Int32)).toUInt32.toUInt16.toUInt32.toInt32))]))
  refine own_ret X15 (v := some (.int (nar .char (((StrChars.lo8 (cs.getD i 0)) &&& (255 : Int32)).toUInt32.toUInt16.toUInt32.toInt32)))) (fun h => by rw [Bd.returns] at h; cases h) Bd.notSynchronized (by decide) (by decide) ?_ (fun fs hr => retN X15 hx (t := .char) Bd.returns (by simp) (hb hby d33_14) hr)
  rw [e15]; exact ⟨congrArg (fun z => some (Value.int z)) (own_gl ⟨(hB _ (own_mem hi)).1, Hl _ (own_mem hi)⟩), N15, rfl⟩
def Q24 (Z : State) (z : Int32) (h0 : Heap) (n0 : Nat) (v : Option Value) (h : Heap) (L : List Loc) : Prop := v = some (.int z) ∧ Fr n0 L ∧ h = h0
theorem ef_rm24l (m : MethodId) (x0 : Addr) : entryFrame m #[(.ref x0)] 1 = mkF m 0 #[.val (.ref x0)] [] := by first | (simp [entryFrame, mkF, argsToLocals, Value.category]; done) | rfl
theorem d24_0 : decode jdk_42_method_154_code 0 = .ok (.getstatic 38, 3) := by decide +kernel
theorem d24_3 : decode jdk_42_method_154_code 3 = .ok (.ifCond .eq 14, 3) := by decide +kernel
theorem d24_6 : decode jdk_42_method_154_code 6 = .ok (.aload_n 0, 1) := by decide +kernel
theorem d24_7 : decode jdk_42_method_154_code 7 = .ok (.getfield 15, 3) := by decide +kernel
theorem d24_10 : decode jdk_42_method_154_code 10 = .ok (.ifCond .ne 7, 3) := by decide +kernel
theorem d24_13 : decode jdk_42_method_154_code 13 = .ok (.iconst 1, 1) := by decide +kernel
theorem d24_14 : decode jdk_42_method_154_code 14 = .ok (.goto 4, 3) := by decide +kernel
theorem d24_18 : decode jdk_42_method_154_code 18 = .ok (.ireturn, 1) := by decide +kernel
set_option maxRecDepth 65536 in
set_option maxHeartbeats 40000000 in
theorem rm24l (l : Launch) (Z : State) (a0 : Array Value) (hw : ∀ d ∈ tables_1, d.before a0 Z = true) (ws : List Jvm.Cond) (r0 : Addr) (zc : Int32) (h0 : Heap) (n0 : Nat) (Z0 : n0 ≤ h0.size) (O0 : Old Z n0 h0) (Sz : Sta Z Z.heap "java/lang/String" "COMPACT_STRINGS" "Z" (.int zc)) (hzc : ¬ zc = 0) (Fc : Fld Z h0 r0 "java/lang/String" "coder" "B" (.int (0 : Int32))) :
    MetFree l (⟨"java/lang/String", "isLatin1", "()Z"⟩ : MethodName) (head1 (Jvm.Cond.code (⟨"java/lang/String", "isLatin1", "()Z"⟩ : MethodName) jdk_42_method_154_code 1 (some .boolean) :: ws) ({ frames := 0, cells := 0, slots := 0, locals := 0 } : Room)) (fun aX UX => aX = #[(.ref r0)] ∧ Z.Warmed39 UX.vm ∧ UX.heap = h0) (fun _ _ _ _ _ => True) (fun _ UX oX UX' => ∃ vX LX, oX = .returned vX ∧ Q24 Z (1 : Int32) h0 n0 vX UX'.heap LX ∧ FrameEnd UX oX UX' LX ({ frames := 0, cells := 0, slots := 0, locals := 0 } : Room).cells ({ frames := 0, cells := 0, slots := 0, locals := 0 } : Room).slots) := by
  refine MetFree.of_bodySF (plainFor_of_name pn_java_lang_String) hisR ?_
  intro p e s m args below meth c s₁ Bd hml0 hP hK
  obtain ⟨rfl, hZ, hh⟩ := hP
  have hx := Bd.exec
  have hby := Bd.bytes
  have hml : c.maxLocals = 1 := hml0
  have hown : s.vm.findClass "java/lang/String" = some m.cls := findClass_of_methodNamed Bd.named
  have hnm := (name_of_methodNamed Bd.named Bd.method).1
  have X0 : Stand p l e ({ frames := 0, cells := 0, slots := 0, locals := 0 } : Room) s m #[(.ref r0)] below meth c s₁ [] 0 0 := Stand.of_body Bd
  have e0 : s₁.heap = h0 := by rw [← hh, Bd.state]; rfl
  have N0 := Fr.nil n0
  show own_Comes p e below s ({ frames := 0, cells := 0, slots := 0, locals := 0 } : Room).cells ({ frames := 0, cells := 0, slots := 0, locals := 0 } : Room).slots (Q24 Z (1 : Int32) h0 n0) _
  rw [show entryFrame m #[(.ref r0)] 1 = mkF m 0 #[.val (.ref r0)] [] from ef_rm24l m r0]
  show own_Comes p e below s _ _ _ (s₁.setTop (mkF m 0 #[.val (.ref r0)] []))
  obtain ⟨T17, X17, e17, st17⟩ := getS2 X0 hx hZ hown (host := "") (Or.inl (hw _ (List.mem_of_getElem? (i := 22) rfl))) Via.refl e0 (Sz.ext O0.2) (g := (mkF m 0 #[.val (.ref r0)] [])) rfl (hb hby d24_0)
  refine own_by st17 ?_
  show own_Comes p e below s _ _ _ (T17.setTop (mkF m 3 #[.val (.ref r0)] [(.int zc)]))
  refine own_by (fun _ kS => XS.ifNo X17.here hx rfl (hb hby d24_3) rfl ((if0 _ _).trans (feq hzc).1) kS) ?_
  show own_Comes p e below s _ _ _ (T17.setTop (mkF m 6 #[.val (.ref r0)] []))
  refine own_by (fun _ kS => XS.aloadN X17.here hx rfl (hb hby d24_6) rfl rfl kS) ?_
  show own_Comes p e below s _ _ _ (T17.setTop (mkF m 7 #[.val (.ref r0)] [(.ref r0)]))
  obtain ⟨T18, X18, e18, st18⟩ := getF X17 hx hZ hown (host := "") (Or.inl (hw _ (List.mem_of_getElem? (i := 34) rfl))) Via.refl e17 Fc (g := (mkF m 7 #[.val (.ref r0)] [(.ref r0)])) rfl rfl (hb hby d24_7)
  refine own_by st18 ?_
  show own_Comes p e below s _ _ _ (T18.setTop (mkF m 10 #[.val (.ref r0)] [(.int (0 : Int32))]))
  have hb19 : (0 : Int32) = (0 : Int32) := by decide
  refine own_by (fun _ kS => XS.ifNo X18.here hx rfl (hb hby d24_10) rfl ((if0 _ _).trans (teq hb19).2) kS) ?_
  show own_Comes p e below s _ _ _ (T18.setTop (mkF m 13 #[.val (.ref r0)] []))
  refine own_by (fun _ kS => XS.iconst X18.here hx rfl (hb hby d24_13) kS) ?_
  show own_Comes p e below s _ _ _ (T18.setTop (mkF m 14 #[.val (.ref r0)] [(.int (1 : Int32))]))
  refine own_by (fun _ kS => XS.goto X18.here hx rfl (pc0 := 14) (pc' := 18) rfl (hb hby d24_14) (by decide) (by decide) kS) ?_
  show own_Comes p e below s _ _ _ (T18.setTop (mkF m 18 #[.val (.ref r0)] [(.int (1 : Int32))]))
  refine own_ret X18 (v := some (.int (1 : Int32))) (fun h => by rw [Bd.returns] at h; cases h) Bd.notSynchronized (by decide) (by decide) ?_ (fun fs hr => retN X18 hx (t := .boolean) Bd.returns (by simp) (hb hby d24_18) hr)
  rw [e18]; exact ⟨rfl, N0, rfl⟩
theorem ef_rm24u (m : MethodId) (x0 : Addr) : entryFrame m #[(.ref x0)] 1 = mkF m 0 #[.val (.ref x0)] [] := by first | (simp [entryFrame, mkF, argsToLocals, Value.category]; done) | rfl
theorem d24_17 : decode jdk_42_method_154_code 17 = .ok (.iconst 0, 1) := by decide +kernel
set_option maxRecDepth 65536 in
set_option maxHeartbeats 40000000 in
theorem rm24u (l : Launch) (Z : State) (a0 : Array Value) (hw : ∀ d ∈ tables_1, d.before a0 Z = true) (ws : List Jvm.Cond) (r0 : Addr) (zc : Int32) (h0 : Heap) (n0 : Nat) (Z0 : n0 ≤ h0.size) (O0 : Old Z n0 h0) (Sz : Sta Z Z.heap "java/lang/String" "COMPACT_STRINGS" "Z" (.int zc)) (hzc : ¬ zc = 0) (Fc : Fld Z h0 r0 "java/lang/String" "coder" "B" (.int (1 : Int32))) :
    MetFree l (⟨"java/lang/String", "isLatin1", "()Z"⟩ : MethodName) (head1 (Jvm.Cond.code (⟨"java/lang/String", "isLatin1", "()Z"⟩ : MethodName) jdk_42_method_154_code 1 (some .boolean) :: ws) ({ frames := 0, cells := 0, slots := 0, locals := 0 } : Room)) (fun aX UX => aX = #[(.ref r0)] ∧ Z.Warmed39 UX.vm ∧ UX.heap = h0) (fun _ _ _ _ _ => True) (fun _ UX oX UX' => ∃ vX LX, oX = .returned vX ∧ Q24 Z (0 : Int32) h0 n0 vX UX'.heap LX ∧ FrameEnd UX oX UX' LX ({ frames := 0, cells := 0, slots := 0, locals := 0 } : Room).cells ({ frames := 0, cells := 0, slots := 0, locals := 0 } : Room).slots) := by
  refine MetFree.of_bodySF (plainFor_of_name pn_java_lang_String) hisR ?_
  intro p e s m args below meth c s₁ Bd hml0 hP hK
  obtain ⟨rfl, hZ, hh⟩ := hP
  have hx := Bd.exec
  have hby := Bd.bytes
  have hml : c.maxLocals = 1 := hml0
  have hown : s.vm.findClass "java/lang/String" = some m.cls := findClass_of_methodNamed Bd.named
  have hnm := (name_of_methodNamed Bd.named Bd.method).1
  have X0 : Stand p l e ({ frames := 0, cells := 0, slots := 0, locals := 0 } : Room) s m #[(.ref r0)] below meth c s₁ [] 0 0 := Stand.of_body Bd
  have e0 : s₁.heap = h0 := by rw [← hh, Bd.state]; rfl
  have N0 := Fr.nil n0
  show own_Comes p e below s ({ frames := 0, cells := 0, slots := 0, locals := 0 } : Room).cells ({ frames := 0, cells := 0, slots := 0, locals := 0 } : Room).slots (Q24 Z (0 : Int32) h0 n0) _
  rw [show entryFrame m #[(.ref r0)] 1 = mkF m 0 #[.val (.ref r0)] [] from ef_rm24u m r0]
  show own_Comes p e below s _ _ _ (s₁.setTop (mkF m 0 #[.val (.ref r0)] []))
  obtain ⟨T20, X20, e20, st20⟩ := getS2 X0 hx hZ hown (host := "") (Or.inl (hw _ (List.mem_of_getElem? (i := 22) rfl))) Via.refl e0 (Sz.ext O0.2) (g := (mkF m 0 #[.val (.ref r0)] [])) rfl (hb hby d24_0)
  refine own_by st20 ?_
  show own_Comes p e below s _ _ _ (T20.setTop (mkF m 3 #[.val (.ref r0)] [(.int zc)]))
  refine own_by (fun _ kS => XS.ifNo X20.here hx rfl (hb hby d24_3) rfl ((if0 _ _).trans (feq hzc).1) kS) ?_
  show own_Comes p e below s _ _ _ (T20.setTop (mkF m 6 #[.val (.ref r0)] []))
  refine own_by (fun _ kS => XS.aloadN X20.here hx rfl (hb hby d24_6) rfl rfl kS) ?_
  show own_Comes p e below s _ _ _ (T20.setTop (mkF m 7 #[.val (.ref r0)] [(.ref r0)]))
  obtain ⟨T21, X21, e21, st21⟩ := getF X20 hx hZ hown (host := "") (Or.inl (hw _ (List.mem_of_getElem? (i := 34) rfl))) Via.refl e20 Fc (g := (mkF m 7 #[.val (.ref r0)] [(.ref r0)])) rfl rfl (hb hby d24_7)
  refine own_by st21 ?_
  show own_Comes p e below s _ _ _ (T21.setTop (mkF m 10 #[.val (.ref r0)] [(.int (1 : Int32))]))
  have hb22 : ¬ ((1 : Int32) = (0 : Int32)) := by decide
  refine own_by (fun _ kS => XS.ifYes X21.here hx rfl (pc0 := 10) (pc' := 17) rfl (hb hby d24_10) rfl ((if0 _ _).trans (feq hb22).2) (by decide) (by decide) kS) ?_
  show own_Comes p e below s _ _ _ (T21.setTop (mkF m 17 #[.val (.ref r0)] []))
  refine own_by (fun _ kS => XS.iconst X21.here hx rfl (hb hby d24_17) kS) ?_
  show own_Comes p e below s _ _ _ (T21.setTop (mkF m 18 #[.val (.ref r0)] [(.int (0 : Int32))]))
  refine own_ret X21 (v := some (.int (0 : Int32))) (fun h => by rw [Bd.returns] at h; cases h) Bd.notSynchronized (by decide) (by decide) ?_ (fun fs hr => retN X21 hx (t := .boolean) Bd.returns (by simp) (hb hby d24_18) hr)
  rw [e21]; exact ⟨rfl, N0, rfl⟩
def Q23 (Z : State) (c : Int32) (h0 : Heap) (n0 : Nat) (v : Option Value) (h : Heap) (L : List Loc) : Prop := v = some (.int c) ∧ Fr n0 L ∧ h = h0
theorem ef_rm23 (m : MethodId) (x0 : Addr) (x1 : Int32) : entryFrame m #[(.ref x0), (.int x1)] 2 = mkF m 0 #[.val (.ref x0), .val (.int x1)] [] := by first | (simp [entryFrame, mkF, argsToLocals, Value.category]; done) | rfl
theorem d23_0 : decode jdk_42_method_56_code 0 = .ok (.aload_n 0, 1) := by decide +kernel
theorem pd___Z_171 : parseMethodDescriptor "()Z" = some ⟨[], some .boolean⟩ := by decide +kernel
theorem d23_1 : decode jdk_42_method_56_code 1 = .ok (.invokevirtual 492, 3) := by decide +kernel
theorem d23_4 : decode jdk_42_method_56_code 4 = .ok (.ifCond .eq 12, 3) := by decide +kernel
theorem d23_7 : decode jdk_42_method_56_code 7 = .ok (.aload_n 0, 1) := by decide +kernel
theorem d23_8 : decode jdk_42_method_56_code 8 = .ok (.getfield 9, 3) := by decide +kernel
theorem d23_11 : decode jdk_42_method_56_code 11 = .ok (.iload_n 1, 1) := by decide +kernel
theorem d23_12 : decode jdk_42_method_56_code 12 = .ok (.invokestatic 495, 3) := by decide +kernel
theorem d23_15 : decode jdk_42_method_56_code 15 = .ok (.ireturn, 1) := by decide +kernel
theorem d23_16 : decode jdk_42_method_56_code 16 = .ok (.aload_n 0, 1) := by decide +kernel
theorem d23_17 : decode jdk_42_method_56_code 17 = .ok (.getfield 9, 3) := by decide +kernel
theorem d23_20 : decode jdk_42_method_56_code 20 = .ok (.iload_n 1, 1) := by decide +kernel
theorem d23_21 : decode jdk_42_method_56_code 21 = .ok (.invokestatic 498, 3) := by decide +kernel
theorem d23_24 : decode jdk_42_method_56_code 24 = .ok (.ireturn, 1) := by decide +kernel
set_option maxRecDepth 65536 in
set_option maxHeartbeats 40000000 in
theorem rm23 (l : Launch) (Z : State) (a0 : Array Value) (hw : ∀ d ∈ tables_1, d.before a0 Z = true) (ws : List Jvm.Cond) (r0 : Addr) (i : Nat) (cs : List Int32) (zc : Int32) (fm : Value) (h0 : Heap) (n0 : Nat) (Z0 : n0 ≤ h0.size) (O0 : Old Z n0 h0) (Sz : Sta Z Z.heap "java/lang/String" "COMPACT_STRINGS" "Z" (.int zc)) (hzc : ¬ zc = 0) (Sf : Sta Z Z.heap "jdk/internal/util/Preconditions" "SIOOBE_FORMATTER" "Ljava/util/function/BiFunction;" fm) (i_fm : fm.isRef = true) (Sd : Sta Z Z.heap "java/lang/StringUTF16" "$assertionsDisabled" "Z" (.int (1 : Int32))) (Sh : Sta Z Z.heap "java/lang/StringUTF16" "HI_BYTE_SHIFT" "I" (.int (0 : Int32))) (Sl : Sta Z Z.heap "java/lang/StringUTF16" "LO_BYTE_SHIFT" "I" (.int (8 : Int32))) (hY : own_Txt Z h0 r0 cs) (hi : i < cs.length) :
    MetFree l (⟨"java/lang/String", "charAt", "(I)C"⟩ : MethodName) (head1 (Jvm.Cond.code (⟨"java/lang/String", "charAt", "(I)C"⟩ : MethodName) jdk_42_method_56_code 2 (some .char) :: ws) ({ frames := 4, cells := 0, slots := 0, locals := 53 } : Room)) (fun aX UX => aX = #[(.ref r0), (.int (Int32.ofNat i))] ∧ Z.Warmed39 UX.vm ∧ UX.heap = h0) (fun _ _ _ _ _ => True) (fun _ UX oX UX' => ∃ vX LX, oX = .returned vX ∧ Q23 Z (cs.getD i 0) h0 n0 vX UX'.heap LX ∧ FrameEnd UX oX UX' LX ({ frames := 4, cells := 0, slots := 0, locals := 53 } : Room).cells ({ frames := 4, cells := 0, slots := 0, locals := 53 } : Room).slots) := by
  refine MetFree.of_bodySF (plainFor_of_name pn_java_lang_String) hisR ?_
  intro p e s m args below meth c s₁ Bd hml0 hP hK
  obtain ⟨rfl, hZ, hh⟩ := hP
  have hx := Bd.exec
  have hby := Bd.bytes
  have hml : c.maxLocals = 2 := hml0
  have hown : s.vm.findClass "java/lang/String" = some m.cls := findClass_of_methodNamed Bd.named
  have hnm := (name_of_methodNamed Bd.named Bd.method).1
  have X0 : Stand p l e ({ frames := 4, cells := 0, slots := 0, locals := 53 } : Room) s m #[(.ref r0), (.int (Int32.ofNat i))] below meth c s₁ [] 0 0 := Stand.of_body Bd
  have e0 : s₁.heap = h0 := by rw [← hh, Bd.state]; rfl
  have N0 := Fr.nil n0
  show own_Comes p e below s ({ frames := 4, cells := 0, slots := 0, locals := 53 } : Room).cells ({ frames := 4, cells := 0, slots := 0, locals := 53 } : Room).slots (Q23 Z (cs.getD i 0) h0 n0) _
  rw [show entryFrame m #[(.ref r0), (.int (Int32.ofNat i))] 2 = mkF m 0 #[.val (.ref r0), .val (.int (Int32.ofNat i))] [] from ef_rm23 m r0 (Int32.ofNat i)]
  show own_Comes p e below s _ _ _ (s₁.setTop (mkF m 0 #[.val (.ref r0), .val (.int (Int32.ofNat i))] []))
  have hYc := hY
  obtain ⟨Er, tr, kr, cdr, Nr, vr, Vr, Cr, Ar, Hr, Br, Lr⟩ := hYc
  rcases Hr with ⟨rfl, rfl, rfl, Hl⟩ | ⟨rfl, rfl, rfl, Hw⟩
  · show own_Comes p e below s _ _ _ (s₁.setTop (mkF m 0 #[.val (.ref r0), .val (.int (Int32.ofNat i))] []))
    refine own_by (fun _ kS => XS.aloadN X0.here hx rfl (hb hby d23_0) rfl rfl kS) ?_
    show own_Comes p e below s _ _ _ (s₁.setTop (mkF m 1 #[.val (.ref r0), .val (.int (Int32.ofNat i))] [(.ref r0)]))
    obtain ⟨cq23, kq23, q23a, q23b, q23c⟩ := isOf hZ e0 Er
    obtain ⟨vv23, _, ⟨T23, L23, k23, n23⟩, -, X23, ⟨Lc23, hQ23, l23, y23, z23⟩, st23⟩ := X0.virtualBack hx (y := (⟨"java/lang/String", "isLatin1", "()Z"⟩ : MethodName)) (z := (⟨"java/lang/String", "isLatin1", "()Z"⟩ : MethodName)) hown (mvT hZ (hw _ (List.mem_of_getElem? (i := 95) rfl))) (mvT hZ (hw _ (List.mem_of_getElem? (i := 96) rfl))) (notFace_of_selects (args := #[]) (mvT hZ (hw _ (List.mem_of_getElem? (i := 98) rfl)))) (mvT hZ (hw _ (List.mem_of_getElem? (i := 98) rfl))) (mvT hZ (hw _ (List.mem_of_getElem? (i := 97) rfl))) (by decide) (backOf (W := 0) (rm24l l Z a0 hw [] r0 zc h0 n0 Z0 O0 Sz hzc Cr) hZ (hw _ (List.mem_of_getElem? (i := 99) rfl)) (hw _ (List.mem_of_getElem? (i := 10) rfl)) (by decide) (by decide)) q23a q23c (g := (mkF m 1 #[.val (.ref r0), .val (.int (Int32.ofNat i))] [(.ref r0)])) rfl (by rw [hml]; rfl) (Steps.refl _) (argsL := []) (rest := []) (lenOf pd___Z_171 rfl) rfl (by show 2 * 0 + _ ≤ _; exact Nat.le_of_eq rfl) (hb hby d23_1) (fun _ _ => ⟨rfl, e0, (by decide : 0 + 0 ≤ _), (by decide : 0 + 0 ≤ _)⟩)
    dsimp only [Pt.U, Pt.locs, Pt.cells, Pt.slots] at X23 l23 y23 z23 st23 hQ23
    subst l23 y23 z23
    obtain ⟨rfl, N23q, e23q⟩ := hQ23
    have N23 := Fr.app N0 N23q
    refine own_tr st23 ?_
    have e23 : T23.heap = h0 := e23q
    show own_Comes p e below s _ _ _ (T23.setTop (mkF m 4 #[.val (.ref r0), .val (.int (Int32.ofNat i))] [(.int (1 : Int32))]))
    have hb24 : ¬ ((1 : Int32) = (0 : Int32)) := by decide
    refine own_by (fun _ kS => XS.ifNo X23.here hx rfl (hb hby d23_4) rfl ((if0 _ _).trans (feq hb24).1) kS) ?_
    show own_Comes p e below s _ _ _ (T23.setTop (mkF m 7 #[.val (.ref r0), .val (.int (Int32.ofNat i))] []))
    refine own_by (fun _ kS => XS.aloadN X23.here hx rfl (hb hby d23_7) rfl rfl kS) ?_
    show own_Comes p e below s _ _ _ (T23.setTop (mkF m 8 #[.val (.ref r0), .val (.int (Int32.ofNat i))] [(.ref r0)]))
    obtain ⟨T25, X25, e25, st25⟩ := getF X23 hx hZ hown (host := "") (Or.inl (hw _ (List.mem_of_getElem? (i := 36) rfl))) Via.refl e23 Vr (g := (mkF m 8 #[.val (.ref r0), .val (.int (Int32.ofNat i))] [(.ref r0)])) rfl rfl (hb hby d23_8)
    refine own_by st25 ?_
    show own_Comes p e below s _ _ _ (T25.setTop (mkF m 11 #[.val (.ref r0), .val (.int (Int32.ofNat i))] [(.ref tr)]))
    refine own_by (fun _ kS => XS.iloadN X25.here hx rfl (hb hby d23_11) rfl kS) ?_
    show own_Comes p e below s _ _ _ (T25.setTop (mkF m 12 #[.val (.ref r0), .val (.int (Int32.ofNat i))] [(.int (Int32.ofNat i)), (.ref tr)]))
    obtain ⟨vv26, _, ⟨T26, L26, k26, n26⟩, -, X26, ⟨Lc26, hQ26, l26, y26, z26⟩, st26⟩ := Jvm.LawKit.callS X25 hx (y := (⟨"java/lang/StringLatin1", "charAt", "([BI)C"⟩ : MethodName)) hown (mvT hZ (hw _ (List.mem_of_getElem? (i := 129) rfl))) (mvT hZ (hw _ (List.mem_of_getElem? (i := 130) rfl))) (mvT hZ (hw _ (List.mem_of_getElem? (i := 75) rfl))) (mvT hZ (hw _ (List.mem_of_getElem? (i := 131) rfl))) (by decide) (backOf (W := 0) (rm33 l Z a0 hw [] tr i kr cs fm h0 n0 Z0 O0 Sf i_fm Ar Lr hi Br Hl) hZ (hw _ (List.mem_of_getElem? (i := 131) rfl)) (hw _ (List.mem_of_getElem? (i := 75) rfl)) (by decide) (by decide)) (g := (mkF m 12 #[.val (.ref r0), .val (.int (Int32.ofNat i))] [(.int (Int32.ofNat i)), (.ref tr)])) rfl (by rw [hml]; rfl) (argsL := [(.ref tr), (.int (Int32.ofNat i))]) (rest := []) (lenOf pd___BI_C_378 rfl) rfl (by show 2 * 0 + _ ≤ _; exact Nat.le_of_eq rfl) (hb hby d23_12) (fun _ _ => ⟨rfl, e25, (by decide : 0 + 0 ≤ _), (by decide : 0 + 0 ≤ _)⟩)
    dsimp only [Pt.U, Pt.locs, Pt.cells, Pt.slots] at X26 l26 y26 z26 st26 hQ26
    subst l26 y26 z26
    obtain ⟨rfl, N26q, e26q⟩ := hQ26
    have N26 := Fr.app N23 N26q
    refine own_by st26 ?_
    have e26 : T26.heap = h0 := e26q
    show own_Comes p e below s _ _ _ (T26.setTop (mkF m 15 #[.val (.ref r0), .val (.int (Int32.ofNat i))] [(.int (cs.getD i 0))]))
    refine own_ret X26 (v := some (.int (nar .char (cs.getD i 0)))) (fun h => by rw [Bd.returns] at h; cases h) Bd.notSynchronized (by decide) (by decide) ?_ (fun fs hr => retN X26 hx (t := .char) Bd.returns (by simp) (hb hby d23_15) hr)
    rw [e26]; exact ⟨congrArg (fun z => some (Value.int z)) (own_nar16 (Br _ (own_mem hi))), N26, rfl⟩
  · show own_Comes p e below s _ _ _ (s₁.setTop (mkF m 0 #[.val (.ref r0), .val (.int (Int32.ofNat i))] []))
    refine own_by (fun _ kS => XS.aloadN X0.here hx rfl (hb hby d23_0) rfl rfl kS) ?_
    show own_Comes p e below s _ _ _ (s₁.setTop (mkF m 1 #[.val (.ref r0), .val (.int (Int32.ofNat i))] [(.ref r0)]))
    obtain ⟨cq27, kq27, q27a, q27b, q27c⟩ := isOf hZ e0 Er
    obtain ⟨vv27, _, ⟨T27, L27, k27, n27⟩, -, X27, ⟨Lc27, hQ27, l27, y27, z27⟩, st27⟩ := X0.virtualBack hx (y := (⟨"java/lang/String", "isLatin1", "()Z"⟩ : MethodName)) (z := (⟨"java/lang/String", "isLatin1", "()Z"⟩ : MethodName)) hown (mvT hZ (hw _ (List.mem_of_getElem? (i := 95) rfl))) (mvT hZ (hw _ (List.mem_of_getElem? (i := 96) rfl))) (notFace_of_selects (args := #[]) (mvT hZ (hw _ (List.mem_of_getElem? (i := 98) rfl)))) (mvT hZ (hw _ (List.mem_of_getElem? (i := 98) rfl))) (mvT hZ (hw _ (List.mem_of_getElem? (i := 97) rfl))) (by decide) (backOf (W := 0) (rm24u l Z a0 hw [] r0 zc h0 n0 Z0 O0 Sz hzc Cr) hZ (hw _ (List.mem_of_getElem? (i := 99) rfl)) (hw _ (List.mem_of_getElem? (i := 10) rfl)) (by decide) (by decide)) q27a q27c (g := (mkF m 1 #[.val (.ref r0), .val (.int (Int32.ofNat i))] [(.ref r0)])) rfl (by rw [hml]; rfl) (Steps.refl _) (argsL := []) (rest := []) (lenOf pd___Z_171 rfl) rfl (by show 2 * 0 + _ ≤ _; exact Nat.le_of_eq rfl) (hb hby d23_1) (fun _ _ => ⟨rfl, e0, (by decide : 0 + 0 ≤ _), (by decide : 0 + 0 ≤ _)⟩)
    dsimp only [Pt.U, Pt.locs, Pt.cells, Pt.slots] at X27 l27 y27 z27 st27 hQ27
    subst l27 y27 z27
    obtain ⟨rfl, N27q, e27q⟩ := hQ27
    have N27 := Fr.app N0 N27q
    refine own_tr st27 ?_
    have e27 : T27.heap = h0 := e27q
    show own_Comes p e below s _ _ _ (T27.setTop (mkF m 4 #[.val (.ref r0), .val (.int (Int32.ofNat i))] [(.int (0 : Int32))]))
    have hb28 : (0 : Int32) = (0 : Int32) := by decide
    refine own_by (fun _ kS => XS.ifYes X27.here hx rfl (pc0 := 4) (pc' := 16) rfl (hb hby d23_4) rfl ((if0 _ _).trans (teq hb28).1) (by decide) (by decide) kS) ?_
    show own_Comes p e below s _ _ _ (T27.setTop (mkF m 16 #[.val (.ref r0), .val (.int (Int32.ofNat i))] []))
    refine own_by (fun _ kS => XS.aloadN X27.here hx rfl (hb hby d23_16) rfl rfl kS) ?_
    show own_Comes p e below s _ _ _ (T27.setTop (mkF m 17 #[.val (.ref r0), .val (.int (Int32.ofNat i))] [(.ref r0)]))
    obtain ⟨T29, X29, e29, st29⟩ := getF X27 hx hZ hown (host := "") (Or.inl (hw _ (List.mem_of_getElem? (i := 36) rfl))) Via.refl e27 Vr (g := (mkF m 17 #[.val (.ref r0), .val (.int (Int32.ofNat i))] [(.ref r0)])) rfl rfl (hb hby d23_17)
    refine own_by st29 ?_
    show own_Comes p e below s _ _ _ (T29.setTop (mkF m 20 #[.val (.ref r0), .val (.int (Int32.ofNat i))] [(.ref tr)]))
    refine own_by (fun _ kS => XS.iloadN X29.here hx rfl (hb hby d23_20) rfl kS) ?_
    show own_Comes p e below s _ _ _ (T29.setTop (mkF m 21 #[.val (.ref r0), .val (.int (Int32.ofNat i))] [(.int (Int32.ofNat i)), (.ref tr)]))
    obtain ⟨vv30, _, ⟨T30, L30, k30, n30⟩, -, X30, ⟨Lc30, hQ30, l30, y30, z30⟩, st30⟩ := Jvm.LawKit.callS X29 hx (y := (⟨"java/lang/StringUTF16", "charAt", "([BI)C"⟩ : MethodName)) hown (mvT hZ (hw _ (List.mem_of_getElem? (i := 100) rfl))) (mvT hZ (hw _ (List.mem_of_getElem? (i := 101) rfl))) (mvT hZ (hw _ (List.mem_of_getElem? (i := 25) rfl))) (mvT hZ (hw _ (List.mem_of_getElem? (i := 102) rfl))) (by decide) (backOf (W := 0) (rm25 l Z a0 hw [] tr i kr cs fm h0 n0 Z0 O0 Sf i_fm Sd Sh Sl Ar Lr hi Br) hZ (hw _ (List.mem_of_getElem? (i := 102) rfl)) (hw _ (List.mem_of_getElem? (i := 25) rfl)) (by decide) (by decide)) (g := (mkF m 21 #[.val (.ref r0), .val (.int (Int32.ofNat i))] [(.int (Int32.ofNat i)), (.ref tr)])) rfl (by rw [hml]; rfl) (argsL := [(.ref tr), (.int (Int32.ofNat i))]) (rest := []) (lenOf pd___BI_C_378 rfl) rfl (by show 2 * 0 + _ ≤ _; exact Nat.le_of_eq rfl) (hb hby d23_21) (fun _ _ => ⟨rfl, e29, (by decide : 0 + 0 ≤ _), (by decide : 0 + 0 ≤ _)⟩)
    dsimp only [Pt.U, Pt.locs, Pt.cells, Pt.slots] at X30 l30 y30 z30 st30 hQ30
    subst l30 y30 z30
    obtain ⟨rfl, N30q, e30q⟩ := hQ30
    have N30 := Fr.app N27 N30q
    refine own_by st30 ?_
    have e30 : T30.heap = h0 := e30q
    show own_Comes p e below s _ _ _ (T30.setTop (mkF m 24 #[.val (.ref r0), .val (.int (Int32.ofNat i))] [(.int (cs.getD i 0))]))
    refine own_ret X30 (v := some (.int (nar .char (cs.getD i 0)))) (fun h => by rw [Bd.returns] at h; cases h) Bd.notSynchronized (by decide) (by decide) ?_ (fun fs hr => retN X30 hx (t := .char) Bd.returns (by simp) (hb hby d23_24) hr)
    rw [e30]; exact ⟨congrArg (fun z => some (Value.int z)) (own_nar16 (Br _ (own_mem hi))), N30, rfl⟩
def Q7 (Z : State) (r2 : Addr) (cs : List Int32) (h0 : Heap) (n0 : Nat) (v : Option Value) (h : Heap) (L : List Loc) : Prop := ∃ k : Nat, v = some (.int (Int32.ofNat k)) ∧ Fr n0 L ∧ Keep h0 h [r2] ∧ k < cs.length ∧ (255 : Int32) < cs.getD k 0
theorem ef_rm7 (m : MethodId) (x0 : Addr) (x1 : Int32) (x2 : Addr) (x3 : Int32) (x4 : Int32) : entryFrame m #[(.ref x0), (.int x1), (.ref x2), (.int x3), (.int x4)] 7 = mkF m 0 #[.val (.ref x0), .val (.int x1), .val (.ref x2), .val (.int x3), .val (.int x4), .unset, .unset] [] := by first | (simp [entryFrame, mkF, argsToLocals, Value.category]; done) | rfl
theorem d7_3 : decode jdk_52_method_21_code 3 = .ok (.iload 5, 2) := by decide +kernel
theorem d7_5 : decode jdk_52_method_21_code 5 = .ok (.iload 4, 2) := by decide +kernel
theorem d7_7 : decode jdk_52_method_21_code 7 = .ok (.if_icmp .ge 37, 3) := by decide +kernel
theorem d7_10 : decode jdk_52_method_21_code 10 = .ok (.aload_n 0, 1) := by decide +kernel
theorem d7_11 : decode jdk_52_method_21_code 11 = .ok (.iload_n 1, 1) := by decide +kernel
theorem d7_12 : decode jdk_52_method_21_code 12 = .ok (.caload, 1) := by decide +kernel
theorem d7_13 : decode jdk_52_method_21_code 13 = .ok (.istore 6, 2) := by decide +kernel
theorem d7_15 : decode jdk_52_method_21_code 15 = .ok (.iload 6, 2) := by decide +kernel
theorem d7_17 : decode jdk_52_method_21_code 17 = .ok (.sipush 255, 3) := by decide +kernel
theorem d7_20 : decode jdk_52_method_21_code 20 = .ok (.if_icmp .le 6, 3) := by decide +kernel
theorem d7_23 : decode jdk_52_method_21_code 23 = .ok (.iload 5, 2) := by decide +kernel
theorem d7_25 : decode jdk_52_method_21_code 25 = .ok (.ireturn, 1) := by decide +kernel
theorem d7_26 : decode jdk_52_method_21_code 26 = .ok (.aload_n 2, 1) := by decide +kernel
theorem d7_27 : decode jdk_52_method_21_code 27 = .ok (.iload_n 3, 1) := by decide +kernel
theorem d7_28 : decode jdk_52_method_21_code 28 = .ok (.iload 6, 2) := by decide +kernel
theorem d7_30 : decode jdk_52_method_21_code 30 = .ok (.i2b, 1) := by decide +kernel
theorem d7_31 : decode jdk_52_method_21_code 31 = .ok (.bastore, 1) := by decide +kernel
theorem d7_32 : decode jdk_52_method_21_code 32 = .ok (.iinc 1 1, 3) := by decide +kernel
theorem d7_35 : decode jdk_52_method_21_code 35 = .ok (.iinc 3 1, 3) := by decide +kernel
theorem d7_38 : decode jdk_52_method_21_code 38 = .ok (.iinc 5 1, 3) := by decide +kernel
theorem d7_41 : decode jdk_52_method_21_code 41 = .ok (.goto (-38), 3) := by decide +kernel
theorem d7_0 : decode jdk_52_method_21_code 0 = .ok (.iconst 0, 1) := by decide +kernel
theorem d7_1 : decode jdk_52_method_21_code 1 = .ok (.istore 5, 2) := by decide +kernel
set_option maxRecDepth 65536 in
set_option maxHeartbeats 40000000 in
theorem rm7 (l : Launch) (Z : State) (a0 : Array Value) (hw : ∀ d ∈ tables_1, d.before a0 Z = true) (ws : List Jvm.Cond) (r0 r2 : Addr) (kc kd : ClassId) (cs : List Int32) (ds : List Value) (h0 : Heap) (n0 : Nat) (Z0 : n0 ≤ h0.size) (Vs : Arv Z h0 r0 kc .char (Int32.ofNat cs.length) (cs.map Value.int) (.int 0)) (Vd : Arv Z h0 r2 kd .byte (Int32.ofNat cs.length) ds (.int 0)) (hds : ds.length = cs.length) (nA : r0 ≠ r2) (g_r2 : n0 ≤ r2) (Hw : ∃ c ∈ cs, (255 : Int32) < c) (hl : cs.length ≤ 129) :
    MetFree l (⟨"java/lang/StringUTF16", "compress", "([CI[BII)I"⟩ : MethodName) (head1 (Jvm.Cond.code (⟨"java/lang/StringUTF16", "compress", "([CI[BII)I"⟩ : MethodName) jdk_52_method_21_code 7 (some .int) :: ws) ({ frames := 0, cells := 0, slots := 0, locals := 0 } : Room)) (fun aX UX => aX = #[(.ref r0), (.int (0 : Int32)), (.ref r2), (.int (0 : Int32)), (.int (Int32.ofNat cs.length))] ∧ Z.Warmed39 UX.vm ∧ UX.heap = h0) (fun _ _ _ _ _ => True) (fun _ UX oX UX' => ∃ vX LX, oX = .returned vX ∧ Q7 Z r2 cs h0 n0 vX UX'.heap LX ∧ FrameEnd UX oX UX' LX ({ frames := 0, cells := 0, slots := 0, locals := 0 } : Room).cells ({ frames := 0, cells := 0, slots := 0, locals := 0 } : Room).slots) := by
  refine MetFree.of_bodySF (plainFor_of_name pn_java_lang_StringUTF16) hisR ?_
  intro p e s m args below meth c s₁ Bd hml0 hP hK
  obtain ⟨rfl, hZ, hh⟩ := hP
  have hx := Bd.exec
  have hby := Bd.bytes
  have hml : c.maxLocals = 7 := hml0
  have hown : s.vm.findClass "java/lang/StringUTF16" = some m.cls := findClass_of_methodNamed Bd.named
  have hnm := (name_of_methodNamed Bd.named Bd.method).1
  have X0 : Stand p l e ({ frames := 0, cells := 0, slots := 0, locals := 0 } : Room) s m #[(.ref r0), (.int (0 : Int32)), (.ref r2), (.int (0 : Int32)), (.int (Int32.ofNat cs.length))] below meth c s₁ [] 0 0 := Stand.of_body Bd
  have e0 : s₁.heap = h0 := by rw [← hh, Bd.state]; rfl
  have N0 := Fr.nil n0
  show own_Comes p e below s ({ frames := 0, cells := 0, slots := 0, locals := 0 } : Room).cells ({ frames := 0, cells := 0, slots := 0, locals := 0 } : Room).slots (Q7 Z r2 cs h0 n0) _
  rw [show entryFrame m #[(.ref r0), (.int (0 : Int32)), (.ref r2), (.int (0 : Int32)), (.int (Int32.ofNat cs.length))] 7 = mkF m 0 #[.val (.ref r0), .val (.int (0 : Int32)), .val (.ref r2), .val (.int (0 : Int32)), .val (.int (Int32.ofNat cs.length)), .unset, .unset] [] from ef_rm7 m r0 (0 : Int32) r2 (0 : Int32) (Int32.ofNat cs.length)]
  show own_Comes p e below s _ _ _ (s₁.setTop (mkF m 0 #[.val (.ref r0), .val (.int (0 : Int32)), .val (.ref r2), .val (.int (0 : Int32)), .val (.int (Int32.ofNat cs.length)), .unset, .unset] []))
  have J3 : ∀ (r : Nat) (i : Nat) (ds : List Value) (sl : Slot) (TJ3 : State) (hJ3 : Heap) (LJ3 : List Loc), (cs.length < i + r) → (sl = .unset ∨ ∃ w : Value, sl = .val w ∧ w.category = 1) → (i ≤ cs.length) → (∀ j, j < i → ¬ (255 : Int32) < cs.getD j 0) → (Keep h0 hJ3 [r2]) → (Arv Z hJ3 r2 kd .byte (Int32.ofNat cs.length) ds (.int 0)) → (ds.length = cs.length) → (Arv Z hJ3 r0 kc .char (Int32.ofNat cs.length) (cs.map Value.int) (.int 0)) → Stand p l e ({ frames := 0, cells := 0, slots := 0, locals := 0 } : Room) s m #[(.ref r0), (.int (0 : Int32)), (.ref r2), (.int (0 : Int32)), (.int (Int32.ofNat cs.length))] below meth c TJ3 LJ3 0 0 → TJ3.heap = hJ3 → Fr n0 LJ3 → n0 ≤ hJ3.size → own_Comes p e below s ({ frames := 0, cells := 0, slots := 0, locals := 0 } : Room).cells ({ frames := 0, cells := 0, slots := 0, locals := 0 } : Room).slots (Q7 Z r2 cs h0 n0) (TJ3.setTop (mkF m 3 #[.val (.ref r0), .val (.int (Int32.ofNat i)), .val (.ref r2), .val (.int (Int32.ofNat i)), .val (.int (Int32.ofNat cs.length)), .val (.int (Int32.ofNat i)), sl] [])) := by
    intro r
    induction r with
    | zero => intro i ds sl TJ3 hJ3 LJ3 hrJ3 hO_sl hiL hj KJ Vd hds VsJ XJ3 eJ3 NJ3 ZJ3; omega
    | succ r ih =>
      intro i ds sl TJ3 hJ3 LJ3 hrJ3 hO_sl hiL hj KJ Vd hds VsJ XJ3 eJ3 NJ3 ZJ3
      show own_Comes p e below s _ _ _ (TJ3.setTop (mkF m 3 #[.val (.ref r0), .val (.int (Int32.ofNat i)), .val (.ref r2), .val (.int (Int32.ofNat i)), .val (.int (Int32.ofNat cs.length)), .val (.int (Int32.ofNat i)), sl] []))
      have hi := own_first Hw hj hiL
      refine own_by (fun _ kS => XS.iload XJ3.here hx rfl (hb hby d7_3) rfl kS) ?_
      show own_Comes p e below s _ _ _ (TJ3.setTop (mkF m 5 #[.val (.ref r0), .val (.int (Int32.ofNat i)), .val (.ref r2), .val (.int (Int32.ofNat i)), .val (.int (Int32.ofNat cs.length)), .val (.int (Int32.ofNat i)), sl] [(.int (Int32.ofNat i))]))
      refine own_by (fun _ kS => XS.iload XJ3.here hx rfl (hb hby d7_5) rfl kS) ?_
      show own_Comes p e below s _ _ _ (TJ3.setTop (mkF m 7 #[.val (.ref r0), .val (.int (Int32.ofNat i)), .val (.ref r2), .val (.int (Int32.ofNat i)), .val (.int (Int32.ofNat cs.length)), .val (.int (Int32.ofNat i)), sl] [(.int (Int32.ofNat cs.length)), (.int (Int32.ofNat i))]))
      have hb31 : (Int32.ofNat i) < (Int32.ofNat cs.length) := (own_lt (by omega) (by omega)).mpr hi
      refine own_by (fun _ kS => XS.icmpNo XJ3.here hx rfl (hb hby d7_7) rfl (tlt hb31).2.1 kS) ?_
      show own_Comes p e below s _ _ _ (TJ3.setTop (mkF m 10 #[.val (.ref r0), .val (.int (Int32.ofNat i)), .val (.ref r2), .val (.int (Int32.ofNat i)), .val (.int (Int32.ofNat cs.length)), .val (.int (Int32.ofNat i)), sl] []))
      refine own_by (fun _ kS => XS.aloadN XJ3.here hx rfl (hb hby d7_10) rfl rfl kS) ?_
      show own_Comes p e below s _ _ _ (TJ3.setTop (mkF m 11 #[.val (.ref r0), .val (.int (Int32.ofNat i)), .val (.ref r2), .val (.int (Int32.ofNat i)), .val (.int (Int32.ofNat cs.length)), .val (.int (Int32.ofNat i)), sl] [(.ref r0)]))
      refine own_by (fun _ kS => XS.iloadN XJ3.here hx rfl (hb hby d7_11) rfl kS) ?_
      show own_Comes p e below s _ _ _ (TJ3.setTop (mkF m 12 #[.val (.ref r0), .val (.int (Int32.ofNat i)), .val (.ref r2), .val (.int (Int32.ofNat i)), .val (.int (Int32.ofNat cs.length)), .val (.int (Int32.ofNat i)), sl] [(.int (Int32.ofNat i)), (.ref r0)]))
      have Vo32 := VsJ
      obtain ⟨cl32, Ar32, qA32, SA32, NA32, HA32, GA32⟩ := Vo32
      have hin32 : ¬ ((Int32.ofNat i) < 0 ∨ cl32.slots.size ≤ ((Int32.ofNat i)).toNatClampNeg) := own_inb SA32 (by omega) hi
      have hat32 : cl32.slots[((Int32.ofNat i)).toNatClampNeg]? = some (.int (cs.getD i 0)) := HA32.at hin32 (by rw [own_tn (by omega)]; exact own_char hi)
      refine own_by (fun _ kS => XJ3.caload hx (j := (Int32.ofNat i)) (v := (.int (cs.getD i 0))) (by rw [eJ3]; exact Ar32.1) (State.isArrayOf_alike hZ.alike Ar32.2.1) Ar32.2.2 hin32 hat32 (g := (mkF m 12 #[.val (.ref r0), .val (.int (Int32.ofNat i)), .val (.ref r2), .val (.int (Int32.ofNat i)), .val (.int (Int32.ofNat cs.length)), .val (.int (Int32.ofNat i)), sl] [(.int (Int32.ofNat i)), (.ref r0)])) rfl rfl (hb hby d7_12) _ kS) ?_
      show own_Comes p e below s _ _ _ (TJ3.setTop (mkF m 13 #[.val (.ref r0), .val (.int (Int32.ofNat i)), .val (.ref r2), .val (.int (Int32.ofNat i)), .val (.int (Int32.ofNat cs.length)), .val (.int (Int32.ofNat i)), sl] [(.int (cs.getD i 0))]))
      refine own_by (fun _ kS => XS.istore XJ3.here hx rfl (hb hby d7_13) rfl (l' := #[.val (.ref r0), .val (.int (Int32.ofNat i)), .val (.ref r2), .val (.int (Int32.ofNat i)), .val (.int (Int32.ofNat cs.length)), .val (.int (Int32.ofNat i)), .val (.int (cs.getD i 0))]) (by first | rfl | (rcases hO_sl with rfl | ⟨w, rfl, hw⟩ <;> first | rfl | (cases w <;> first | rfl | (simp [Value.category] at hw)))) kS) ?_
      show own_Comes p e below s _ _ _ (TJ3.setTop (mkF m 15 #[.val (.ref r0), .val (.int (Int32.ofNat i)), .val (.ref r2), .val (.int (Int32.ofNat i)), .val (.int (Int32.ofNat cs.length)), .val (.int (Int32.ofNat i)), .val (.int (cs.getD i 0))] []))
      refine own_by (fun _ kS => XS.iload XJ3.here hx rfl (hb hby d7_15) rfl kS) ?_
      show own_Comes p e below s _ _ _ (TJ3.setTop (mkF m 17 #[.val (.ref r0), .val (.int (Int32.ofNat i)), .val (.ref r2), .val (.int (Int32.ofNat i)), .val (.int (Int32.ofNat cs.length)), .val (.int (Int32.ofNat i)), .val (.int (cs.getD i 0))] [(.int (cs.getD i 0))]))
      refine own_by (fun _ kS => XS.sipush XJ3.here hx rfl (hb hby d7_17) kS) ?_
      show own_Comes p e below s _ _ _ (TJ3.setTop (mkF m 20 #[.val (.ref r0), .val (.int (Int32.ofNat i)), .val (.ref r2), .val (.int (Int32.ofNat i)), .val (.int (Int32.ofNat cs.length)), .val (.int (Int32.ofNat i)), .val (.int (cs.getD i 0))] [(.int (255 : Int32)), (.int (cs.getD i 0))]))
      by_cases hbig : (255 : Int32) < (cs.getD i 0)
      · refine own_by (fun _ kS => XS.icmpNo XJ3.here hx rfl (hb hby d7_20) rfl (tlt hbig).2.2.2 kS) ?_
        show own_Comes p e below s _ _ _ (TJ3.setTop (mkF m 23 #[.val (.ref r0), .val (.int (Int32.ofNat i)), .val (.ref r2), .val (.int (Int32.ofNat i)), .val (.int (Int32.ofNat cs.length)), .val (.int (Int32.ofNat i)), .val (.int (cs.getD i 0))] []))
        refine own_by (fun _ kS => XS.iload XJ3.here hx rfl (hb hby d7_23) rfl kS) ?_
        show own_Comes p e below s _ _ _ (TJ3.setTop (mkF m 25 #[.val (.ref r0), .val (.int (Int32.ofNat i)), .val (.ref r2), .val (.int (Int32.ofNat i)), .val (.int (Int32.ofNat cs.length)), .val (.int (Int32.ofNat i)), .val (.int (cs.getD i 0))] [(.int (Int32.ofNat i))]))
        refine own_ret XJ3 (v := some (.int (Int32.ofNat i))) (fun h => by rw [Bd.returns] at h; cases h) Bd.notSynchronized (by decide) (by decide) ?_ (fun fs hr => retI XJ3 hx Bd.returns (hb hby d7_25) hr)
        rw [eJ3]; exact ⟨i, rfl, NJ3, KJ, hi, hbig⟩
      · refine own_by (fun _ kS => XS.icmpYes XJ3.here hx rfl (pc0 := 20) (pc' := 26) rfl (hb hby d7_20) rfl (flt hbig).2.2.2 (by decide) (by decide) kS) ?_
        show own_Comes p e below s _ _ _ (TJ3.setTop (mkF m 26 #[.val (.ref r0), .val (.int (Int32.ofNat i)), .val (.ref r2), .val (.int (Int32.ofNat i)), .val (.int (Int32.ofNat cs.length)), .val (.int (Int32.ofNat i)), .val (.int (cs.getD i 0))] []))
        refine own_by (fun _ kS => XS.aloadN XJ3.here hx rfl (hb hby d7_26) rfl rfl kS) ?_
        show own_Comes p e below s _ _ _ (TJ3.setTop (mkF m 27 #[.val (.ref r0), .val (.int (Int32.ofNat i)), .val (.ref r2), .val (.int (Int32.ofNat i)), .val (.int (Int32.ofNat cs.length)), .val (.int (Int32.ofNat i)), .val (.int (cs.getD i 0))] [(.ref r2)]))
        refine own_by (fun _ kS => XS.iloadN XJ3.here hx rfl (hb hby d7_27) rfl kS) ?_
        show own_Comes p e below s _ _ _ (TJ3.setTop (mkF m 28 #[.val (.ref r0), .val (.int (Int32.ofNat i)), .val (.ref r2), .val (.int (Int32.ofNat i)), .val (.int (Int32.ofNat cs.length)), .val (.int (Int32.ofNat i)), .val (.int (cs.getD i 0))] [(.int (Int32.ofNat i)), (.ref r2)]))
        refine own_by (fun _ kS => XS.iload XJ3.here hx rfl (hb hby d7_28) rfl kS) ?_
        show own_Comes p e below s _ _ _ (TJ3.setTop (mkF m 30 #[.val (.ref r0), .val (.int (Int32.ofNat i)), .val (.ref r2), .val (.int (Int32.ofNat i)), .val (.int (Int32.ofNat cs.length)), .val (.int (Int32.ofNat i)), .val (.int (cs.getD i 0))] [(.int (cs.getD i 0)), (.int (Int32.ofNat i)), (.ref r2)]))
        refine own_by (fun _ kS => XS.i2b XJ3.here hx rfl (hb hby d7_30) rfl kS) ?_
        show own_Comes p e below s _ _ _ (TJ3.setTop (mkF m 31 #[.val (.ref r0), .val (.int (Int32.ofNat i)), .val (.ref r2), .val (.int (Int32.ofNat i)), .val (.int (Int32.ofNat cs.length)), .val (.int (Int32.ofNat i)), .val (.int (cs.getD i 0))] [(.int ((cs.getD i 0).toInt8.toInt32)), (.int (Int32.ofNat i)), (.ref r2)]))
        have Vo33 := Vd
        obtain ⟨cl33, Ar33, qA33, SA33, NA33, HA33, GA33⟩ := Vo33
        have hin33 : ¬ ((Int32.ofNat i) < 0 ∨ cl33.slots.size ≤ ((Int32.ofNat i)).toNatClampNeg) := own_inb SA33 (by omega) hi
        obtain ⟨T34, h34, X34, e34, W34, st34⟩ := stB XJ3 hx hZ eJ3 Ar33 (j := (Int32.ofNat i)) hin33 (g := (mkF m 31 #[.val (.ref r0), .val (.int (Int32.ofNat i)), .val (.ref r2), .val (.int (Int32.ofNat i)), .val (.int (Int32.ofNat cs.length)), .val (.int (Int32.ofNat i)), .val (.int (cs.getD i 0))] [(.int ((cs.getD i 0).toInt8.toInt32)), (.int (Int32.ofNat i)), (.ref r2)])) rfl rfl (hb hby d7_31)
        refine own_by st34 ?_
        have V34 : Arv Z h34 r2 kd .byte (Int32.ofNat cs.length) (ds.set i (.int ((cs.getD i 0).toInt8.toInt32.toInt8.toInt32))) (.int 0) := Arv.set Ar33 qA33 SA33 NA33 HA33 GA33 (by first | rfl | exact fits_nar_byte _) W34 i (own_tn (by omega)) (by omega)
        have N34 := Fr.snoc X34 NJ3 g_r2
        show own_Comes p e below s _ _ _ (T34.setTop (mkF m 32 #[.val (.ref r0), .val (.int (Int32.ofNat i)), .val (.ref r2), .val (.int (Int32.ofNat i)), .val (.int (Int32.ofNat cs.length)), .val (.int (Int32.ofNat i)), .val (.int (cs.getD i 0))] []))
        refine own_by (fun _ kS => XS.iinc X34.here hx rfl (hb hby d7_32) rfl (l' := #[.val (.ref r0), .val (.int ((Int32.ofNat i) + (1 : Int32))), .val (.ref r2), .val (.int (Int32.ofNat i)), .val (.int (Int32.ofNat cs.length)), .val (.int (Int32.ofNat i)), .val (.int (cs.getD i 0))]) rfl kS) ?_
        show own_Comes p e below s _ _ _ (T34.setTop (mkF m 35 #[.val (.ref r0), .val (.int ((Int32.ofNat i) + (1 : Int32))), .val (.ref r2), .val (.int (Int32.ofNat i)), .val (.int (Int32.ofNat cs.length)), .val (.int (Int32.ofNat i)), .val (.int (cs.getD i 0))] []))
        refine own_by (fun _ kS => XS.iinc X34.here hx rfl (hb hby d7_35) rfl (l' := #[.val (.ref r0), .val (.int ((Int32.ofNat i) + (1 : Int32))), .val (.ref r2), .val (.int ((Int32.ofNat i) + (1 : Int32))), .val (.int (Int32.ofNat cs.length)), .val (.int (Int32.ofNat i)), .val (.int (cs.getD i 0))]) rfl kS) ?_
        show own_Comes p e below s _ _ _ (T34.setTop (mkF m 38 #[.val (.ref r0), .val (.int ((Int32.ofNat i) + (1 : Int32))), .val (.ref r2), .val (.int ((Int32.ofNat i) + (1 : Int32))), .val (.int (Int32.ofNat cs.length)), .val (.int (Int32.ofNat i)), .val (.int (cs.getD i 0))] []))
        refine own_by (fun _ kS => XS.iinc X34.here hx rfl (hb hby d7_38) rfl (l' := #[.val (.ref r0), .val (.int ((Int32.ofNat i) + (1 : Int32))), .val (.ref r2), .val (.int ((Int32.ofNat i) + (1 : Int32))), .val (.int (Int32.ofNat cs.length)), .val (.int ((Int32.ofNat i) + (1 : Int32))), .val (.int (cs.getD i 0))]) rfl kS) ?_
        show own_Comes p e below s _ _ _ (T34.setTop (mkF m 41 #[.val (.ref r0), .val (.int ((Int32.ofNat i) + (1 : Int32))), .val (.ref r2), .val (.int ((Int32.ofNat i) + (1 : Int32))), .val (.int (Int32.ofNat cs.length)), .val (.int ((Int32.ofNat i) + (1 : Int32))), .val (.int (cs.getD i 0))] []))
        rw [show ((Int32.ofNat i) + (1 : Int32)) = (Int32.ofNat (i + 1)) from own_succ (by omega)]
        show own_Comes p e below s _ _ _ (T34.setTop (mkF m 41 #[.val (.ref r0), .val (.int (Int32.ofNat (i + 1))), .val (.ref r2), .val (.int (Int32.ofNat (i + 1))), .val (.int (Int32.ofNat cs.length)), .val (.int (Int32.ofNat (i + 1))), .val (.int (cs.getD i 0))] []))
        refine own_by (fun _ kS => XS.goto X34.here hx rfl (pc0 := 41) (pc' := 3) rfl (hb hby d7_41) (by decide) (by decide) kS) ?_
        show own_Comes p e below s _ _ _ (T34.setTop (mkF m 3 #[.val (.ref r0), .val (.int (Int32.ofNat (i + 1))), .val (.ref r2), .val (.int (Int32.ofNat (i + 1))), .val (.int (Int32.ofNat cs.length)), .val (.int (Int32.ofNat (i + 1))), .val (.int (cs.getD i 0))] []))
        exact ih (i + 1) _ _ _ _ _ (by omega) (Or.inr ⟨_, rfl, rfl⟩) (by omega) (own_next hj hbig) (KJ.wr W34 (Or.inl (List.mem_of_getElem? (i := 0) rfl))) V34 (by rw [List.length_set]; exact hds) (VsJ.other W34 nA) (X34.more (by decide) (by decide)) e34 N34  (Nat.le_trans ZJ3 (Keep.of_wr W34).1)
  refine own_by (fun _ kS => XS.iconst X0.here hx rfl (hb hby d7_0) kS) ?_
  show own_Comes p e below s _ _ _ (s₁.setTop (mkF m 1 #[.val (.ref r0), .val (.int (0 : Int32)), .val (.ref r2), .val (.int (0 : Int32)), .val (.int (Int32.ofNat cs.length)), .unset, .unset] [(.int (0 : Int32))]))
  refine own_by (fun _ kS => XS.istore X0.here hx rfl (hb hby d7_1) rfl (l' := #[.val (.ref r0), .val (.int (0 : Int32)), .val (.ref r2), .val (.int (0 : Int32)), .val (.int (Int32.ofNat cs.length)), .val (.int (0 : Int32)), .unset]) rfl kS) ?_
  show own_Comes p e below s _ _ _ (s₁.setTop (mkF m 3 #[.val (.ref r0), .val (.int (0 : Int32)), .val (.ref r2), .val (.int (0 : Int32)), .val (.int (Int32.ofNat cs.length)), .val (.int (0 : Int32)), .unset] []))
  exact J3 (cs.length + 1) 0 _ _ _ _ _ (by omega) (Or.inl rfl) (by omega) (fun j hj => absurd hj (by omega)) (Keep.refl _ _) Vd hds Vs (X0.more (by decide) (by decide)) e0 N0  Z0
def Q14 (Z : State) (n : Nat) (h0 : Heap) (n0 : Nat) (v : Option Value) (h : Heap) (L : List Loc) : Prop := v = some (.int (Int32.ofNat (2 * n))) ∧ Fr n0 L ∧ h = h0
theorem ef_rm14 (m : MethodId) (x0 : Int32) : entryFrame m #[(.int x0)] 1 = mkF m 0 #[.val (.int x0)] [] := by first | (simp [entryFrame, mkF, argsToLocals, Value.category]; done) | rfl
theorem d14_0 : decode jdk_52_method_3_code 0 = .ok (.iload_n 0, 1) := by decide +kernel
theorem d14_1 : decode jdk_52_method_3_code 1 = .ok (.ifCond .ge 11, 3) := by decide +kernel
theorem d14_12 : decode jdk_52_method_3_code 12 = .ok (.iload_n 0, 1) := by decide +kernel
theorem d14_13 : decode jdk_52_method_3_code 13 = .ok (.ldc 20, 2) := by decide +kernel
theorem d14_15 : decode jdk_52_method_3_code 15 = .ok (.if_icmp .lt 40, 3) := by decide +kernel
theorem d14_55 : decode jdk_52_method_3_code 55 = .ok (.iload_n 0, 1) := by decide +kernel
theorem d14_56 : decode jdk_52_method_3_code 56 = .ok (.iconst 1, 1) := by decide +kernel
theorem d14_57 : decode jdk_52_method_3_code 57 = .ok (.ishl, 1) := by decide +kernel
theorem d14_58 : decode jdk_52_method_3_code 58 = .ok (.ireturn, 1) := by decide +kernel
set_option maxRecDepth 65536 in
set_option maxHeartbeats 40000000 in
theorem rm14 (l : Launch) (Z : State) (a0 : Array Value) (hw : ∀ d ∈ tables_1, d.before a0 Z = true) (ws : List Jvm.Cond) (n : Nat) (h0 : Heap) (n0 : Nat) (Z0 : n0 ≤ h0.size) (hl : n ≤ 129) :
    MetFree l (⟨"java/lang/StringUTF16", "newBytesLength", "(I)I"⟩ : MethodName) (head1 (Jvm.Cond.code (⟨"java/lang/StringUTF16", "newBytesLength", "(I)I"⟩ : MethodName) jdk_52_method_3_code 1 (some .int) :: ws) ({ frames := 0, cells := 0, slots := 0, locals := 0 } : Room)) (fun aX UX => aX = #[(.int (Int32.ofNat n))] ∧ Z.Warmed39 UX.vm ∧ UX.heap = h0) (fun _ _ _ _ _ => True) (fun _ UX oX UX' => ∃ vX LX, oX = .returned vX ∧ Q14 Z n h0 n0 vX UX'.heap LX ∧ FrameEnd UX oX UX' LX ({ frames := 0, cells := 0, slots := 0, locals := 0 } : Room).cells ({ frames := 0, cells := 0, slots := 0, locals := 0 } : Room).slots) := by
  refine MetFree.of_bodySF (plainFor_of_name pn_java_lang_StringUTF16) hisR ?_
  intro p e s m args below meth c s₁ Bd hml0 hP hK
  obtain ⟨rfl, hZ, hh⟩ := hP
  have hx := Bd.exec
  have hby := Bd.bytes
  have hml : c.maxLocals = 1 := hml0
  have hown : s.vm.findClass "java/lang/StringUTF16" = some m.cls := findClass_of_methodNamed Bd.named
  have hnm := (name_of_methodNamed Bd.named Bd.method).1
  have X0 : Stand p l e ({ frames := 0, cells := 0, slots := 0, locals := 0 } : Room) s m #[(.int (Int32.ofNat n))] below meth c s₁ [] 0 0 := Stand.of_body Bd
  have e0 : s₁.heap = h0 := by rw [← hh, Bd.state]; rfl
  have N0 := Fr.nil n0
  show own_Comes p e below s ({ frames := 0, cells := 0, slots := 0, locals := 0 } : Room).cells ({ frames := 0, cells := 0, slots := 0, locals := 0 } : Room).slots (Q14 Z n h0 n0) _
  rw [show entryFrame m #[(.int (Int32.ofNat n))] 1 = mkF m 0 #[.val (.int (Int32.ofNat n))] [] from ef_rm14 m (Int32.ofNat n)]
  show own_Comes p e below s _ _ _ (s₁.setTop (mkF m 0 #[.val (.int (Int32.ofNat n))] []))
  refine own_by (fun _ kS => XS.iloadN X0.here hx rfl (hb hby d14_0) rfl kS) ?_
  show own_Comes p e below s _ _ _ (s₁.setTop (mkF m 1 #[.val (.int (Int32.ofNat n))] [(.int (Int32.ofNat n))]))
  have hb35 : ¬ ((Int32.ofNat n) < (0 : Int32)) := own_neg (by omega)
  refine own_by (fun _ kS => XS.ifYes X0.here hx rfl (pc0 := 1) (pc' := 12) rfl (hb hby d14_1) rfl ((if0 _ _).trans (flt hb35).2.1) (by decide) (by decide) kS) ?_
  show own_Comes p e below s _ _ _ (s₁.setTop (mkF m 12 #[.val (.int (Int32.ofNat n))] []))
  refine own_by (fun _ kS => XS.iloadN X0.here hx rfl (hb hby d14_12) rfl kS) ?_
  show own_Comes p e below s _ _ _ (s₁.setTop (mkF m 13 #[.val (.int (Int32.ofNat n))] [(.int (Int32.ofNat n))]))
  refine own_by (fun _ kS => X0.ldcInt hx hown (mvT hZ (hw _ (List.mem_of_getElem? (i := 60) rfl))) (g := (mkF m 13 #[.val (.int (Int32.ofNat n))] [(.int (Int32.ofNat n))])) rfl (hb hby d14_13) _ kS) ?_
  show own_Comes p e below s _ _ _ (s₁.setTop (mkF m 15 #[.val (.int (Int32.ofNat n))] [(.int (1073741823 : Int32)), (.int (Int32.ofNat n))]))
  have hb36 : (Int32.ofNat n) < (1073741823 : Int32) := own_big (by omega)
  refine own_by (fun _ kS => XS.icmpYes X0.here hx rfl (pc0 := 15) (pc' := 55) rfl (hb hby d14_15) rfl (tlt hb36).1 (by decide) (by decide) kS) ?_
  show own_Comes p e below s _ _ _ (s₁.setTop (mkF m 55 #[.val (.int (Int32.ofNat n))] []))
  refine own_by (fun _ kS => XS.iloadN X0.here hx rfl (hb hby d14_55) rfl kS) ?_
  show own_Comes p e below s _ _ _ (s₁.setTop (mkF m 56 #[.val (.int (Int32.ofNat n))] [(.int (Int32.ofNat n))]))
  refine own_by (fun _ kS => XS.iconst X0.here hx rfl (hb hby d14_56) kS) ?_
  show own_Comes p e below s _ _ _ (s₁.setTop (mkF m 57 #[.val (.int (Int32.ofNat n))] [(.int (1 : Int32)), (.int (Int32.ofNat n))]))
  refine own_by (fun _ kS => XS.ishl X0.here hx rfl (hb hby d14_57) rfl kS) ?_
  show own_Comes p e below s _ _ _ (s₁.setTop (mkF m 58 #[.val (.int (Int32.ofNat n))] [(.int ((Int32.ofNat n) <<< ((1 : Int32) &&& 31)))]))
  rw [show ((Int32.ofNat n) <<< ((1 : Int32) &&& 31)) = (Int32.ofNat (2 * n)) from own_shl (by omega)]
  show own_Comes p e below s _ _ _ (s₁.setTop (mkF m 58 #[.val (.int (Int32.ofNat n))] [(.int (Int32.ofNat (2 * n)))]))
  refine own_ret X0 (v := some (.int (Int32.ofNat (2 * n)))) (fun h => by rw [Bd.returns] at h; cases h) Bd.notSynchronized (by decide) (by decide) ?_ (fun fs hr => retI X0 hx Bd.returns (hb hby d14_58) hr)
  rw [e0]; exact ⟨rfl, N0, rfl⟩
def Q13 (Z : State) (n : Nat) (h0 : Heap) (n0 : Nat) (v : Option Value) (h : Heap) (L : List Loc) : Prop := ∃ (a : Addr) (kb : ClassId), v = some (.ref a) ∧ Fr n0 L ∧ Ext h0 h ∧ n0 ≤ a ∧ h0.size ≤ a ∧ Arv Z h a kb .byte (Int32.ofNat (2 * n)) (List.replicate (2 * n) (.int (0 : Int32))) (.int (0 : Int32))
theorem ef_rm13 (m : MethodId) (x0 : Int32) : entryFrame m #[(.int x0)] 1 = mkF m 0 #[.val (.int x0)] [] := by first | (simp [entryFrame, mkF, argsToLocals, Value.category]; done) | rfl
theorem d13_0 : decode jdk_52_method_2_code 0 = .ok (.iload_n 0, 1) := by decide +kernel
theorem pd__I_I_227 : parseMethodDescriptor "(I)I" = some ⟨[.int], some .int⟩ := by decide +kernel
theorem d13_1 : decode jdk_52_method_2_code 1 = .ok (.invokestatic 11, 3) := by decide +kernel
theorem d13_4 : decode jdk_52_method_2_code 4 = .ok (.newarray .byte, 2) := by decide +kernel
theorem d13_6 : decode jdk_52_method_2_code 6 = .ok (.areturn, 1) := by decide +kernel
set_option maxRecDepth 65536 in
set_option maxHeartbeats 40000000 in
theorem rm13 (l : Launch) (Z : State) (a0 : Array Value) (hw : ∀ d ∈ tables_1, d.before a0 Z = true) (ws : List Jvm.Cond) (n : Nat) (h0 : Heap) (n0 : Nat) (Z0 : n0 ≤ h0.size) (hl : n ≤ 129) :
    MetFree l (⟨"java/lang/StringUTF16", "newBytesFor", "(I)[B"⟩ : MethodName) (head1 (Jvm.Cond.code (⟨"java/lang/StringUTF16", "newBytesFor", "(I)[B"⟩ : MethodName) jdk_52_method_2_code 1 (some (.array .byte)) :: ws) ({ frames := 1, cells := 1, slots := 258, locals := 12 } : Room)) (fun aX UX => aX = #[(.int (Int32.ofNat n))] ∧ Z.Warmed39 UX.vm ∧ UX.heap = h0) (fun _ _ _ _ _ => True) (fun _ UX oX UX' => ∃ vX LX, oX = .returned vX ∧ Q13 Z n h0 n0 vX UX'.heap LX ∧ FrameEnd UX oX UX' LX ({ frames := 1, cells := 1, slots := 258, locals := 12 } : Room).cells ({ frames := 1, cells := 1, slots := 258, locals := 12 } : Room).slots) := by
  refine MetFree.of_bodySF (plainFor_of_name pn_java_lang_StringUTF16) hisR ?_
  intro p e s m args below meth c s₁ Bd hml0 hP hK
  obtain ⟨rfl, hZ, hh⟩ := hP
  have hx := Bd.exec
  have hby := Bd.bytes
  have hml : c.maxLocals = 1 := hml0
  have hown : s.vm.findClass "java/lang/StringUTF16" = some m.cls := findClass_of_methodNamed Bd.named
  have hnm := (name_of_methodNamed Bd.named Bd.method).1
  have X0 : Stand p l e ({ frames := 1, cells := 1, slots := 258, locals := 12 } : Room) s m #[(.int (Int32.ofNat n))] below meth c s₁ [] 0 0 := Stand.of_body Bd
  have e0 : s₁.heap = h0 := by rw [← hh, Bd.state]; rfl
  have N0 := Fr.nil n0
  show own_Comes p e below s ({ frames := 1, cells := 1, slots := 258, locals := 12 } : Room).cells ({ frames := 1, cells := 1, slots := 258, locals := 12 } : Room).slots (Q13 Z n h0 n0) _
  rw [show entryFrame m #[(.int (Int32.ofNat n))] 1 = mkF m 0 #[.val (.int (Int32.ofNat n))] [] from ef_rm13 m (Int32.ofNat n)]
  show own_Comes p e below s _ _ _ (s₁.setTop (mkF m 0 #[.val (.int (Int32.ofNat n))] []))
  refine own_by (fun _ kS => XS.iloadN X0.here hx rfl (hb hby d13_0) rfl kS) ?_
  show own_Comes p e below s _ _ _ (s₁.setTop (mkF m 1 #[.val (.int (Int32.ofNat n))] [(.int (Int32.ofNat n))]))
  obtain ⟨vv37, _, ⟨T37, L37, k37, n37⟩, -, X37, ⟨Lc37, hQ37, l37, y37, z37⟩, st37⟩ := Jvm.LawKit.callS X0 hx (y := (⟨"java/lang/StringUTF16", "newBytesLength", "(I)I"⟩ : MethodName)) hown (mvT hZ (hw _ (List.mem_of_getElem? (i := 57) rfl))) (mvT hZ (hw _ (List.mem_of_getElem? (i := 58) rfl))) (mvT hZ (hw _ (List.mem_of_getElem? (i := 25) rfl))) (mvT hZ (hw _ (List.mem_of_getElem? (i := 59) rfl))) (by decide) (backOf (W := 0) (rm14 l Z a0 hw [] n h0 n0 Z0 hl) hZ (hw _ (List.mem_of_getElem? (i := 59) rfl)) (hw _ (List.mem_of_getElem? (i := 25) rfl)) (by decide) (by decide)) (g := (mkF m 1 #[.val (.int (Int32.ofNat n))] [(.int (Int32.ofNat n))])) rfl (by rw [hml]; rfl) (argsL := [(.int (Int32.ofNat n))]) (rest := []) (lenOf pd__I_I_227 rfl) rfl (by show 2 * 0 + _ ≤ _; exact Nat.le_of_eq rfl) (hb hby d13_1) (fun _ _ => ⟨rfl, e0, (by decide : 0 + 0 ≤ _), (by decide : 0 + 0 ≤ _)⟩)
  dsimp only [Pt.U, Pt.locs, Pt.cells, Pt.slots] at X37 l37 y37 z37 st37 hQ37
  subst l37 y37 z37
  obtain ⟨rfl, N37q, e37q⟩ := hQ37
  have N37 := Fr.app N0 N37q
  refine own_by st37 ?_
  have e37 : T37.heap = h0 := e37q
  show own_Comes p e below s _ _ _ (T37.setTop (mkF m 4 #[.val (.int (Int32.ofNat n))] [(.int (Int32.ofNat (2 * n)))]))
  obtain ⟨T38, h38, k38, X38, e38, E38, A38, st38⟩ := newP X37 hx hZ (hw _ (List.mem_of_getElem? (i := 27) rfl)) e37 (g := (mkF m 4 #[.val (.int (Int32.ofNat n))] [(.int (Int32.ofNat (2 * n)))])) rfl (hb hby d13_4) rfl (own_neg (by omega)) (cap := 258) (by rw [own_tn (by omega)]; omega) (by decide) (by decide) (by decide)
  obtain ⟨b38, g38⟩ : ∃ z, z = h0.size := ⟨_, rfl⟩
  rw [← g38] at A38 st38
  have g_b38 : n0 ≤ b38 := Nat.le_trans Z0 (Nat.le_of_eq g38.symm)
  refine own_by st38 ?_
  have V_b38 : Arv Z h38 b38 k38 .byte (Int32.ofNat (2 * n)) (List.replicate (2 * n) (.int (0 : Int32))) (.int (0 : Int32)) := (Arv.new A38 (own_neg (by omega))).pad (pad_rep [] (.int (0 : Int32)) (2 * n))
  show own_Comes p e below s _ _ _ (T38.setTop (mkF m 6 #[.val (.int (Int32.ofNat n))] [(.ref b38)]))
  refine own_ret X38 (v := some (.ref b38)) (fun h => by rw [Bd.returns] at h; cases h) Bd.notSynchronized (by decide) (by decide) ?_ (fun fs hr => own_reta X38 hx Bd.returns rfl rfl (hb hby d13_6) hr)
  rw [e38]; exact ⟨_, _, rfl, N37, E38, g_b38, Nat.le_of_eq g38.symm, V_b38⟩
def Q15 (Z : State) (r0 : Addr) (kb : ClassId) (N2 : Int32) (vs : List Value) (i : Nat) (c : Int32) (h0 : Heap) (n0 : Nat) (v : Option Value) (h : Heap) (L : List Loc) : Prop := v = none ∧ Fr n0 L ∧ Keep h0 h [r0] ∧ Arv Z h r0 kb .byte N2 ((vs.set (2 * i) (.int (StrChars.lo8 c))).set (2 * i + 1) (.int (StrChars.hi8 c))) (.int 0)
theorem ef_rm15 (m : MethodId) (x0 : Addr) (x1 : Int32) (x2 : Int32) : entryFrame m #[(.ref x0), (.int x1), (.int x2)] 3 = mkF m 0 #[.val (.ref x0), .val (.int x1), .val (.int x2)] [] := by first | (simp [entryFrame, mkF, argsToLocals, Value.category]; done) | rfl
theorem d15_0 : decode jdk_52_method_4_code 0 = .ok (.getstatic 44, 3) := by decide +kernel
theorem d15_3 : decode jdk_52_method_4_code 3 = .ok (.ifCond .ne 25, 3) := by decide +kernel
theorem d15_28 : decode jdk_52_method_4_code 28 = .ok (.iload_n 1, 1) := by decide +kernel
theorem d15_29 : decode jdk_52_method_4_code 29 = .ok (.iconst 1, 1) := by decide +kernel
theorem d15_30 : decode jdk_52_method_4_code 30 = .ok (.ishl, 1) := by decide +kernel
theorem d15_31 : decode jdk_52_method_4_code 31 = .ok (.istore_n 1, 1) := by decide +kernel
theorem d15_32 : decode jdk_52_method_4_code 32 = .ok (.aload_n 0, 1) := by decide +kernel
theorem d15_33 : decode jdk_52_method_4_code 33 = .ok (.iload_n 1, 1) := by decide +kernel
theorem d15_34 : decode jdk_52_method_4_code 34 = .ok (.iinc 1 1, 3) := by decide +kernel
theorem d15_37 : decode jdk_52_method_4_code 37 = .ok (.iload_n 2, 1) := by decide +kernel
theorem d15_38 : decode jdk_52_method_4_code 38 = .ok (.getstatic 59, 3) := by decide +kernel
theorem d15_41 : decode jdk_52_method_4_code 41 = .ok (.ishr, 1) := by decide +kernel
theorem d15_42 : decode jdk_52_method_4_code 42 = .ok (.i2b, 1) := by decide +kernel
theorem d15_43 : decode jdk_52_method_4_code 43 = .ok (.bastore, 1) := by decide +kernel
theorem d15_44 : decode jdk_52_method_4_code 44 = .ok (.aload_n 0, 1) := by decide +kernel
theorem d15_45 : decode jdk_52_method_4_code 45 = .ok (.iload_n 1, 1) := by decide +kernel
theorem d15_46 : decode jdk_52_method_4_code 46 = .ok (.iload_n 2, 1) := by decide +kernel
theorem d15_47 : decode jdk_52_method_4_code 47 = .ok (.getstatic 63, 3) := by decide +kernel
theorem d15_50 : decode jdk_52_method_4_code 50 = .ok (.ishr, 1) := by decide +kernel
theorem d15_51 : decode jdk_52_method_4_code 51 = .ok (.i2b, 1) := by decide +kernel
theorem d15_52 : decode jdk_52_method_4_code 52 = .ok (.bastore, 1) := by decide +kernel
theorem d15_53 : decode jdk_52_method_4_code 53 = .ok (.return_, 1) := by decide +kernel
set_option maxRecDepth 65536 in
set_option maxHeartbeats 40000000 in
theorem rm15 (l : Launch) (Z : State) (a0 : Array Value) (hw : ∀ d ∈ tables_1, d.before a0 Z = true) (ws : List Jvm.Cond) (r0 : Addr) (i : Nat) (p2 : Int32) (kb : ClassId) (vs : List Value) (n : Nat) (h0 : Heap) (n0 : Nat) (Z0 : n0 ≤ h0.size) (O0 : Old Z n0 h0) (Sd : Sta Z Z.heap "java/lang/StringUTF16" "$assertionsDisabled" "Z" (.int (1 : Int32))) (Sh : Sta Z Z.heap "java/lang/StringUTF16" "HI_BYTE_SHIFT" "I" (.int (0 : Int32))) (Sl : Sta Z Z.heap "java/lang/StringUTF16" "LO_BYTE_SHIFT" "I" (.int (8 : Int32))) (Va : Arv Z h0 r0 kb .byte (Int32.ofNat (2 * n)) vs (.int 0)) (hvs : vs.length = 2 * n) (hl : n ≤ 129) (hi : i < n) (g_r0 : n0 ≤ r0) :
    MetFree l (⟨"java/lang/StringUTF16", "putChar", "([BII)V"⟩ : MethodName) (head1 (Jvm.Cond.code (⟨"java/lang/StringUTF16", "putChar", "([BII)V"⟩ : MethodName) jdk_52_method_4_code 3 none :: ws) ({ frames := 0, cells := 0, slots := 0, locals := 0 } : Room)) (fun aX UX => aX = #[(.ref r0), (.int (Int32.ofNat i)), (.int p2)] ∧ Z.Warmed39 UX.vm ∧ UX.heap = h0) (fun _ _ _ _ _ => True) (fun _ UX oX UX' => ∃ vX LX, oX = .returned vX ∧ Q15 Z r0 kb (Int32.ofNat (2 * n)) vs i p2 h0 n0 vX UX'.heap LX ∧ FrameEnd UX oX UX' LX ({ frames := 0, cells := 0, slots := 0, locals := 0 } : Room).cells ({ frames := 0, cells := 0, slots := 0, locals := 0 } : Room).slots) := by
  refine MetFree.of_bodySF (plainFor_of_name pn_java_lang_StringUTF16) hisR ?_
  intro p e s m args below meth c s₁ Bd hml0 hP hK
  obtain ⟨rfl, hZ, hh⟩ := hP
  have hx := Bd.exec
  have hby := Bd.bytes
  have hml : c.maxLocals = 3 := hml0
  have hown : s.vm.findClass "java/lang/StringUTF16" = some m.cls := findClass_of_methodNamed Bd.named
  have hnm := (name_of_methodNamed Bd.named Bd.method).1
  have X0 : Stand p l e ({ frames := 0, cells := 0, slots := 0, locals := 0 } : Room) s m #[(.ref r0), (.int (Int32.ofNat i)), (.int p2)] below meth c s₁ [] 0 0 := Stand.of_body Bd
  have e0 : s₁.heap = h0 := by rw [← hh, Bd.state]; rfl
  have N0 := Fr.nil n0
  show own_Comes p e below s ({ frames := 0, cells := 0, slots := 0, locals := 0 } : Room).cells ({ frames := 0, cells := 0, slots := 0, locals := 0 } : Room).slots (Q15 Z r0 kb (Int32.ofNat (2 * n)) vs i p2 h0 n0) _
  rw [show entryFrame m #[(.ref r0), (.int (Int32.ofNat i)), (.int p2)] 3 = mkF m 0 #[.val (.ref r0), .val (.int (Int32.ofNat i)), .val (.int p2)] [] from ef_rm15 m r0 (Int32.ofNat i) p2]
  show own_Comes p e below s _ _ _ (s₁.setTop (mkF m 0 #[.val (.ref r0), .val (.int (Int32.ofNat i)), .val (.int p2)] []))
  obtain ⟨T39, X39, e39, st39⟩ := getS2 X0 hx hZ hown (host := "") (Or.inl (hw _ (List.mem_of_getElem? (i := 64) rfl))) Via.refl e0 (Sd.ext O0.2) (g := (mkF m 0 #[.val (.ref r0), .val (.int (Int32.ofNat i)), .val (.int p2)] [])) rfl (hb hby d15_0)
  refine own_by st39 ?_
  show own_Comes p e below s _ _ _ (T39.setTop (mkF m 3 #[.val (.ref r0), .val (.int (Int32.ofNat i)), .val (.int p2)] [(.int (1 : Int32))]))
  have hb40 : ¬ ((1 : Int32) = (0 : Int32)) := by decide
  refine own_by (fun _ kS => XS.ifYes X39.here hx rfl (pc0 := 3) (pc' := 28) rfl (hb hby d15_3) rfl ((if0 _ _).trans (feq hb40).2) (by decide) (by decide) kS) ?_
  show own_Comes p e below s _ _ _ (T39.setTop (mkF m 28 #[.val (.ref r0), .val (.int (Int32.ofNat i)), .val (.int p2)] []))
  refine own_by (fun _ kS => XS.iloadN X39.here hx rfl (hb hby d15_28) rfl kS) ?_
  show own_Comes p e below s _ _ _ (T39.setTop (mkF m 29 #[.val (.ref r0), .val (.int (Int32.ofNat i)), .val (.int p2)] [(.int (Int32.ofNat i))]))
  refine own_by (fun _ kS => XS.iconst X39.here hx rfl (hb hby d15_29) kS) ?_
  show own_Comes p e below s _ _ _ (T39.setTop (mkF m 30 #[.val (.ref r0), .val (.int (Int32.ofNat i)), .val (.int p2)] [(.int (1 : Int32)), (.int (Int32.ofNat i))]))
  refine own_by (fun _ kS => XS.ishl X39.here hx rfl (hb hby d15_30) rfl kS) ?_
  show own_Comes p e below s _ _ _ (T39.setTop (mkF m 31 #[.val (.ref r0), .val (.int (Int32.ofNat i)), .val (.int p2)] [(.int ((Int32.ofNat i) <<< ((1 : Int32) &&& 31)))]))
  rw [show ((Int32.ofNat i) <<< ((1 : Int32) &&& 31)) = (Int32.ofNat (2 * i)) from own_shl (by omega)]
  show own_Comes p e below s _ _ _ (T39.setTop (mkF m 31 #[.val (.ref r0), .val (.int (Int32.ofNat i)), .val (.int p2)] [(.int (Int32.ofNat (2 * i)))]))
  refine own_by (fun _ kS => XS.istoreN X39.here hx rfl (hb hby d15_31) rfl (l' := #[.val (.ref r0), .val (.int (Int32.ofNat (2 * i))), .val (.int p2)]) rfl kS) ?_
  show own_Comes p e below s _ _ _ (T39.setTop (mkF m 32 #[.val (.ref r0), .val (.int (Int32.ofNat (2 * i))), .val (.int p2)] []))
  refine own_by (fun _ kS => XS.aloadN X39.here hx rfl (hb hby d15_32) rfl rfl kS) ?_
  show own_Comes p e below s _ _ _ (T39.setTop (mkF m 33 #[.val (.ref r0), .val (.int (Int32.ofNat (2 * i))), .val (.int p2)] [(.ref r0)]))
  refine own_by (fun _ kS => XS.iloadN X39.here hx rfl (hb hby d15_33) rfl kS) ?_
  show own_Comes p e below s _ _ _ (T39.setTop (mkF m 34 #[.val (.ref r0), .val (.int (Int32.ofNat (2 * i))), .val (.int p2)] [(.int (Int32.ofNat (2 * i))), (.ref r0)]))
  refine own_by (fun _ kS => XS.iinc X39.here hx rfl (hb hby d15_34) rfl (l' := #[.val (.ref r0), .val (.int ((Int32.ofNat (2 * i)) + (1 : Int32))), .val (.int p2)]) rfl kS) ?_
  show own_Comes p e below s _ _ _ (T39.setTop (mkF m 37 #[.val (.ref r0), .val (.int ((Int32.ofNat (2 * i)) + (1 : Int32))), .val (.int p2)] [(.int (Int32.ofNat (2 * i))), (.ref r0)]))
  refine own_by (fun _ kS => XS.iloadN X39.here hx rfl (hb hby d15_37) rfl kS) ?_
  show own_Comes p e below s _ _ _ (T39.setTop (mkF m 38 #[.val (.ref r0), .val (.int ((Int32.ofNat (2 * i)) + (1 : Int32))), .val (.int p2)] [(.int p2), (.int (Int32.ofNat (2 * i))), (.ref r0)]))
  obtain ⟨T41, X41, e41, st41⟩ := getS2 X39 hx hZ hown (host := "") (Or.inl (hw _ (List.mem_of_getElem? (i := 65) rfl))) Via.refl e39 (Sh.ext O0.2) (g := (mkF m 38 #[.val (.ref r0), .val (.int ((Int32.ofNat (2 * i)) + (1 : Int32))), .val (.int p2)] [(.int p2), (.int (Int32.ofNat (2 * i))), (.ref r0)])) rfl (hb hby d15_38)
  refine own_by st41 ?_
  show own_Comes p e below s _ _ _ (T41.setTop (mkF m 41 #[.val (.ref r0), .val (.int ((Int32.ofNat (2 * i)) + (1 : Int32))), .val (.int p2)] [(.int (0 : Int32)), (.int p2), (.int (Int32.ofNat (2 * i))), (.ref r0)]))
  refine own_by (fun _ kS => XS.ishr X41.here hx rfl (hb hby d15_41) rfl kS) ?_
  show own_Comes p e below s _ _ _ (T41.setTop (mkF m 42 #[.val (.ref r0), .val (.int ((Int32.ofNat (2 * i)) + (1 : Int32))), .val (.int p2)] [(.int (p2 >>> ((0 : Int32) &&& 31))), (.int (Int32.ofNat (2 * i))), (.ref r0)]))
  refine own_by (fun _ kS => XS.i2b X41.here hx rfl (hb hby d15_42) rfl kS) ?_
  show own_Comes p e below s _ _ _ (T41.setTop (mkF m 43 #[.val (.ref r0), .val (.int ((Int32.ofNat (2 * i)) + (1 : Int32))), .val (.int p2)] [(.int ((p2 >>> ((0 : Int32) &&& 31)).toInt8.toInt32)), (.int (Int32.ofNat (2 * i))), (.ref r0)]))
  rw [show ((Int32.ofNat (2 * i)) + (1 : Int32)) = (Int32.ofNat (2 * i + 1)) from own_succ (by omega)]
  show own_Comes p e below s _ _ _ (T41.setTop (mkF m 43 #[.val (.ref r0), .val (.int (Int32.ofNat (2 * i + 1))), .val (.int p2)] [(.int ((p2 >>> ((0 : Int32) &&& 31)).toInt8.toInt32)), (.int (Int32.ofNat (2 * i))), (.ref r0)]))
  have Vo42 := Va
  obtain ⟨cl42, Ar42, qA42, SA42, NA42, HA42, GA42⟩ := Vo42
  have hin42 : ¬ ((Int32.ofNat (2 * i)) < 0 ∨ cl42.slots.size ≤ ((Int32.ofNat (2 * i))).toNatClampNeg) := own_inb SA42 (by omega) (by omega)
  obtain ⟨T43, h43, X43, e43, W43, st43⟩ := stB X41 hx hZ e41 Ar42 (j := (Int32.ofNat (2 * i))) hin42 (g := (mkF m 43 #[.val (.ref r0), .val (.int (Int32.ofNat (2 * i + 1))), .val (.int p2)] [(.int ((p2 >>> ((0 : Int32) &&& 31)).toInt8.toInt32)), (.int (Int32.ofNat (2 * i))), (.ref r0)])) rfl rfl (hb hby d15_43)
  refine own_by st43 ?_
  have V43 : Arv Z h43 r0 kb .byte (Int32.ofNat (2 * n)) (vs.set (2 * i) (.int ((p2 >>> ((0 : Int32) &&& 31)).toInt8.toInt32.toInt8.toInt32))) (.int 0) := Arv.set Ar42 qA42 SA42 NA42 HA42 GA42 (by first | rfl | exact fits_nar_byte _) W43 (2 * i) (own_tn (by omega)) (by omega)
  have N43 := Fr.snoc X43 N0 g_r0
  show own_Comes p e below s _ _ _ (T43.setTop (mkF m 44 #[.val (.ref r0), .val (.int (Int32.ofNat (2 * i + 1))), .val (.int p2)] []))
  refine own_by (fun _ kS => XS.aloadN X43.here hx rfl (hb hby d15_44) rfl rfl kS) ?_
  show own_Comes p e below s _ _ _ (T43.setTop (mkF m 45 #[.val (.ref r0), .val (.int (Int32.ofNat (2 * i + 1))), .val (.int p2)] [(.ref r0)]))
  refine own_by (fun _ kS => XS.iloadN X43.here hx rfl (hb hby d15_45) rfl kS) ?_
  show own_Comes p e below s _ _ _ (T43.setTop (mkF m 46 #[.val (.ref r0), .val (.int (Int32.ofNat (2 * i + 1))), .val (.int p2)] [(.int (Int32.ofNat (2 * i + 1))), (.ref r0)]))
  refine own_by (fun _ kS => XS.iloadN X43.here hx rfl (hb hby d15_46) rfl kS) ?_
  show own_Comes p e below s _ _ _ (T43.setTop (mkF m 47 #[.val (.ref r0), .val (.int (Int32.ofNat (2 * i + 1))), .val (.int p2)] [(.int p2), (.int (Int32.ofNat (2 * i + 1))), (.ref r0)]))
  obtain ⟨T44, X44, e44, st44⟩ := getS2 X43 hx hZ hown (host := "") (Or.inl (hw _ (List.mem_of_getElem? (i := 66) rfl))) Via.refl e43 (Sl.ext (O0.wr W43 g_r0).2) (g := (mkF m 47 #[.val (.ref r0), .val (.int (Int32.ofNat (2 * i + 1))), .val (.int p2)] [(.int p2), (.int (Int32.ofNat (2 * i + 1))), (.ref r0)])) rfl (hb hby d15_47)
  refine own_by st44 ?_
  show own_Comes p e below s _ _ _ (T44.setTop (mkF m 50 #[.val (.ref r0), .val (.int (Int32.ofNat (2 * i + 1))), .val (.int p2)] [(.int (8 : Int32)), (.int p2), (.int (Int32.ofNat (2 * i + 1))), (.ref r0)]))
  refine own_by (fun _ kS => XS.ishr X44.here hx rfl (hb hby d15_50) rfl kS) ?_
  show own_Comes p e below s _ _ _ (T44.setTop (mkF m 51 #[.val (.ref r0), .val (.int (Int32.ofNat (2 * i + 1))), .val (.int p2)] [(.int (p2 >>> ((8 : Int32) &&& 31))), (.int (Int32.ofNat (2 * i + 1))), (.ref r0)]))
  refine own_by (fun _ kS => XS.i2b X44.here hx rfl (hb hby d15_51) rfl kS) ?_
  show own_Comes p e below s _ _ _ (T44.setTop (mkF m 52 #[.val (.ref r0), .val (.int (Int32.ofNat (2 * i + 1))), .val (.int p2)] [(.int ((p2 >>> ((8 : Int32) &&& 31)).toInt8.toInt32)), (.int (Int32.ofNat (2 * i + 1))), (.ref r0)]))
  have Vo45 := V43
  obtain ⟨cl45, Ar45, qA45, SA45, NA45, HA45, GA45⟩ := Vo45
  have hin45 : ¬ ((Int32.ofNat (2 * i + 1)) < 0 ∨ cl45.slots.size ≤ ((Int32.ofNat (2 * i + 1))).toNatClampNeg) := own_inb SA45 (by omega) (by omega)
  obtain ⟨T46, h46, X46, e46, W46, st46⟩ := stB X44 hx hZ e44 Ar45 (j := (Int32.ofNat (2 * i + 1))) hin45 (g := (mkF m 52 #[.val (.ref r0), .val (.int (Int32.ofNat (2 * i + 1))), .val (.int p2)] [(.int ((p2 >>> ((8 : Int32) &&& 31)).toInt8.toInt32)), (.int (Int32.ofNat (2 * i + 1))), (.ref r0)])) rfl rfl (hb hby d15_52)
  refine own_by st46 ?_
  have V46 : Arv Z h46 r0 kb .byte (Int32.ofNat (2 * n)) ((vs.set (2 * i) (.int ((p2 >>> ((0 : Int32) &&& 31)).toInt8.toInt32.toInt8.toInt32))).set (2 * i + 1) (.int ((p2 >>> ((8 : Int32) &&& 31)).toInt8.toInt32.toInt8.toInt32))) (.int 0) := Arv.set Ar45 qA45 SA45 NA45 HA45 GA45 (by first | rfl | exact fits_nar_byte _) W46 (2 * i + 1) (own_tn (by omega)) (by rw [List.length_set]; omega)
  have N46 := Fr.snoc X46 N43 g_r0
  show own_Comes p e below s _ _ _ (T46.setTop (mkF m 53 #[.val (.ref r0), .val (.int (Int32.ofNat (2 * i + 1))), .val (.int p2)] []))
  have Vz := V46
  rw [own_b1, own_b2] at Vz
  refine own_ret X46 (v := none) (fun _ => rfl) Bd.notSynchronized (by decide) (by decide) ?_ (fun fs hr => X46.returnOut hx Bd.returns (hb hby d15_53) hr)
  rw [e46]; exact ⟨rfl, N46, (((Keep.refl _ _).wr W43 (Or.inl (List.mem_of_getElem? (i := 0) rfl))).wr W46 (Or.inl (List.mem_of_getElem? (i := 0) rfl))), Vz⟩
def Q12 (Z : State) (cs : List Int32) (h0 : Heap) (n0 : Nat) (v : Option Value) (h : Heap) (L : List Loc) : Prop := ∃ (a : Addr) (kb : ClassId), v = some (.ref a) ∧ Fr n0 L ∧ Ext h0 h ∧ n0 ≤ a ∧ h0.size ≤ a ∧ Arv Z h a kb .byte (Int32.ofNat (2 * cs.length)) (StrChars.Road.wideBytes cs) (.int 0)
theorem ef_rm12 (m : MethodId) (x0 : Addr) (x1 : Int32) (x2 : Int32) : entryFrame m #[(.ref x0), (.int x1), (.int x2)] 5 = mkF m 0 #[.val (.ref x0), .val (.int x1), .val (.int x2), .unset, .unset] [] := by first | (simp [entryFrame, mkF, argsToLocals, Value.category]; done) | rfl
theorem d12_0 : decode jdk_52_method_14_code 0 = .ok (.iload_n 2, 1) := by decide +kernel
theorem pd__I__B_311 : parseMethodDescriptor "(I)[B" = some ⟨[.int], some (.array .byte)⟩ := by decide +kernel
theorem d12_1 : decode jdk_52_method_14_code 1 = .ok (.invokestatic 107, 3) := by decide +kernel
theorem d12_4 : decode jdk_52_method_14_code 4 = .ok (.astore_n 3, 1) := by decide +kernel
theorem d12_5 : decode jdk_52_method_14_code 5 = .ok (.iconst 0, 1) := by decide +kernel
theorem d12_6 : decode jdk_52_method_14_code 6 = .ok (.istore 4, 2) := by decide +kernel
theorem d12_8 : decode jdk_52_method_14_code 8 = .ok (.iload 4, 2) := by decide +kernel
theorem d12_10 : decode jdk_52_method_14_code 10 = .ok (.iload_n 2, 1) := by decide +kernel
theorem d12_11 : decode jdk_52_method_14_code 11 = .ok (.if_icmp .ge 21, 3) := by decide +kernel
theorem d12_14 : decode jdk_52_method_14_code 14 = .ok (.aload_n 3, 1) := by decide +kernel
theorem d12_15 : decode jdk_52_method_14_code 15 = .ok (.iload 4, 2) := by decide +kernel
theorem d12_17 : decode jdk_52_method_14_code 17 = .ok (.aload_n 0, 1) := by decide +kernel
theorem d12_18 : decode jdk_52_method_14_code 18 = .ok (.iload_n 1, 1) := by decide +kernel
theorem d12_19 : decode jdk_52_method_14_code 19 = .ok (.caload, 1) := by decide +kernel
theorem pd___BII_V_470 : parseMethodDescriptor "([BII)V" = some ⟨[(.array .byte), .int, .int], none⟩ := by decide +kernel
theorem d12_20 : decode jdk_52_method_14_code 20 = .ok (.invokestatic 111, 3) := by decide +kernel
theorem d12_23 : decode jdk_52_method_14_code 23 = .ok (.iinc 1 1, 3) := by decide +kernel
theorem d12_26 : decode jdk_52_method_14_code 26 = .ok (.iinc 4 1, 3) := by decide +kernel
theorem d12_29 : decode jdk_52_method_14_code 29 = .ok (.goto (-21), 3) := by decide +kernel
theorem d12_32 : decode jdk_52_method_14_code 32 = .ok (.aload_n 3, 1) := by decide +kernel
theorem d12_33 : decode jdk_52_method_14_code 33 = .ok (.areturn, 1) := by decide +kernel
set_option maxRecDepth 65536 in
set_option maxHeartbeats 40000000 in
theorem rm12 (l : Launch) (Z : State) (a0 : Array Value) (hw : ∀ d ∈ tables_1, d.before a0 Z = true) (ws : List Jvm.Cond) (r0 : Addr) (kc : ClassId) (cs : List Int32) (h0 : Heap) (n0 : Nat) (Z0 : n0 ≤ h0.size) (O0 : Old Z n0 h0) (Sd : Sta Z Z.heap "java/lang/StringUTF16" "$assertionsDisabled" "Z" (.int (1 : Int32))) (Sh : Sta Z Z.heap "java/lang/StringUTF16" "HI_BYTE_SHIFT" "I" (.int (0 : Int32))) (Sl : Sta Z Z.heap "java/lang/StringUTF16" "LO_BYTE_SHIFT" "I" (.int (8 : Int32))) (Vs : Arv Z h0 r0 kc .char (Int32.ofNat cs.length) (cs.map Value.int) (.int 0)) (hl : cs.length ≤ 129) :
    MetFree l (⟨"java/lang/StringUTF16", "toBytes", "([CII)[B"⟩ : MethodName) (head1 (Jvm.Cond.code (⟨"java/lang/StringUTF16", "toBytes", "([CII)[B"⟩ : MethodName) jdk_52_method_14_code 5 (some (.array .byte)) :: ws) ({ frames := 2, cells := 1, slots := 258, locals := 24 } : Room)) (fun aX UX => aX = #[(.ref r0), (.int (0 : Int32)), (.int (Int32.ofNat cs.length))] ∧ Z.Warmed39 UX.vm ∧ UX.heap = h0) (fun _ _ _ _ _ => True) (fun _ UX oX UX' => ∃ vX LX, oX = .returned vX ∧ Q12 Z cs h0 n0 vX UX'.heap LX ∧ FrameEnd UX oX UX' LX ({ frames := 2, cells := 1, slots := 258, locals := 24 } : Room).cells ({ frames := 2, cells := 1, slots := 258, locals := 24 } : Room).slots) := by
  refine MetFree.of_bodySF (plainFor_of_name pn_java_lang_StringUTF16) hisR ?_
  intro p e s m args below meth c s₁ Bd hml0 hP hK
  obtain ⟨rfl, hZ, hh⟩ := hP
  have hx := Bd.exec
  have hby := Bd.bytes
  have hml : c.maxLocals = 5 := hml0
  have hown : s.vm.findClass "java/lang/StringUTF16" = some m.cls := findClass_of_methodNamed Bd.named
  have hnm := (name_of_methodNamed Bd.named Bd.method).1
  have X0 : Stand p l e ({ frames := 2, cells := 1, slots := 258, locals := 24 } : Room) s m #[(.ref r0), (.int (0 : Int32)), (.int (Int32.ofNat cs.length))] below meth c s₁ [] 0 0 := Stand.of_body Bd
  have e0 : s₁.heap = h0 := by rw [← hh, Bd.state]; rfl
  have N0 := Fr.nil n0
  show own_Comes p e below s ({ frames := 2, cells := 1, slots := 258, locals := 24 } : Room).cells ({ frames := 2, cells := 1, slots := 258, locals := 24 } : Room).slots (Q12 Z cs h0 n0) _
  rw [show entryFrame m #[(.ref r0), (.int (0 : Int32)), (.int (Int32.ofNat cs.length))] 5 = mkF m 0 #[.val (.ref r0), .val (.int (0 : Int32)), .val (.int (Int32.ofNat cs.length)), .unset, .unset] [] from ef_rm12 m r0 (0 : Int32) (Int32.ofNat cs.length)]
  show own_Comes p e below s _ _ _ (s₁.setTop (mkF m 0 #[.val (.ref r0), .val (.int (0 : Int32)), .val (.int (Int32.ofNat cs.length)), .unset, .unset] []))
  refine own_by (fun _ kS => XS.iloadN X0.here hx rfl (hb hby d12_0) rfl kS) ?_
  show own_Comes p e below s _ _ _ (s₁.setTop (mkF m 1 #[.val (.ref r0), .val (.int (0 : Int32)), .val (.int (Int32.ofNat cs.length)), .unset, .unset] [(.int (Int32.ofNat cs.length))]))
  obtain ⟨vv47, _, ⟨T47, L47, k47, n47⟩, -, X47, ⟨Lc47, hQ47, l47, y47, z47⟩, st47⟩ := Jvm.LawKit.callS X0 hx (y := (⟨"java/lang/StringUTF16", "newBytesFor", "(I)[B"⟩ : MethodName)) hown (mvT hZ (hw _ (List.mem_of_getElem? (i := 54) rfl))) (mvT hZ (hw _ (List.mem_of_getElem? (i := 55) rfl))) (mvT hZ (hw _ (List.mem_of_getElem? (i := 25) rfl))) (mvT hZ (hw _ (List.mem_of_getElem? (i := 56) rfl))) (by decide) (backOf (W := 0) (rm13 l Z a0 hw [] cs.length h0 n0 Z0 hl) hZ (hw _ (List.mem_of_getElem? (i := 56) rfl)) (hw _ (List.mem_of_getElem? (i := 25) rfl)) (by decide) (by decide)) (g := (mkF m 1 #[.val (.ref r0), .val (.int (0 : Int32)), .val (.int (Int32.ofNat cs.length)), .unset, .unset] [(.int (Int32.ofNat cs.length))])) rfl (by rw [hml]; rfl) (argsL := [(.int (Int32.ofNat cs.length))]) (rest := []) (lenOf pd__I__B_311 rfl) rfl (by show 2 * 0 + _ ≤ _; exact Nat.le_of_eq rfl) (hb hby d12_1) (fun _ _ => ⟨rfl, e0, (by decide : 0 + 1 ≤ _), (by decide : 0 + 258 ≤ _)⟩)
  dsimp only [Pt.U, Pt.locs, Pt.cells, Pt.slots] at X47 l47 y47 z47 st47 hQ47
  subst l47 y47 z47
  obtain ⟨a47, kb47, rfl, N47q, E47, g_a47, sz_a47, V47⟩ := hQ47
  have N47 := Fr.app N0 N47q
  refine own_by st47 ?_
  show own_Comes p e below s _ _ _ (T47.setTop (mkF m 4 #[.val (.ref r0), .val (.int (0 : Int32)), .val (.int (Int32.ofNat cs.length)), .unset, .unset] [(.ref a47)]))
  refine own_by (fun _ kS => XS.astoreN X47.here hx rfl (hb hby d12_4) rfl rfl (l' := #[.val (.ref r0), .val (.int (0 : Int32)), .val (.int (Int32.ofNat cs.length)), .val (.ref a47), .unset]) rfl kS) ?_
  show own_Comes p e below s _ _ _ (T47.setTop (mkF m 5 #[.val (.ref r0), .val (.int (0 : Int32)), .val (.int (Int32.ofNat cs.length)), .val (.ref a47), .unset] []))
  refine own_by (fun _ kS => XS.iconst X47.here hx rfl (hb hby d12_5) kS) ?_
  show own_Comes p e below s _ _ _ (T47.setTop (mkF m 6 #[.val (.ref r0), .val (.int (0 : Int32)), .val (.int (Int32.ofNat cs.length)), .val (.ref a47), .unset] [(.int (0 : Int32))]))
  refine own_by (fun _ kS => XS.istore X47.here hx rfl (hb hby d12_6) rfl (l' := #[.val (.ref r0), .val (.int (0 : Int32)), .val (.int (Int32.ofNat cs.length)), .val (.ref a47), .val (.int (0 : Int32))]) rfl kS) ?_
  show own_Comes p e below s _ _ _ (T47.setTop (mkF m 8 #[.val (.ref r0), .val (.int (0 : Int32)), .val (.int (Int32.ofNat cs.length)), .val (.ref a47), .val (.int (0 : Int32))] []))
  have J8 : ∀ (r : Nat) (i : Nat) (vs : List Value) (TJ8 : State) (hJ8 : Heap) (LJ8 : List Loc), (cs.length < i + r) → (i ≤ cs.length) → (Keep h0 hJ8 []) → (Arv Z hJ8 a47 kb47 .byte (Int32.ofNat (2 * cs.length)) vs (.int 0)) → (own_Half cs i vs) → (Arv Z hJ8 r0 kc .char (Int32.ofNat cs.length) (cs.map Value.int) (.int 0)) → Stand p l e ({ frames := 2, cells := 1, slots := 258, locals := 24 } : Room) s m #[(.ref r0), (.int (0 : Int32)), (.int (Int32.ofNat cs.length))] below meth c TJ8 LJ8 1 258 → TJ8.heap = hJ8 → Fr n0 LJ8 → Old Z n0 hJ8 → n0 ≤ hJ8.size → own_Comes p e below s ({ frames := 2, cells := 1, slots := 258, locals := 24 } : Room).cells ({ frames := 2, cells := 1, slots := 258, locals := 24 } : Room).slots (Q12 Z cs h0 n0) (TJ8.setTop (mkF m 8 #[.val (.ref r0), .val (.int (Int32.ofNat i)), .val (.int (Int32.ofNat cs.length)), .val (.ref a47), .val (.int (Int32.ofNat i))] [])) := by
    intro r
    induction r with
    | zero => intro i vs TJ8 hJ8 LJ8 hrJ8 hiL KJ Va hH VsJ XJ8 eJ8 NJ8 OJ8 ZJ8; omega
    | succ r ih =>
      intro i vs TJ8 hJ8 LJ8 hrJ8 hiL KJ Va hH VsJ XJ8 eJ8 NJ8 OJ8 ZJ8
      show own_Comes p e below s _ _ _ (TJ8.setTop (mkF m 8 #[.val (.ref r0), .val (.int (Int32.ofNat i)), .val (.int (Int32.ofNat cs.length)), .val (.ref a47), .val (.int (Int32.ofNat i))] []))
      have nA : r0 ≠ a47 := Nat.ne_of_lt (Nat.lt_of_lt_of_le Vs.lt sz_a47)
      refine own_by (fun _ kS => XS.iload XJ8.here hx rfl (hb hby d12_8) rfl kS) ?_
      show own_Comes p e below s _ _ _ (TJ8.setTop (mkF m 10 #[.val (.ref r0), .val (.int (Int32.ofNat i)), .val (.int (Int32.ofNat cs.length)), .val (.ref a47), .val (.int (Int32.ofNat i))] [(.int (Int32.ofNat i))]))
      refine own_by (fun _ kS => XS.iloadN XJ8.here hx rfl (hb hby d12_10) rfl kS) ?_
      show own_Comes p e below s _ _ _ (TJ8.setTop (mkF m 11 #[.val (.ref r0), .val (.int (Int32.ofNat i)), .val (.int (Int32.ofNat cs.length)), .val (.ref a47), .val (.int (Int32.ofNat i))] [(.int (Int32.ofNat cs.length)), (.int (Int32.ofNat i))]))
      by_cases hi : i < cs.length
      · have hb48 : (Int32.ofNat i) < (Int32.ofNat cs.length) := (own_lt (by omega) (by omega)).mpr hi
        refine own_by (fun _ kS => XS.icmpNo XJ8.here hx rfl (hb hby d12_11) rfl (tlt hb48).2.1 kS) ?_
        show own_Comes p e below s _ _ _ (TJ8.setTop (mkF m 14 #[.val (.ref r0), .val (.int (Int32.ofNat i)), .val (.int (Int32.ofNat cs.length)), .val (.ref a47), .val (.int (Int32.ofNat i))] []))
        refine own_by (fun _ kS => XS.aloadN XJ8.here hx rfl (hb hby d12_14) rfl rfl kS) ?_
        show own_Comes p e below s _ _ _ (TJ8.setTop (mkF m 15 #[.val (.ref r0), .val (.int (Int32.ofNat i)), .val (.int (Int32.ofNat cs.length)), .val (.ref a47), .val (.int (Int32.ofNat i))] [(.ref a47)]))
        refine own_by (fun _ kS => XS.iload XJ8.here hx rfl (hb hby d12_15) rfl kS) ?_
        show own_Comes p e below s _ _ _ (TJ8.setTop (mkF m 17 #[.val (.ref r0), .val (.int (Int32.ofNat i)), .val (.int (Int32.ofNat cs.length)), .val (.ref a47), .val (.int (Int32.ofNat i))] [(.int (Int32.ofNat i)), (.ref a47)]))
        refine own_by (fun _ kS => XS.aloadN XJ8.here hx rfl (hb hby d12_17) rfl rfl kS) ?_
        show own_Comes p e below s _ _ _ (TJ8.setTop (mkF m 18 #[.val (.ref r0), .val (.int (Int32.ofNat i)), .val (.int (Int32.ofNat cs.length)), .val (.ref a47), .val (.int (Int32.ofNat i))] [(.ref r0), (.int (Int32.ofNat i)), (.ref a47)]))
        refine own_by (fun _ kS => XS.iloadN XJ8.here hx rfl (hb hby d12_18) rfl kS) ?_
        show own_Comes p e below s _ _ _ (TJ8.setTop (mkF m 19 #[.val (.ref r0), .val (.int (Int32.ofNat i)), .val (.int (Int32.ofNat cs.length)), .val (.ref a47), .val (.int (Int32.ofNat i))] [(.int (Int32.ofNat i)), (.ref r0), (.int (Int32.ofNat i)), (.ref a47)]))
        have Vo49 := VsJ
        obtain ⟨cl49, Ar49, qA49, SA49, NA49, HA49, GA49⟩ := Vo49
        have hin49 : ¬ ((Int32.ofNat i) < 0 ∨ cl49.slots.size ≤ ((Int32.ofNat i)).toNatClampNeg) := own_inb SA49 (by omega) hi
        have hat49 : cl49.slots[((Int32.ofNat i)).toNatClampNeg]? = some (.int (cs.getD i 0)) := HA49.at hin49 (by rw [own_tn (by omega)]; exact own_char hi)
        refine own_by (fun _ kS => XJ8.caload hx (j := (Int32.ofNat i)) (v := (.int (cs.getD i 0))) (by rw [eJ8]; exact Ar49.1) (State.isArrayOf_alike hZ.alike Ar49.2.1) Ar49.2.2 hin49 hat49 (g := (mkF m 19 #[.val (.ref r0), .val (.int (Int32.ofNat i)), .val (.int (Int32.ofNat cs.length)), .val (.ref a47), .val (.int (Int32.ofNat i))] [(.int (Int32.ofNat i)), (.ref r0), (.int (Int32.ofNat i)), (.ref a47)])) rfl rfl (hb hby d12_19) _ kS) ?_
        show own_Comes p e below s _ _ _ (TJ8.setTop (mkF m 20 #[.val (.ref r0), .val (.int (Int32.ofNat i)), .val (.int (Int32.ofNat cs.length)), .val (.ref a47), .val (.int (Int32.ofNat i))] [(.int (cs.getD i 0)), (.int (Int32.ofNat i)), (.ref a47)]))
        obtain ⟨vv50, _, ⟨T50, L50, k50, n50⟩, -, X50, ⟨Lc50, hQ50, l50, y50, z50⟩, st50⟩ := Jvm.LawKit.callS XJ8 hx (y := (⟨"java/lang/StringUTF16", "putChar", "([BII)V"⟩ : MethodName)) hown (mvT hZ (hw _ (List.mem_of_getElem? (i := 61) rfl))) (mvT hZ (hw _ (List.mem_of_getElem? (i := 62) rfl))) (mvT hZ (hw _ (List.mem_of_getElem? (i := 25) rfl))) (mvT hZ (hw _ (List.mem_of_getElem? (i := 63) rfl))) (by decide) (backOf (W := 0) (rm15 l Z a0 hw [] a47 i (cs.getD i 0) kb47 vs cs.length hJ8 n0 ZJ8 OJ8 Sd Sh Sl Va hH.1 hl hi g_a47) hZ (hw _ (List.mem_of_getElem? (i := 63) rfl)) (hw _ (List.mem_of_getElem? (i := 25) rfl)) (by decide) (by decide)) (g := (mkF m 20 #[.val (.ref r0), .val (.int (Int32.ofNat i)), .val (.int (Int32.ofNat cs.length)), .val (.ref a47), .val (.int (Int32.ofNat i))] [(.int (cs.getD i 0)), (.int (Int32.ofNat i)), (.ref a47)])) rfl (by rw [hml]; rfl) (argsL := [(.ref a47), (.int (Int32.ofNat i)), (.int (cs.getD i 0))]) (rest := []) (lenOf pd___BII_V_470 rfl) rfl (by show 2 * 0 + _ ≤ _; exact Nat.le_of_eq rfl) (hb hby d12_20) (fun _ _ => ⟨rfl, eJ8, (by decide : 1 + 0 ≤ _), (by decide : 258 + 0 ≤ _)⟩)
        dsimp only [Pt.U, Pt.locs, Pt.cells, Pt.slots] at X50 l50 y50 z50 st50 hQ50
        subst l50 y50 z50
        obtain ⟨rfl, N50q, K50, V50⟩ := hQ50
        have N50 := Fr.app NJ8 N50q
        refine own_by st50 ?_
        show own_Comes p e below s _ _ _ (T50.setTop (mkF m 23 #[.val (.ref r0), .val (.int (Int32.ofNat i)), .val (.int (Int32.ofNat cs.length)), .val (.ref a47), .val (.int (Int32.ofNat i))] []))
        refine own_by (fun _ kS => XS.iinc X50.here hx rfl (hb hby d12_23) rfl (l' := #[.val (.ref r0), .val (.int ((Int32.ofNat i) + (1 : Int32))), .val (.int (Int32.ofNat cs.length)), .val (.ref a47), .val (.int (Int32.ofNat i))]) rfl kS) ?_
        show own_Comes p e below s _ _ _ (T50.setTop (mkF m 26 #[.val (.ref r0), .val (.int ((Int32.ofNat i) + (1 : Int32))), .val (.int (Int32.ofNat cs.length)), .val (.ref a47), .val (.int (Int32.ofNat i))] []))
        refine own_by (fun _ kS => XS.iinc X50.here hx rfl (hb hby d12_26) rfl (l' := #[.val (.ref r0), .val (.int ((Int32.ofNat i) + (1 : Int32))), .val (.int (Int32.ofNat cs.length)), .val (.ref a47), .val (.int ((Int32.ofNat i) + (1 : Int32)))]) rfl kS) ?_
        show own_Comes p e below s _ _ _ (T50.setTop (mkF m 29 #[.val (.ref r0), .val (.int ((Int32.ofNat i) + (1 : Int32))), .val (.int (Int32.ofNat cs.length)), .val (.ref a47), .val (.int ((Int32.ofNat i) + (1 : Int32)))] []))
        rw [show ((Int32.ofNat i) + (1 : Int32)) = (Int32.ofNat (i + 1)) from own_succ (by omega)]
        show own_Comes p e below s _ _ _ (T50.setTop (mkF m 29 #[.val (.ref r0), .val (.int (Int32.ofNat (i + 1))), .val (.int (Int32.ofNat cs.length)), .val (.ref a47), .val (.int (Int32.ofNat (i + 1)))] []))
        refine own_by (fun _ kS => XS.goto X50.here hx rfl (pc0 := 29) (pc' := 8) rfl (hb hby d12_29) (by decide) (by decide) kS) ?_
        show own_Comes p e below s _ _ _ (T50.setTop (mkF m 8 #[.val (.ref r0), .val (.int (Int32.ofNat (i + 1))), .val (.int (Int32.ofNat cs.length)), .val (.ref a47), .val (.int (Int32.ofNat (i + 1)))] []))
        exact ih (i + 1) _ _ _ _ (by omega) (by omega) (KJ.trans K50 (allS (Or.inr sz_a47) all0)) V50 (hH.step hi) (VsJ.keep K50 (ninS nA nin0)) (X50.more (by decide) (by decide)) rfl N50 (OJ8.keep K50 (allS g_a47 all0)) (Nat.le_trans ZJ8 K50.1)
      · have hb51 : ¬ ((Int32.ofNat i) < (Int32.ofNat cs.length)) := fun q => hi ((own_lt (by omega) (by omega)).mp q)
        refine own_by (fun _ kS => XS.icmpYes XJ8.here hx rfl (pc0 := 11) (pc' := 32) rfl (hb hby d12_11) rfl (flt hb51).2.1 (by decide) (by decide) kS) ?_
        show own_Comes p e below s _ _ _ (TJ8.setTop (mkF m 32 #[.val (.ref r0), .val (.int (Int32.ofNat i)), .val (.int (Int32.ofNat cs.length)), .val (.ref a47), .val (.int (Int32.ofNat i))] []))
        refine own_by (fun _ kS => XS.aloadN XJ8.here hx rfl (hb hby d12_32) rfl rfl kS) ?_
        show own_Comes p e below s _ _ _ (TJ8.setTop (mkF m 33 #[.val (.ref r0), .val (.int (Int32.ofNat i)), .val (.int (Int32.ofNat cs.length)), .val (.ref a47), .val (.int (Int32.ofNat i))] [(.ref a47)]))
        obtain rfl : i = cs.length := by omega
        have Vz := Va
        rw [hH.full] at Vz
        refine own_ret XJ8 (v := some (.ref a47)) (fun h => by rw [Bd.returns] at h; cases h) Bd.notSynchronized (by decide) (by decide) ?_ (fun fs hr => own_reta XJ8 hx Bd.returns rfl rfl (hb hby d12_33) hr)
        rw [eJ8]; exact ⟨_, _, rfl, NJ8, own_ext KJ, g_a47, sz_a47, Vz⟩
  exact J8 (cs.length + 1) 0 _ _ _ _ (by omega) (by omega) ((Keep.refl _ _).ext E47) V47 (own_Half.zero cs) (Vs.ext E47) (X47.more (by decide) (by decide)) rfl N47 (O0.ext E47) (Nat.le_trans Z0 E47.1)
def Q6 (Z : State) (cs : List Int32) (h0 : Heap) (n0 : Nat) (v : Option Value) (h : Heap) (L : List Loc) : Prop := ∃ (a : Addr) (kb : ClassId), v = some (.ref a) ∧ Fr n0 L ∧ Ext h0 h ∧ n0 ≤ a ∧ h0.size ≤ a ∧ Arv Z h a kb .byte (Int32.ofNat (2 * cs.length)) (StrChars.Road.wideBytes cs) (.int 0)
theorem ef_rm6 (m : MethodId) (x0 : Addr) (x1 : Int32) (x2 : Int32) : entryFrame m #[(.ref x0), (.int x1), (.int x2)] 6 = mkF m 0 #[.val (.ref x0), .val (.int x1), .val (.int x2), .unset, .unset, .unset] [] := by first | (simp [entryFrame, mkF, argsToLocals, Value.category]; done) | rfl
theorem d6_0 : decode jdk_52_method_16_code 0 = .ok (.iload_n 2, 1) := by decide +kernel
theorem d6_1 : decode jdk_52_method_16_code 1 = .ok (.newarray .byte, 2) := by decide +kernel
theorem d6_3 : decode jdk_52_method_16_code 3 = .ok (.astore_n 3, 1) := by decide +kernel
theorem d6_4 : decode jdk_52_method_16_code 4 = .ok (.aload_n 0, 1) := by decide +kernel
theorem d6_5 : decode jdk_52_method_16_code 5 = .ok (.iload_n 1, 1) := by decide +kernel
theorem d6_6 : decode jdk_52_method_16_code 6 = .ok (.aload_n 3, 1) := by decide +kernel
theorem d6_7 : decode jdk_52_method_16_code 7 = .ok (.iconst 0, 1) := by decide +kernel
theorem d6_8 : decode jdk_52_method_16_code 8 = .ok (.iload_n 2, 1) := by decide +kernel
theorem pd___CI_BII_I_688 : parseMethodDescriptor "([CI[BII)I" = some ⟨[(.array .char), .int, (.array .byte), .int, .int], some .int⟩ := by decide +kernel
theorem d6_9 : decode jdk_52_method_16_code 9 = .ok (.invokestatic 115, 3) := by decide +kernel
theorem d6_12 : decode jdk_52_method_16_code 12 = .ok (.istore 4, 2) := by decide +kernel
theorem d6_14 : decode jdk_52_method_16_code 14 = .ok (.iload 4, 2) := by decide +kernel
theorem d6_16 : decode jdk_52_method_16_code 16 = .ok (.iload_n 2, 1) := by decide +kernel
theorem d6_17 : decode jdk_52_method_16_code 17 = .ok (.if_icmp .eq 40, 3) := by decide +kernel
theorem d6_20 : decode jdk_52_method_16_code 20 = .ok (.aload_n 0, 1) := by decide +kernel
theorem d6_21 : decode jdk_52_method_16_code 21 = .ok (.iload_n 1, 1) := by decide +kernel
theorem d6_22 : decode jdk_52_method_16_code 22 = .ok (.iload_n 2, 1) := by decide +kernel
theorem pd___CII__B_542 : parseMethodDescriptor "([CII)[B" = some ⟨[(.array .char), .int, .int], some (.array .byte)⟩ := by decide +kernel
theorem d6_23 : decode jdk_52_method_16_code 23 = .ok (.invokestatic 119, 3) := by decide +kernel
theorem d6_26 : decode jdk_52_method_16_code 26 = .ok (.astore 5, 2) := by decide +kernel
theorem d6_28 : decode jdk_52_method_16_code 28 = .ok (.aload 5, 2) := by decide +kernel
theorem d6_30 : decode jdk_52_method_16_code 30 = .ok (.iload 4, 2) := by decide +kernel
theorem d6_32 : decode jdk_52_method_16_code 32 = .ok (.invokestatic 71, 3) := by decide +kernel
theorem d6_35 : decode jdk_52_method_16_code 35 = .ok (.sipush 255, 3) := by decide +kernel
theorem d6_38 : decode jdk_52_method_16_code 38 = .ok (.if_icmp .gt 16, 3) := by decide +kernel
theorem d6_54 : decode jdk_52_method_16_code 54 = .ok (.aload 5, 2) := by decide +kernel
theorem d6_56 : decode jdk_52_method_16_code 56 = .ok (.areturn, 1) := by decide +kernel
set_option maxRecDepth 65536 in
set_option maxHeartbeats 40000000 in
theorem rm6 (l : Launch) (Z : State) (a0 : Array Value) (hw : ∀ d ∈ tables_1, d.before a0 Z = true) (ws : List Jvm.Cond) (r0 : Addr) (kc : ClassId) (cs : List Int32) (h0 : Heap) (n0 : Nat) (Z0 : n0 ≤ h0.size) (O0 : Old Z n0 h0) (Sd : Sta Z Z.heap "java/lang/StringUTF16" "$assertionsDisabled" "Z" (.int (1 : Int32))) (Sh : Sta Z Z.heap "java/lang/StringUTF16" "HI_BYTE_SHIFT" "I" (.int (0 : Int32))) (Sl : Sta Z Z.heap "java/lang/StringUTF16" "LO_BYTE_SHIFT" "I" (.int (8 : Int32))) (Vs : Arv Z h0 r0 kc .char (Int32.ofNat cs.length) (cs.map Value.int) (.int 0)) (Hw : ∃ c ∈ cs, (255 : Int32) < c) (hl : cs.length ≤ 129) (hB : ∀ c ∈ cs, ¬ c < 0 ∧ ¬ (65535 : Int32) < c) :
    MetFree l (⟨"java/lang/StringUTF16", "compress", "([CII)[B"⟩ : MethodName) (head1 (Jvm.Cond.code (⟨"java/lang/StringUTF16", "compress", "([CII)[B"⟩ : MethodName) jdk_52_method_16_code 6 (some (.array .byte)) :: ws) ({ frames := 3, cells := 2, slots := 387, locals := 40 } : Room)) (fun aX UX => aX = #[(.ref r0), (.int (0 : Int32)), (.int (Int32.ofNat cs.length))] ∧ Z.Warmed39 UX.vm ∧ UX.heap = h0) (fun _ _ _ _ _ => True) (fun _ UX oX UX' => ∃ vX LX, oX = .returned vX ∧ Q6 Z cs h0 n0 vX UX'.heap LX ∧ FrameEnd UX oX UX' LX ({ frames := 3, cells := 2, slots := 387, locals := 40 } : Room).cells ({ frames := 3, cells := 2, slots := 387, locals := 40 } : Room).slots) := by
  refine MetFree.of_bodySF (plainFor_of_name pn_java_lang_StringUTF16) hisR ?_
  intro p e s m args below meth c s₁ Bd hml0 hP hK
  obtain ⟨rfl, hZ, hh⟩ := hP
  have hx := Bd.exec
  have hby := Bd.bytes
  have hml : c.maxLocals = 6 := hml0
  have hown : s.vm.findClass "java/lang/StringUTF16" = some m.cls := findClass_of_methodNamed Bd.named
  have hnm := (name_of_methodNamed Bd.named Bd.method).1
  have X0 : Stand p l e ({ frames := 3, cells := 2, slots := 387, locals := 40 } : Room) s m #[(.ref r0), (.int (0 : Int32)), (.int (Int32.ofNat cs.length))] below meth c s₁ [] 0 0 := Stand.of_body Bd
  have e0 : s₁.heap = h0 := by rw [← hh, Bd.state]; rfl
  have N0 := Fr.nil n0
  show own_Comes p e below s ({ frames := 3, cells := 2, slots := 387, locals := 40 } : Room).cells ({ frames := 3, cells := 2, slots := 387, locals := 40 } : Room).slots (Q6 Z cs h0 n0) _
  rw [show entryFrame m #[(.ref r0), (.int (0 : Int32)), (.int (Int32.ofNat cs.length))] 6 = mkF m 0 #[.val (.ref r0), .val (.int (0 : Int32)), .val (.int (Int32.ofNat cs.length)), .unset, .unset, .unset] [] from ef_rm6 m r0 (0 : Int32) (Int32.ofNat cs.length)]
  show own_Comes p e below s _ _ _ (s₁.setTop (mkF m 0 #[.val (.ref r0), .val (.int (0 : Int32)), .val (.int (Int32.ofNat cs.length)), .unset, .unset, .unset] []))
  refine own_by (fun _ kS => XS.iloadN X0.here hx rfl (hb hby d6_0) rfl kS) ?_
  show own_Comes p e below s _ _ _ (s₁.setTop (mkF m 1 #[.val (.ref r0), .val (.int (0 : Int32)), .val (.int (Int32.ofNat cs.length)), .unset, .unset, .unset] [(.int (Int32.ofNat cs.length))]))
  obtain ⟨T52, h52, k52, X52, e52, E52, A52, st52⟩ := newP X0 hx hZ (hw _ (List.mem_of_getElem? (i := 27) rfl)) e0 (g := (mkF m 1 #[.val (.ref r0), .val (.int (0 : Int32)), .val (.int (Int32.ofNat cs.length)), .unset, .unset, .unset] [(.int (Int32.ofNat cs.length))])) rfl (hb hby d6_1) rfl (own_neg (by omega)) (cap := 129) (by rw [own_tn (by omega)]; omega) (by decide) (by decide) (by decide)
  obtain ⟨b52, g52⟩ : ∃ z, z = h0.size := ⟨_, rfl⟩
  rw [← g52] at A52 st52
  have g_b52 : n0 ≤ b52 := Nat.le_trans Z0 (Nat.le_of_eq g52.symm)
  refine own_by st52 ?_
  have V_b52 : Arv Z h52 b52 k52 .byte (Int32.ofNat cs.length) (List.replicate cs.length (.int (0 : Int32))) (.int (0 : Int32)) := (Arv.new A52 (own_neg (by omega))).pad (pad_rep [] (.int (0 : Int32)) cs.length)
  show own_Comes p e below s _ _ _ (T52.setTop (mkF m 3 #[.val (.ref r0), .val (.int (0 : Int32)), .val (.int (Int32.ofNat cs.length)), .unset, .unset, .unset] [(.ref b52)]))
  have sz_b52 : h0.size ≤ b52 := Nat.le_of_eq g52.symm
  have nA : r0 ≠ b52 := Nat.ne_of_lt (Nat.lt_of_lt_of_le Vs.lt sz_b52)
  refine own_by (fun _ kS => XS.astoreN X52.here hx rfl (hb hby d6_3) rfl rfl (l' := #[.val (.ref r0), .val (.int (0 : Int32)), .val (.int (Int32.ofNat cs.length)), .val (.ref b52), .unset, .unset]) rfl kS) ?_
  show own_Comes p e below s _ _ _ (T52.setTop (mkF m 4 #[.val (.ref r0), .val (.int (0 : Int32)), .val (.int (Int32.ofNat cs.length)), .val (.ref b52), .unset, .unset] []))
  refine own_by (fun _ kS => XS.aloadN X52.here hx rfl (hb hby d6_4) rfl rfl kS) ?_
  show own_Comes p e below s _ _ _ (T52.setTop (mkF m 5 #[.val (.ref r0), .val (.int (0 : Int32)), .val (.int (Int32.ofNat cs.length)), .val (.ref b52), .unset, .unset] [(.ref r0)]))
  refine own_by (fun _ kS => XS.iloadN X52.here hx rfl (hb hby d6_5) rfl kS) ?_
  show own_Comes p e below s _ _ _ (T52.setTop (mkF m 6 #[.val (.ref r0), .val (.int (0 : Int32)), .val (.int (Int32.ofNat cs.length)), .val (.ref b52), .unset, .unset] [(.int (0 : Int32)), (.ref r0)]))
  refine own_by (fun _ kS => XS.aloadN X52.here hx rfl (hb hby d6_6) rfl rfl kS) ?_
  show own_Comes p e below s _ _ _ (T52.setTop (mkF m 7 #[.val (.ref r0), .val (.int (0 : Int32)), .val (.int (Int32.ofNat cs.length)), .val (.ref b52), .unset, .unset] [(.ref b52), (.int (0 : Int32)), (.ref r0)]))
  refine own_by (fun _ kS => XS.iconst X52.here hx rfl (hb hby d6_7) kS) ?_
  show own_Comes p e below s _ _ _ (T52.setTop (mkF m 8 #[.val (.ref r0), .val (.int (0 : Int32)), .val (.int (Int32.ofNat cs.length)), .val (.ref b52), .unset, .unset] [(.int (0 : Int32)), (.ref b52), (.int (0 : Int32)), (.ref r0)]))
  refine own_by (fun _ kS => XS.iloadN X52.here hx rfl (hb hby d6_8) rfl kS) ?_
  show own_Comes p e below s _ _ _ (T52.setTop (mkF m 9 #[.val (.ref r0), .val (.int (0 : Int32)), .val (.int (Int32.ofNat cs.length)), .val (.ref b52), .unset, .unset] [(.int (Int32.ofNat cs.length)), (.int (0 : Int32)), (.ref b52), (.int (0 : Int32)), (.ref r0)]))
  obtain ⟨vv53, _, ⟨T53, L53, k53, n53⟩, -, X53, ⟨Lc53, hQ53, l53, y53, z53⟩, st53⟩ := Jvm.LawKit.callS X52 hx (y := (⟨"java/lang/StringUTF16", "compress", "([CI[BII)I"⟩ : MethodName)) hown (mvT hZ (hw _ (List.mem_of_getElem? (i := 28) rfl))) (mvT hZ (hw _ (List.mem_of_getElem? (i := 29) rfl))) (mvT hZ (hw _ (List.mem_of_getElem? (i := 25) rfl))) (mvT hZ (hw _ (List.mem_of_getElem? (i := 30) rfl))) (by decide) (backOf (W := 0) (rm7 l Z a0 hw [] r0 b52 kc k52 cs _ h52 n0 (Nat.le_trans Z0 E52.1) (Vs.ext E52) V_b52 (by simp) nA g_b52 Hw hl) hZ (hw _ (List.mem_of_getElem? (i := 30) rfl)) (hw _ (List.mem_of_getElem? (i := 25) rfl)) (by decide) (by decide)) (g := (mkF m 9 #[.val (.ref r0), .val (.int (0 : Int32)), .val (.int (Int32.ofNat cs.length)), .val (.ref b52), .unset, .unset] [(.int (Int32.ofNat cs.length)), (.int (0 : Int32)), (.ref b52), (.int (0 : Int32)), (.ref r0)])) rfl (by rw [hml]; rfl) (argsL := [(.ref r0), (.int (0 : Int32)), (.ref b52), (.int (0 : Int32)), (.int (Int32.ofNat cs.length))]) (rest := []) (lenOf pd___CI_BII_I_688 rfl) rfl (by show 2 * 0 + _ ≤ _; exact Nat.le_of_eq rfl) (hb hby d6_9) (fun _ _ => ⟨rfl, e52, (by decide : 1 + 0 ≤ _), (by decide : 129 + 0 ≤ _)⟩)
  dsimp only [Pt.U, Pt.locs, Pt.cells, Pt.slots] at X53 l53 y53 z53 st53 hQ53
  subst l53 y53 z53
  obtain ⟨kk, rfl, N53q, K53, hk, hbig⟩ := hQ53
  have N53 := Fr.app N0 N53q
  refine own_by st53 ?_
  show own_Comes p e below s _ _ _ (T53.setTop (mkF m 12 #[.val (.ref r0), .val (.int (0 : Int32)), .val (.int (Int32.ofNat cs.length)), .val (.ref b52), .unset, .unset] [(.int (Int32.ofNat kk))]))
  refine own_by (fun _ kS => XS.istore X53.here hx rfl (hb hby d6_12) rfl (l' := #[.val (.ref r0), .val (.int (0 : Int32)), .val (.int (Int32.ofNat cs.length)), .val (.ref b52), .val (.int (Int32.ofNat kk)), .unset]) rfl kS) ?_
  show own_Comes p e below s _ _ _ (T53.setTop (mkF m 14 #[.val (.ref r0), .val (.int (0 : Int32)), .val (.int (Int32.ofNat cs.length)), .val (.ref b52), .val (.int (Int32.ofNat kk)), .unset] []))
  refine own_by (fun _ kS => XS.iload X53.here hx rfl (hb hby d6_14) rfl kS) ?_
  show own_Comes p e below s _ _ _ (T53.setTop (mkF m 16 #[.val (.ref r0), .val (.int (0 : Int32)), .val (.int (Int32.ofNat cs.length)), .val (.ref b52), .val (.int (Int32.ofNat kk)), .unset] [(.int (Int32.ofNat kk))]))
  refine own_by (fun _ kS => XS.iloadN X53.here hx rfl (hb hby d6_16) rfl kS) ?_
  show own_Comes p e below s _ _ _ (T53.setTop (mkF m 17 #[.val (.ref r0), .val (.int (0 : Int32)), .val (.int (Int32.ofNat cs.length)), .val (.ref b52), .val (.int (Int32.ofNat kk)), .unset] [(.int (Int32.ofNat cs.length)), (.int (Int32.ofNat kk))]))
  have hb54 : ¬ ((Int32.ofNat kk) = (Int32.ofNat cs.length)) := own_ne32 (by omega) (by omega) hk
  refine own_by (fun _ kS => XS.icmpNo X53.here hx rfl (hb hby d6_17) rfl (feq hb54).1 kS) ?_
  show own_Comes p e below s _ _ _ (T53.setTop (mkF m 20 #[.val (.ref r0), .val (.int (0 : Int32)), .val (.int (Int32.ofNat cs.length)), .val (.ref b52), .val (.int (Int32.ofNat kk)), .unset] []))
  refine own_by (fun _ kS => XS.aloadN X53.here hx rfl (hb hby d6_20) rfl rfl kS) ?_
  show own_Comes p e below s _ _ _ (T53.setTop (mkF m 21 #[.val (.ref r0), .val (.int (0 : Int32)), .val (.int (Int32.ofNat cs.length)), .val (.ref b52), .val (.int (Int32.ofNat kk)), .unset] [(.ref r0)]))
  refine own_by (fun _ kS => XS.iloadN X53.here hx rfl (hb hby d6_21) rfl kS) ?_
  show own_Comes p e below s _ _ _ (T53.setTop (mkF m 22 #[.val (.ref r0), .val (.int (0 : Int32)), .val (.int (Int32.ofNat cs.length)), .val (.ref b52), .val (.int (Int32.ofNat kk)), .unset] [(.int (0 : Int32)), (.ref r0)]))
  refine own_by (fun _ kS => XS.iloadN X53.here hx rfl (hb hby d6_22) rfl kS) ?_
  show own_Comes p e below s _ _ _ (T53.setTop (mkF m 23 #[.val (.ref r0), .val (.int (0 : Int32)), .val (.int (Int32.ofNat cs.length)), .val (.ref b52), .val (.int (Int32.ofNat kk)), .unset] [(.int (Int32.ofNat cs.length)), (.int (0 : Int32)), (.ref r0)]))
  obtain ⟨vv55, _, ⟨T55, L55, k55, n55⟩, -, X55, ⟨Lc55, hQ55, l55, y55, z55⟩, st55⟩ := Jvm.LawKit.callS X53 hx (y := (⟨"java/lang/StringUTF16", "toBytes", "([CII)[B"⟩ : MethodName)) hown (mvT hZ (hw _ (List.mem_of_getElem? (i := 51) rfl))) (mvT hZ (hw _ (List.mem_of_getElem? (i := 52) rfl))) (mvT hZ (hw _ (List.mem_of_getElem? (i := 25) rfl))) (mvT hZ (hw _ (List.mem_of_getElem? (i := 53) rfl))) (by decide) (backOf (W := 0) (rm12 l Z a0 hw [] r0 kc cs T53.heap n0 (Nat.le_trans (Nat.le_trans Z0 E52.1) K53.1) ((O0.ext E52).keep K53 (allS g_b52 all0)) Sd Sh Sl ((Vs.ext E52).keep K53 (ninS nA nin0)) hl) hZ (hw _ (List.mem_of_getElem? (i := 53) rfl)) (hw _ (List.mem_of_getElem? (i := 25) rfl)) (by decide) (by decide)) (g := (mkF m 23 #[.val (.ref r0), .val (.int (0 : Int32)), .val (.int (Int32.ofNat cs.length)), .val (.ref b52), .val (.int (Int32.ofNat kk)), .unset] [(.int (Int32.ofNat cs.length)), (.int (0 : Int32)), (.ref r0)])) rfl (by rw [hml]; rfl) (argsL := [(.ref r0), (.int (0 : Int32)), (.int (Int32.ofNat cs.length))]) (rest := []) (lenOf pd___CII__B_542 rfl) rfl (by show 2 * 0 + _ ≤ _; exact Nat.le_of_eq rfl) (hb hby d6_23) (fun _ _ => ⟨rfl, rfl, (by decide : 1 + 1 ≤ _), (by decide : 129 + 258 ≤ _)⟩)
  dsimp only [Pt.U, Pt.locs, Pt.cells, Pt.slots] at X55 l55 y55 z55 st55 hQ55
  subst l55 y55 z55
  obtain ⟨a55, kb55, rfl, N55q, E55, g_a55, sz_a55, V55⟩ := hQ55
  have N55 := Fr.app N53 N55q
  refine own_by st55 ?_
  show own_Comes p e below s _ _ _ (T55.setTop (mkF m 26 #[.val (.ref r0), .val (.int (0 : Int32)), .val (.int (Int32.ofNat cs.length)), .val (.ref b52), .val (.int (Int32.ofNat kk)), .unset] [(.ref a55)]))
  refine own_by (fun _ kS => XS.astore X55.here hx rfl (hb hby d6_26) rfl rfl (l' := #[.val (.ref r0), .val (.int (0 : Int32)), .val (.int (Int32.ofNat cs.length)), .val (.ref b52), .val (.int (Int32.ofNat kk)), .val (.ref a55)]) rfl kS) ?_
  show own_Comes p e below s _ _ _ (T55.setTop (mkF m 28 #[.val (.ref r0), .val (.int (0 : Int32)), .val (.int (Int32.ofNat cs.length)), .val (.ref b52), .val (.int (Int32.ofNat kk)), .val (.ref a55)] []))
  refine own_by (fun _ kS => XS.aload X55.here hx rfl (hb hby d6_28) rfl rfl kS) ?_
  show own_Comes p e below s _ _ _ (T55.setTop (mkF m 30 #[.val (.ref r0), .val (.int (0 : Int32)), .val (.int (Int32.ofNat cs.length)), .val (.ref b52), .val (.int (Int32.ofNat kk)), .val (.ref a55)] [(.ref a55)]))
  refine own_by (fun _ kS => XS.iload X55.here hx rfl (hb hby d6_30) rfl kS) ?_
  show own_Comes p e below s _ _ _ (T55.setTop (mkF m 32 #[.val (.ref r0), .val (.int (0 : Int32)), .val (.int (Int32.ofNat cs.length)), .val (.ref b52), .val (.int (Int32.ofNat kk)), .val (.ref a55)] [(.int (Int32.ofNat kk)), (.ref a55)]))
  have c56 := (((O0.ext E52).keep K53 (allS g_b52 all0)).ext E55)
  obtain ⟨vv57, _, ⟨T57, L57, k57, n57⟩, -, X57, ⟨Lc57, hQ57, l57, y57, z57⟩, st57⟩ := Jvm.LawKit.callS X55 hx (y := (⟨"java/lang/StringUTF16", "getChar", "([BI)C"⟩ : MethodName)) hown (mvT hZ (hw _ (List.mem_of_getElem? (i := 67) rfl))) (mvT hZ (hw _ (List.mem_of_getElem? (i := 68) rfl))) (mvT hZ (hw _ (List.mem_of_getElem? (i := 25) rfl))) (mvT hZ (hw _ (List.mem_of_getElem? (i := 69) rfl))) (by decide) (backOf (W := 0) (rm16 l Z a0 hw [] a55 kk kb55 cs T55.heap n0 (Nat.le_trans (Nat.le_trans (Nat.le_trans Z0 E52.1) K53.1) E55.1) c56 Sd Sh Sl V55 (by omega) hk hB) hZ (hw _ (List.mem_of_getElem? (i := 69) rfl)) (hw _ (List.mem_of_getElem? (i := 25) rfl)) (by decide) (by decide)) (g := (mkF m 32 #[.val (.ref r0), .val (.int (0 : Int32)), .val (.int (Int32.ofNat cs.length)), .val (.ref b52), .val (.int (Int32.ofNat kk)), .val (.ref a55)] [(.int (Int32.ofNat kk)), (.ref a55)])) rfl (by rw [hml]; rfl) (argsL := [(.ref a55), (.int (Int32.ofNat kk))]) (rest := []) (lenOf pd___BI_C_378 rfl) rfl (by show 2 * 0 + _ ≤ _; exact Nat.le_of_eq rfl) (hb hby d6_32) (fun _ _ => ⟨rfl, rfl, (by decide : 2 + 0 ≤ _), (by decide : 387 + 0 ≤ _)⟩)
  dsimp only [Pt.U, Pt.locs, Pt.cells, Pt.slots] at X57 l57 y57 z57 st57 hQ57
  subst l57 y57 z57
  obtain ⟨rfl, N57q, e57q⟩ := hQ57
  have N57 := Fr.app N55 N57q
  refine own_by st57 ?_
  have e57 : T57.heap = T55.heap := e57q
  show own_Comes p e below s _ _ _ (T57.setTop (mkF m 35 #[.val (.ref r0), .val (.int (0 : Int32)), .val (.int (Int32.ofNat cs.length)), .val (.ref b52), .val (.int (Int32.ofNat kk)), .val (.ref a55)] [(.int (cs.getD kk 0))]))
  refine own_by (fun _ kS => XS.sipush X57.here hx rfl (hb hby d6_35) kS) ?_
  show own_Comes p e below s _ _ _ (T57.setTop (mkF m 38 #[.val (.ref r0), .val (.int (0 : Int32)), .val (.int (Int32.ofNat cs.length)), .val (.ref b52), .val (.int (Int32.ofNat kk)), .val (.ref a55)] [(.int (255 : Int32)), (.int (cs.getD kk 0))]))
  refine own_by (fun _ kS => XS.icmpYes X57.here hx rfl (pc0 := 38) (pc' := 54) rfl (hb hby d6_38) rfl (tlt hbig).2.2.1 (by decide) (by decide) kS) ?_
  show own_Comes p e below s _ _ _ (T57.setTop (mkF m 54 #[.val (.ref r0), .val (.int (0 : Int32)), .val (.int (Int32.ofNat cs.length)), .val (.ref b52), .val (.int (Int32.ofNat kk)), .val (.ref a55)] []))
  refine own_by (fun _ kS => XS.aload X57.here hx rfl (hb hby d6_54) rfl rfl kS) ?_
  show own_Comes p e below s _ _ _ (T57.setTop (mkF m 56 #[.val (.ref r0), .val (.int (0 : Int32)), .val (.int (Int32.ofNat cs.length)), .val (.ref b52), .val (.int (Int32.ofNat kk)), .val (.ref a55)] [(.ref a55)]))
  refine own_ret X57 (v := some (.ref a55)) (fun h => by rw [Bd.returns] at h; cases h) Bd.notSynchronized (by decide) (by decide) ?_ (fun fs hr => own_reta X57 hx Bd.returns rfl rfl (hb hby d6_56) hr)
  rw [e57]; exact ⟨_, _, rfl, N57, own_ext ((((Keep.refl _ _).ext E52).trans K53 (allS (Or.inr sz_b52) all0)).ext E55), g_a55, Nat.le_trans (((Keep.refl _ ([] : List Addr)).ext E52).trans K53 (allS (Or.inr sz_b52) all0)).1 sz_a55, V55⟩
def Q8 (Z : State)  (h0 : Heap) (n0 : Nat) (v : Option Value) (h : Heap) (L : List Loc) : Prop := v = some (.int (1 : Int32)) ∧ Fr n0 L ∧ h = h0
theorem ef_rm8 (m : MethodId) (x0 : Addr) (x1 : Int32) : entryFrame m #[(.ref x0), (.int x1)] 2 = mkF m 0 #[.val (.ref x0), .val (.int x1)] [] := by first | (simp [entryFrame, mkF, argsToLocals, Value.category]; done) | rfl
theorem d8_0 : decode jdk_52_method_15_code 0 = .ok (.iload_n 1, 1) := by decide +kernel
theorem d8_1 : decode jdk_52_method_15_code 1 = .ok (.aload_n 0, 1) := by decide +kernel
theorem d8_2 : decode jdk_52_method_15_code 2 = .ok (.arraylength, 1) := by decide +kernel
theorem d8_3 : decode jdk_52_method_15_code 3 = .ok (.isub, 1) := by decide +kernel
theorem d8_4 : decode jdk_52_method_15_code 4 = .ok (.bipush 31, 2) := by decide +kernel
theorem d8_6 : decode jdk_52_method_15_code 6 = .ok (.iushr, 1) := by decide +kernel
theorem d8_7 : decode jdk_52_method_15_code 7 = .ok (.i2b, 1) := by decide +kernel
theorem d8_8 : decode jdk_52_method_15_code 8 = .ok (.ireturn, 1) := by decide +kernel
set_option maxRecDepth 65536 in
set_option maxHeartbeats 40000000 in
theorem rm8 (l : Launch) (Z : State) (a0 : Array Value) (hw : ∀ d ∈ tables_1, d.before a0 Z = true) (ws : List Jvm.Cond) (r0 : Addr) (kb : ClassId) (cs : List Int32) (h0 : Heap) (n0 : Nat) (Z0 : n0 ≤ h0.size) (Va : Arv Z h0 r0 kb .byte (Int32.ofNat (2 * cs.length)) (StrChars.Road.wideBytes cs) (.int 0)) (h0l : 0 < cs.length) (hl : cs.length ≤ 129) :
    MetFree l (⟨"java/lang/StringUTF16", "coderFromArrayLen", "([BI)B"⟩ : MethodName) (head1 (Jvm.Cond.code (⟨"java/lang/StringUTF16", "coderFromArrayLen", "([BI)B"⟩ : MethodName) jdk_52_method_15_code 2 (some .byte) :: ws) ({ frames := 0, cells := 0, slots := 0, locals := 0 } : Room)) (fun aX UX => aX = #[(.ref r0), (.int (Int32.ofNat cs.length))] ∧ Z.Warmed39 UX.vm ∧ UX.heap = h0) (fun _ _ _ _ _ => True) (fun _ UX oX UX' => ∃ vX LX, oX = .returned vX ∧ Q8 Z  h0 n0 vX UX'.heap LX ∧ FrameEnd UX oX UX' LX ({ frames := 0, cells := 0, slots := 0, locals := 0 } : Room).cells ({ frames := 0, cells := 0, slots := 0, locals := 0 } : Room).slots) := by
  refine MetFree.of_bodySF (plainFor_of_name pn_java_lang_StringUTF16) hisR ?_
  intro p e s m args below meth c s₁ Bd hml0 hP hK
  obtain ⟨rfl, hZ, hh⟩ := hP
  have hx := Bd.exec
  have hby := Bd.bytes
  have hml : c.maxLocals = 2 := hml0
  have hown : s.vm.findClass "java/lang/StringUTF16" = some m.cls := findClass_of_methodNamed Bd.named
  have hnm := (name_of_methodNamed Bd.named Bd.method).1
  have X0 : Stand p l e ({ frames := 0, cells := 0, slots := 0, locals := 0 } : Room) s m #[(.ref r0), (.int (Int32.ofNat cs.length))] below meth c s₁ [] 0 0 := Stand.of_body Bd
  have e0 : s₁.heap = h0 := by rw [← hh, Bd.state]; rfl
  have N0 := Fr.nil n0
  show own_Comes p e below s ({ frames := 0, cells := 0, slots := 0, locals := 0 } : Room).cells ({ frames := 0, cells := 0, slots := 0, locals := 0 } : Room).slots (Q8 Z  h0 n0) _
  rw [show entryFrame m #[(.ref r0), (.int (Int32.ofNat cs.length))] 2 = mkF m 0 #[.val (.ref r0), .val (.int (Int32.ofNat cs.length))] [] from ef_rm8 m r0 (Int32.ofNat cs.length)]
  show own_Comes p e below s _ _ _ (s₁.setTop (mkF m 0 #[.val (.ref r0), .val (.int (Int32.ofNat cs.length))] []))
  refine own_by (fun _ kS => XS.iloadN X0.here hx rfl (hb hby d8_0) rfl kS) ?_
  show own_Comes p e below s _ _ _ (s₁.setTop (mkF m 1 #[.val (.ref r0), .val (.int (Int32.ofNat cs.length))] [(.int (Int32.ofNat cs.length))]))
  refine own_by (fun _ kS => XS.aloadN X0.here hx rfl (hb hby d8_1) rfl rfl kS) ?_
  show own_Comes p e below s _ _ _ (s₁.setTop (mkF m 2 #[.val (.ref r0), .val (.int (Int32.ofNat cs.length))] [(.ref r0), (.int (Int32.ofNat cs.length))]))
  have Vo58 := Va
  obtain ⟨cl58, Ar58, qA58, SA58, NA58, HA58, GA58⟩ := Vo58
  refine own_by (fun _ kS => X0.arraylength hx (by rw [e0]; exact Ar58.1) (State.isArrayOf_alike hZ.alike Ar58.2.1) (g := (mkF m 2 #[.val (.ref r0), .val (.int (Int32.ofNat cs.length))] [(.ref r0), (.int (Int32.ofNat cs.length))])) rfl rfl (hb hby d8_2) _ kS) ?_
  rw [len_of SA58 NA58]
  show own_Comes p e below s _ _ _ (s₁.setTop (mkF m 3 #[.val (.ref r0), .val (.int (Int32.ofNat cs.length))] [(.int (Int32.ofNat (2 * cs.length))), (.int (Int32.ofNat cs.length))]))
  refine own_by (fun _ kS => XS.isub X0.here hx rfl (hb hby d8_3) rfl kS) ?_
  show own_Comes p e below s _ _ _ (s₁.setTop (mkF m 4 #[.val (.ref r0), .val (.int (Int32.ofNat cs.length))] [(.int ((Int32.ofNat cs.length) - (Int32.ofNat (2 * cs.length))))]))
  refine own_by (fun _ kS => XS.bipush X0.here hx rfl (hb hby d8_4) kS) ?_
  show own_Comes p e below s _ _ _ (s₁.setTop (mkF m 6 #[.val (.ref r0), .val (.int (Int32.ofNat cs.length))] [(.int (31 : Int32)), (.int ((Int32.ofNat cs.length) - (Int32.ofNat (2 * cs.length))))]))
  refine own_by (fun _ kS => XS.iushr X0.here hx rfl (hb hby d8_6) rfl kS) ?_
  show own_Comes p e below s _ _ _ (s₁.setTop (mkF m 7 #[.val (.ref r0), .val (.int (Int32.ofNat cs.length))] [(.int ((((Int32.ofNat cs.length) - (Int32.ofNat (2 * cs.length))).toUInt32 >>> ((31 : Int32) &&& 31).toUInt32).toInt32))]))
  refine own_by (fun _ kS => XS.i2b X0.here hx rfl (hb hby d8_7) rfl kS) ?_
  show own_Comes p e below s _ _ _ (s₁.setTop (mkF m 8 #[.val (.ref r0), .val (.int (Int32.ofNat cs.length))] [(.int (((((Int32.ofNat cs.length) - (Int32.ofNat (2 * cs.length))).toUInt32 >>> ((31 : Int32) &&& 31).toUInt32).toInt32).toInt8.toInt32))]))
  refine own_ret X0 (v := some (.int (nar .byte (((((Int32.ofNat cs.length) - (Int32.ofNat (2 * cs.length))).toUInt32 >>> ((31 : Int32) &&& 31).toUInt32).toInt32).toInt8.toInt32)))) (fun h => by rw [Bd.returns] at h; cases h) Bd.notSynchronized (by decide) (by decide) ?_ (fun fs hr => retN X0 hx (t := .byte) Bd.returns (by simp) (hb hby d8_8) hr)
  rw [e0]; exact ⟨congrArg (fun z => some (Value.int z)) (own_cod h0l (by omega)), N0, rfl⟩
def Q4w (Z : State) (r0 : Addr) (cs : List Int32) (h0 : Heap) (n0 : Nat) (v : Option Value) (h : Heap) (L : List Loc) : Prop := v = none ∧ Fr n0 L ∧ Keep h0 h [r0] ∧ own_Txt Z h r0 cs
theorem ef_rm4w (m : MethodId) (x0 : Addr) (x1 : Addr) (x2 : Int32) (x3 : Int32) : entryFrame m #[(.ref x0), (.ref x1), (.int x2), (.int x3), .null] 6 = mkF m 0 #[.val (.ref x0), .val (.ref x1), .val (.int x2), .val (.int x3), .val .null, .unset] [] := by first | (simp [entryFrame, mkF, argsToLocals, Value.category]; done) | rfl
theorem d4_0 : decode jdk_42_method_149_code 0 = .ok (.aload_n 0, 1) := by decide +kernel
theorem d4_1 : decode jdk_42_method_149_code 1 = .ok (.invokespecial 1, 3) := by decide +kernel
theorem d4_4 : decode jdk_42_method_149_code 4 = .ok (.iload_n 3, 1) := by decide +kernel
theorem d4_5 : decode jdk_42_method_149_code 5 = .ok (.ifCond .ne 22, 3) := by decide +kernel
theorem d4_27 : decode jdk_42_method_149_code 27 = .ok (.getstatic 38, 3) := by decide +kernel
theorem d4_30 : decode jdk_42_method_149_code 30 = .ok (.ifCond .eq 28, 3) := by decide +kernel
theorem d4_33 : decode jdk_42_method_149_code 33 = .ok (.aload_n 1, 1) := by decide +kernel
theorem d4_34 : decode jdk_42_method_149_code 34 = .ok (.iload_n 2, 1) := by decide +kernel
theorem d4_35 : decode jdk_42_method_149_code 35 = .ok (.iload_n 3, 1) := by decide +kernel
theorem d4_36 : decode jdk_42_method_149_code 36 = .ok (.invokestatic 177, 3) := by decide +kernel
theorem d4_39 : decode jdk_42_method_149_code 39 = .ok (.astore 5, 2) := by decide +kernel
theorem d4_41 : decode jdk_42_method_149_code 41 = .ok (.aload_n 0, 1) := by decide +kernel
theorem d4_42 : decode jdk_42_method_149_code 42 = .ok (.aload 5, 2) := by decide +kernel
theorem d4_44 : decode jdk_42_method_149_code 44 = .ok (.iload_n 3, 1) := by decide +kernel
theorem pd___BI_B_377 : parseMethodDescriptor "([BI)B" = some ⟨[(.array .byte), .int], some .byte⟩ := by decide +kernel
theorem d4_45 : decode jdk_42_method_149_code 45 = .ok (.invokestatic 47, 3) := by decide +kernel
theorem d4_48 : decode jdk_42_method_149_code 48 = .ok (.putfield 15, 3) := by decide +kernel
theorem d4_51 : decode jdk_42_method_149_code 51 = .ok (.aload_n 0, 1) := by decide +kernel
theorem d4_52 : decode jdk_42_method_149_code 52 = .ok (.aload 5, 2) := by decide +kernel
theorem d4_54 : decode jdk_42_method_149_code 54 = .ok (.putfield 9, 3) := by decide +kernel
theorem d4_57 : decode jdk_42_method_149_code 57 = .ok (.return_, 1) := by decide +kernel
set_option maxRecDepth 65536 in
set_option maxHeartbeats 40000000 in
theorem rm4w (l : Launch) (Z : State) (a0 : Array Value) (hw : ∀ d ∈ tables_1, d.before a0 Z = true) (ws : List Jvm.Cond) (r0 r1 : Addr) (kc : ClassId) (cs : List Int32) (zc : Int32) (h0 : Heap) (n0 : Nat) (Z0 : n0 ≤ h0.size) (O0 : Old Z n0 h0) (Sz : Sta Z Z.heap "java/lang/String" "COMPACT_STRINGS" "Z" (.int zc)) (hzc : ¬ zc = 0) (Sd : Sta Z Z.heap "java/lang/StringUTF16" "$assertionsDisabled" "Z" (.int (1 : Int32))) (Sh : Sta Z Z.heap "java/lang/StringUTF16" "HI_BYTE_SHIFT" "I" (.int (0 : Int32))) (Sl : Sta Z Z.heap "java/lang/StringUTF16" "LO_BYTE_SHIFT" "I" (.int (8 : Int32))) (Et : Exa Z h0 r0 "java/lang/String") (Fv : Fld Z h0 r0 "java/lang/String" "value" "[B" .null) (Fc : Fld Z h0 r0 "java/lang/String" "coder" "B" (.int (0 : Int32))) (g_r0 : n0 ≤ r0) (nA : r0 ≠ r1) (Vs : Arv Z h0 r1 kc .char (Int32.ofNat cs.length) (cs.map Value.int) (.int 0)) (Hw : ∃ c ∈ cs, (255 : Int32) < c) (h0l : 0 < cs.length) (hl : cs.length ≤ 129) (hB : ∀ c ∈ cs, ¬ c < 0 ∧ ¬ (65535 : Int32) < c) :
    MetFree l (⟨"java/lang/String", "<init>", "([CIILjava/lang/Void;)V"⟩ : MethodName) (head1 (Jvm.Cond.code (⟨"java/lang/String", "<init>", "([CIILjava/lang/Void;)V"⟩ : MethodName) jdk_42_method_149_code 6 none :: ws) ({ frames := 4, cells := 2, slots := 387, locals := 57 } : Room)) (fun aX UX => aX = #[(.ref r0), (.ref r1), (.int (0 : Int32)), (.int (Int32.ofNat cs.length)), .null] ∧ Z.Warmed39 UX.vm ∧ UX.heap = h0) (fun _ _ _ _ _ => True) (fun _ UX oX UX' => ∃ vX LX, oX = .returned vX ∧ Q4w Z r0 cs h0 n0 vX UX'.heap LX ∧ FrameEnd UX oX UX' LX ({ frames := 4, cells := 2, slots := 387, locals := 57 } : Room).cells ({ frames := 4, cells := 2, slots := 387, locals := 57 } : Room).slots) := by
  refine MetFree.of_bodySF (plainFor_of_name pn_java_lang_String) hisR ?_
  intro p e s m args below meth c s₁ Bd hml0 hP hK
  obtain ⟨rfl, hZ, hh⟩ := hP
  have hx := Bd.exec
  have hby := Bd.bytes
  have hml : c.maxLocals = 6 := hml0
  have hown : s.vm.findClass "java/lang/String" = some m.cls := findClass_of_methodNamed Bd.named
  have hnm := (name_of_methodNamed Bd.named Bd.method).1
  have X0 : Stand p l e ({ frames := 4, cells := 2, slots := 387, locals := 57 } : Room) s m #[(.ref r0), (.ref r1), (.int (0 : Int32)), (.int (Int32.ofNat cs.length)), .null] below meth c s₁ [] 0 0 := Stand.of_body Bd
  have e0 : s₁.heap = h0 := by rw [← hh, Bd.state]; rfl
  have N0 := Fr.nil n0
  show own_Comes p e below s ({ frames := 4, cells := 2, slots := 387, locals := 57 } : Room).cells ({ frames := 4, cells := 2, slots := 387, locals := 57 } : Room).slots (Q4w Z r0 cs h0 n0) _
  rw [show entryFrame m #[(.ref r0), (.ref r1), (.int (0 : Int32)), (.int (Int32.ofNat cs.length)), .null] 6 = mkF m 0 #[.val (.ref r0), .val (.ref r1), .val (.int (0 : Int32)), .val (.int (Int32.ofNat cs.length)), .val .null, .unset] [] from ef_rm4w m r0 r1 (0 : Int32) (Int32.ofNat cs.length)]
  show own_Comes p e below s _ _ _ (s₁.setTop (mkF m 0 #[.val (.ref r0), .val (.ref r1), .val (.int (0 : Int32)), .val (.int (Int32.ofNat cs.length)), .val .null, .unset] []))
  refine own_by (fun _ kS => XS.aloadN X0.here hx rfl (hb hby d4_0) rfl rfl kS) ?_
  show own_Comes p e below s _ _ _ (s₁.setTop (mkF m 1 #[.val (.ref r0), .val (.ref r1), .val (.int (0 : Int32)), .val (.int (Int32.ofNat cs.length)), .val .null, .unset] [(.ref r0)]))
  obtain ⟨T59, X59, e59, st59⟩ := initO X0 hx hZ hown (hw _ (List.mem_of_getElem? (i := 19) rfl)) (hw _ (List.mem_of_getElem? (i := 20) rfl)) (hw _ (List.mem_of_getElem? (i := 21) rfl)) e0 (g := (mkF m 1 #[.val (.ref r0), .val (.ref r1), .val (.int (0 : Int32)), .val (.int (Int32.ofNat cs.length)), .val .null, .unset] [(.ref r0)])) rfl (by rw [hml]; rfl) rfl (hb hby d4_1) (by decide) (W := 0) (by show 2 * 0 + _ ≤ _; exact Nat.le_of_eq rfl) (by decide)
  refine own_by st59 ?_
  show own_Comes p e below s _ _ _ (T59.setTop (mkF m 4 #[.val (.ref r0), .val (.ref r1), .val (.int (0 : Int32)), .val (.int (Int32.ofNat cs.length)), .val .null, .unset] []))
  refine own_by (fun _ kS => XS.iloadN X59.here hx rfl (hb hby d4_4) rfl kS) ?_
  show own_Comes p e below s _ _ _ (T59.setTop (mkF m 5 #[.val (.ref r0), .val (.ref r1), .val (.int (0 : Int32)), .val (.int (Int32.ofNat cs.length)), .val .null, .unset] [(.int (Int32.ofNat cs.length))]))
  have hb60 : ¬ ((Int32.ofNat cs.length) = (0 : Int32)) := own_not0 h0l (by omega)
  refine own_by (fun _ kS => XS.ifYes X59.here hx rfl (pc0 := 5) (pc' := 27) rfl (hb hby d4_5) rfl ((if0 _ _).trans (feq hb60).2) (by decide) (by decide) kS) ?_
  show own_Comes p e below s _ _ _ (T59.setTop (mkF m 27 #[.val (.ref r0), .val (.ref r1), .val (.int (0 : Int32)), .val (.int (Int32.ofNat cs.length)), .val .null, .unset] []))
  obtain ⟨T61, X61, e61, st61⟩ := getS2 X59 hx hZ hown (host := "") (Or.inl (hw _ (List.mem_of_getElem? (i := 22) rfl))) Via.refl e59 (Sz.ext O0.2) (g := (mkF m 27 #[.val (.ref r0), .val (.ref r1), .val (.int (0 : Int32)), .val (.int (Int32.ofNat cs.length)), .val .null, .unset] [])) rfl (hb hby d4_27)
  refine own_by st61 ?_
  show own_Comes p e below s _ _ _ (T61.setTop (mkF m 30 #[.val (.ref r0), .val (.ref r1), .val (.int (0 : Int32)), .val (.int (Int32.ofNat cs.length)), .val .null, .unset] [(.int zc)]))
  refine own_by (fun _ kS => XS.ifNo X61.here hx rfl (hb hby d4_30) rfl ((if0 _ _).trans (feq hzc).1) kS) ?_
  show own_Comes p e below s _ _ _ (T61.setTop (mkF m 33 #[.val (.ref r0), .val (.ref r1), .val (.int (0 : Int32)), .val (.int (Int32.ofNat cs.length)), .val .null, .unset] []))
  refine own_by (fun _ kS => XS.aloadN X61.here hx rfl (hb hby d4_33) rfl rfl kS) ?_
  show own_Comes p e below s _ _ _ (T61.setTop (mkF m 34 #[.val (.ref r0), .val (.ref r1), .val (.int (0 : Int32)), .val (.int (Int32.ofNat cs.length)), .val .null, .unset] [(.ref r1)]))
  refine own_by (fun _ kS => XS.iloadN X61.here hx rfl (hb hby d4_34) rfl kS) ?_
  show own_Comes p e below s _ _ _ (T61.setTop (mkF m 35 #[.val (.ref r0), .val (.ref r1), .val (.int (0 : Int32)), .val (.int (Int32.ofNat cs.length)), .val .null, .unset] [(.int (0 : Int32)), (.ref r1)]))
  refine own_by (fun _ kS => XS.iloadN X61.here hx rfl (hb hby d4_35) rfl kS) ?_
  show own_Comes p e below s _ _ _ (T61.setTop (mkF m 36 #[.val (.ref r0), .val (.ref r1), .val (.int (0 : Int32)), .val (.int (Int32.ofNat cs.length)), .val .null, .unset] [(.int (Int32.ofNat cs.length)), (.int (0 : Int32)), (.ref r1)]))
  obtain ⟨vv62, _, ⟨T62, L62, k62, n62⟩, -, X62, ⟨Lc62, hQ62, l62, y62, z62⟩, st62⟩ := Jvm.LawKit.callS X61 hx (y := (⟨"java/lang/StringUTF16", "compress", "([CII)[B"⟩ : MethodName)) hown (mvT hZ (hw _ (List.mem_of_getElem? (i := 23) rfl))) (mvT hZ (hw _ (List.mem_of_getElem? (i := 24) rfl))) (mvT hZ (hw _ (List.mem_of_getElem? (i := 25) rfl))) (mvT hZ (hw _ (List.mem_of_getElem? (i := 26) rfl))) (by decide) (backOf (W := 0) (rm6 l Z a0 hw [] r1 kc cs h0 n0 Z0 O0 Sd Sh Sl Vs Hw hl hB) hZ (hw _ (List.mem_of_getElem? (i := 26) rfl)) (hw _ (List.mem_of_getElem? (i := 25) rfl)) (by decide) (by decide)) (g := (mkF m 36 #[.val (.ref r0), .val (.ref r1), .val (.int (0 : Int32)), .val (.int (Int32.ofNat cs.length)), .val .null, .unset] [(.int (Int32.ofNat cs.length)), (.int (0 : Int32)), (.ref r1)])) rfl (by rw [hml]; rfl) (argsL := [(.ref r1), (.int (0 : Int32)), (.int (Int32.ofNat cs.length))]) (rest := []) (lenOf pd___CII__B_542 rfl) rfl (by show 2 * 0 + _ ≤ _; exact Nat.le_of_eq rfl) (hb hby d4_36) (fun _ _ => ⟨rfl, e61, (by decide : 0 + 2 ≤ _), (by decide : 0 + 387 ≤ _)⟩)
  dsimp only [Pt.U, Pt.locs, Pt.cells, Pt.slots] at X62 l62 y62 z62 st62 hQ62
  subst l62 y62 z62
  obtain ⟨a62, kb62, rfl, N62q, E62, g_a62, sz_a62, V62⟩ := hQ62
  have N62 := Fr.app N0 N62q
  refine own_by st62 ?_
  show own_Comes p e below s _ _ _ (T62.setTop (mkF m 39 #[.val (.ref r0), .val (.ref r1), .val (.int (0 : Int32)), .val (.int (Int32.ofNat cs.length)), .val .null, .unset] [(.ref a62)]))
  have nT : r0 ≠ a62 := Nat.ne_of_lt (Nat.lt_of_lt_of_le Et.lt sz_a62)
  refine own_by (fun _ kS => XS.astore X62.here hx rfl (hb hby d4_39) rfl rfl (l' := #[.val (.ref r0), .val (.ref r1), .val (.int (0 : Int32)), .val (.int (Int32.ofNat cs.length)), .val .null, .val (.ref a62)]) rfl kS) ?_
  show own_Comes p e below s _ _ _ (T62.setTop (mkF m 41 #[.val (.ref r0), .val (.ref r1), .val (.int (0 : Int32)), .val (.int (Int32.ofNat cs.length)), .val .null, .val (.ref a62)] []))
  refine own_by (fun _ kS => XS.aloadN X62.here hx rfl (hb hby d4_41) rfl rfl kS) ?_
  show own_Comes p e below s _ _ _ (T62.setTop (mkF m 42 #[.val (.ref r0), .val (.ref r1), .val (.int (0 : Int32)), .val (.int (Int32.ofNat cs.length)), .val .null, .val (.ref a62)] [(.ref r0)]))
  refine own_by (fun _ kS => XS.aload X62.here hx rfl (hb hby d4_42) rfl rfl kS) ?_
  show own_Comes p e below s _ _ _ (T62.setTop (mkF m 44 #[.val (.ref r0), .val (.ref r1), .val (.int (0 : Int32)), .val (.int (Int32.ofNat cs.length)), .val .null, .val (.ref a62)] [(.ref a62), (.ref r0)]))
  refine own_by (fun _ kS => XS.iloadN X62.here hx rfl (hb hby d4_44) rfl kS) ?_
  show own_Comes p e below s _ _ _ (T62.setTop (mkF m 45 #[.val (.ref r0), .val (.ref r1), .val (.int (0 : Int32)), .val (.int (Int32.ofNat cs.length)), .val .null, .val (.ref a62)] [(.int (Int32.ofNat cs.length)), (.ref a62), (.ref r0)]))
  obtain ⟨vv63, _, ⟨T63, L63, k63, n63⟩, -, X63, ⟨Lc63, hQ63, l63, y63, z63⟩, st63⟩ := Jvm.LawKit.callS X62 hx (y := (⟨"java/lang/StringUTF16", "coderFromArrayLen", "([BI)B"⟩ : MethodName)) hown (mvT hZ (hw _ (List.mem_of_getElem? (i := 31) rfl))) (mvT hZ (hw _ (List.mem_of_getElem? (i := 32) rfl))) (mvT hZ (hw _ (List.mem_of_getElem? (i := 25) rfl))) (mvT hZ (hw _ (List.mem_of_getElem? (i := 33) rfl))) (by decide) (backOf (W := 1) (rm8 l Z a0 hw [] a62 kb62 cs T62.heap n0 (Nat.le_trans Z0 E62.1) V62 h0l hl) hZ (hw _ (List.mem_of_getElem? (i := 33) rfl)) (hw _ (List.mem_of_getElem? (i := 25) rfl)) (by decide) (by decide)) (g := (mkF m 45 #[.val (.ref r0), .val (.ref r1), .val (.int (0 : Int32)), .val (.int (Int32.ofNat cs.length)), .val .null, .val (.ref a62)] [(.int (Int32.ofNat cs.length)), (.ref a62), (.ref r0)])) rfl (by rw [hml]; rfl) (argsL := [(.ref a62), (.int (Int32.ofNat cs.length))]) (rest := [(.ref r0)]) (lenOf pd___BI_B_377 rfl) rfl (by show 2 * 0 + _ ≤ _; exact Nat.le_of_eq rfl) (hb hby d4_45) (fun _ _ => ⟨rfl, rfl, (by decide : 2 + 0 ≤ _), (by decide : 387 + 0 ≤ _)⟩)
  dsimp only [Pt.U, Pt.locs, Pt.cells, Pt.slots] at X63 l63 y63 z63 st63 hQ63
  subst l63 y63 z63
  obtain ⟨rfl, N63q, e63q⟩ := hQ63
  have N63 := Fr.app N62 N63q
  refine own_by st63 ?_
  have e63 : T63.heap = T62.heap := e63q
  show own_Comes p e below s _ _ _ (T63.setTop (mkF m 48 #[.val (.ref r0), .val (.ref r1), .val (.int (0 : Int32)), .val (.int (Int32.ofNat cs.length)), .val .null, .val (.ref a62)] [(.int (1 : Int32)), (.ref r0)]))
  obtain ⟨T64, h64, X64, e64, W64, st64⟩ := putFN X63 hx hZ hown (hw _ (List.mem_of_getElem? (i := 34) rfl)) Via.refl e63 (Fc.ext E62) (Et.ext E62) (Or.inr ⟨(hw _ (List.mem_of_getElem? (i := 35) rfl)), rfl, hnm⟩) (hw _ (List.mem_of_getElem? (i := 9) rfl)) (ty := .byte) (v' := (.int (1 : Int32))) (by decide) rfl (by first | rfl | decide | exact fits_nar_byte _) (g := (mkF m 48 #[.val (.ref r0), .val (.ref r1), .val (.int (0 : Int32)), .val (.int (Int32.ofNat cs.length)), .val .null, .val (.ref a62)] [(.int (1 : Int32)), (.ref r0)])) rfl rfl (hb hby d4_48)
  refine own_by st64 ?_
  have Fw64 := (Fc.ext E62).same W64
  have N64 := Fr.snoc X64 N63 g_r0
  show own_Comes p e below s _ _ _ (T64.setTop (mkF m 51 #[.val (.ref r0), .val (.ref r1), .val (.int (0 : Int32)), .val (.int (Int32.ofNat cs.length)), .val .null, .val (.ref a62)] []))
  refine own_by (fun _ kS => XS.aloadN X64.here hx rfl (hb hby d4_51) rfl rfl kS) ?_
  show own_Comes p e below s _ _ _ (T64.setTop (mkF m 52 #[.val (.ref r0), .val (.ref r1), .val (.int (0 : Int32)), .val (.int (Int32.ofNat cs.length)), .val .null, .val (.ref a62)] [(.ref r0)]))
  refine own_by (fun _ kS => XS.aload X64.here hx rfl (hb hby d4_52) rfl rfl kS) ?_
  show own_Comes p e below s _ _ _ (T64.setTop (mkF m 54 #[.val (.ref r0), .val (.ref r1), .val (.int (0 : Int32)), .val (.int (Int32.ofNat cs.length)), .val .null, .val (.ref a62)] [(.ref a62), (.ref r0)]))
  have c65 := ((Fv.ext E62).other W64 (Or.inr (slot_ne (Or.inr (hw _ (List.mem_of_getElem? (i := 37) rfl))) (Or.inr (hw _ (List.mem_of_getElem? (i := 35) rfl))) (by decide) (t := (.array .byte)) (t' := .byte) (by decide) (by decide))))
  obtain ⟨T66, h66, X66, e66, W66, st66⟩ := putF X64 hx hZ hown (host := "") (Or.inl (hw _ (List.mem_of_getElem? (i := 36) rfl))) Via.refl e64 c65 ((Et.ext E62).wr W64) (Or.inr ⟨(hw _ (List.mem_of_getElem? (i := 37) rfl)), rfl, hnm⟩) (hw _ (List.mem_of_getElem? (i := 9) rfl)) (ty := (.array .byte)) (by decide) rfl rfl (g := (mkF m 54 #[.val (.ref r0), .val (.ref r1), .val (.int (0 : Int32)), .val (.int (Int32.ofNat cs.length)), .val .null, .val (.ref a62)] [(.ref a62), (.ref r0)])) rfl rfl (hb hby d4_54)
  refine own_by st66 ?_
  have Fw66 := c65.same W66
  have N66 := Fr.snoc X66 N64 g_r0
  show own_Comes p e below s _ _ _ (T66.setTop (mkF m 57 #[.val (.ref r0), .val (.ref r1), .val (.int (0 : Int32)), .val (.int (Int32.ofNat cs.length)), .val .null, .val (.ref a62)] []))
  have c67 := (Fw64.other W66 (Or.inr (slot_ne (Or.inr (hw _ (List.mem_of_getElem? (i := 35) rfl))) (Or.inr (hw _ (List.mem_of_getElem? (i := 37) rfl))) (by decide) (t := .byte) (t' := (.array .byte)) (by decide) (by decide))))
  have c68 := ((V62.other W64 (Ne.symm nT)).other W66 (Ne.symm nT))
  refine own_ret X66 (v := none) (fun _ => rfl) Bd.notSynchronized (by decide) (by decide) ?_ (fun fs hr => X66.returnOut hx Bd.returns (hb hby d4_57) hr)
  rw [e66]; exact ⟨rfl, N66, ((((Keep.refl _ _).ext E62).wr W64 (Or.inl (List.mem_of_getElem? (i := 0) rfl))).wr W66 (Or.inl (List.mem_of_getElem? (i := 0) rfl))), (((Et.ext E62).wr W64).wr W66), _, _, _, _, _, Fw66, c67, c68, Or.inr ⟨rfl, rfl, rfl, Hw⟩, hB, by omega⟩
def Q3w (Z : State) (r0 : Addr) (cs : List Int32) (h0 : Heap) (n0 : Nat) (v : Option Value) (h : Heap) (L : List Loc) : Prop := v = none ∧ Fr n0 L ∧ Keep h0 h [r0] ∧ own_Txt Z h r0 cs
theorem ef_rm3w (m : MethodId) (x0 : Addr) (x1 : Addr) : entryFrame m #[(.ref x0), (.ref x1)] 2 = mkF m 0 #[.val (.ref x0), .val (.ref x1)] [] := by first | (simp [entryFrame, mkF, argsToLocals, Value.category]; done) | rfl
theorem d3_0 : decode jdk_42_method_3_code 0 = .ok (.aload_n 0, 1) := by decide +kernel
theorem d3_1 : decode jdk_42_method_3_code 1 = .ok (.aload_n 1, 1) := by decide +kernel
theorem d3_2 : decode jdk_42_method_3_code 2 = .ok (.iconst 0, 1) := by decide +kernel
theorem d3_3 : decode jdk_42_method_3_code 3 = .ok (.aload_n 1, 1) := by decide +kernel
theorem d3_4 : decode jdk_42_method_3_code 4 = .ok (.arraylength, 1) := by decide +kernel
theorem d3_5 : decode jdk_42_method_3_code 5 = .ok (.aconst_null, 1) := by decide +kernel
theorem pd___CIILjava_lang_Void__V_941 : parseMethodDescriptor "([CIILjava/lang/Void;)V" = some ⟨[(.array .char), .int, .int, (.object "java/lang/Void")], none⟩ := by decide +kernel
theorem d3_6 : decode jdk_42_method_3_code 6 = .ok (.invokespecial 27, 3) := by decide +kernel
theorem d3_9 : decode jdk_42_method_3_code 9 = .ok (.return_, 1) := by decide +kernel
set_option maxRecDepth 65536 in
set_option maxHeartbeats 40000000 in
theorem rm3w (l : Launch) (Z : State) (a0 : Array Value) (hw : ∀ d ∈ tables_1, d.before a0 Z = true) (ws : List Jvm.Cond) (r0 r1 : Addr) (kc : ClassId) (cs : List Int32) (zc : Int32) (h0 : Heap) (n0 : Nat) (Z0 : n0 ≤ h0.size) (O0 : Old Z n0 h0) (Sz : Sta Z Z.heap "java/lang/String" "COMPACT_STRINGS" "Z" (.int zc)) (hzc : ¬ zc = 0) (Sd : Sta Z Z.heap "java/lang/StringUTF16" "$assertionsDisabled" "Z" (.int (1 : Int32))) (Sh : Sta Z Z.heap "java/lang/StringUTF16" "HI_BYTE_SHIFT" "I" (.int (0 : Int32))) (Sl : Sta Z Z.heap "java/lang/StringUTF16" "LO_BYTE_SHIFT" "I" (.int (8 : Int32))) (Et : Exa Z h0 r0 "java/lang/String") (Fv : Fld Z h0 r0 "java/lang/String" "value" "[B" .null) (Fc : Fld Z h0 r0 "java/lang/String" "coder" "B" (.int (0 : Int32))) (g_r0 : n0 ≤ r0) (nA : r0 ≠ r1) (Vs : Arv Z h0 r1 kc .char (Int32.ofNat cs.length) (cs.map Value.int) (.int 0)) (Hw : ∃ c ∈ cs, (255 : Int32) < c) (h0l : 0 < cs.length) (hl : cs.length ≤ 129) (hB : ∀ c ∈ cs, ¬ c < 0 ∧ ¬ (65535 : Int32) < c) :
    MetFree l (⟨"java/lang/String", "<init>", "([C)V"⟩ : MethodName) (head1 (Jvm.Cond.code (⟨"java/lang/String", "<init>", "([C)V"⟩ : MethodName) jdk_42_method_3_code 2 none :: ws) ({ frames := 5, cells := 2, slots := 387, locals := 74 } : Room)) (fun aX UX => aX = #[(.ref r0), (.ref r1)] ∧ Z.Warmed39 UX.vm ∧ UX.heap = h0) (fun _ _ _ _ _ => True) (fun _ UX oX UX' => ∃ vX LX, oX = .returned vX ∧ Q3w Z r0 cs h0 n0 vX UX'.heap LX ∧ FrameEnd UX oX UX' LX ({ frames := 5, cells := 2, slots := 387, locals := 74 } : Room).cells ({ frames := 5, cells := 2, slots := 387, locals := 74 } : Room).slots) := by
  refine MetFree.of_bodySF (plainFor_of_name pn_java_lang_String) hisR ?_
  intro p e s m args below meth c s₁ Bd hml0 hP hK
  obtain ⟨rfl, hZ, hh⟩ := hP
  have hx := Bd.exec
  have hby := Bd.bytes
  have hml : c.maxLocals = 2 := hml0
  have hown : s.vm.findClass "java/lang/String" = some m.cls := findClass_of_methodNamed Bd.named
  have hnm := (name_of_methodNamed Bd.named Bd.method).1
  have X0 : Stand p l e ({ frames := 5, cells := 2, slots := 387, locals := 74 } : Room) s m #[(.ref r0), (.ref r1)] below meth c s₁ [] 0 0 := Stand.of_body Bd
  have e0 : s₁.heap = h0 := by rw [← hh, Bd.state]; rfl
  have N0 := Fr.nil n0
  show own_Comes p e below s ({ frames := 5, cells := 2, slots := 387, locals := 74 } : Room).cells ({ frames := 5, cells := 2, slots := 387, locals := 74 } : Room).slots (Q3w Z r0 cs h0 n0) _
  rw [show entryFrame m #[(.ref r0), (.ref r1)] 2 = mkF m 0 #[.val (.ref r0), .val (.ref r1)] [] from ef_rm3w m r0 r1]
  show own_Comes p e below s _ _ _ (s₁.setTop (mkF m 0 #[.val (.ref r0), .val (.ref r1)] []))
  refine own_by (fun _ kS => XS.aloadN X0.here hx rfl (hb hby d3_0) rfl rfl kS) ?_
  show own_Comes p e below s _ _ _ (s₁.setTop (mkF m 1 #[.val (.ref r0), .val (.ref r1)] [(.ref r0)]))
  refine own_by (fun _ kS => XS.aloadN X0.here hx rfl (hb hby d3_1) rfl rfl kS) ?_
  show own_Comes p e below s _ _ _ (s₁.setTop (mkF m 2 #[.val (.ref r0), .val (.ref r1)] [(.ref r1), (.ref r0)]))
  refine own_by (fun _ kS => XS.iconst X0.here hx rfl (hb hby d3_2) kS) ?_
  show own_Comes p e below s _ _ _ (s₁.setTop (mkF m 3 #[.val (.ref r0), .val (.ref r1)] [(.int (0 : Int32)), (.ref r1), (.ref r0)]))
  refine own_by (fun _ kS => XS.aloadN X0.here hx rfl (hb hby d3_3) rfl rfl kS) ?_
  show own_Comes p e below s _ _ _ (s₁.setTop (mkF m 4 #[.val (.ref r0), .val (.ref r1)] [(.ref r1), (.int (0 : Int32)), (.ref r1), (.ref r0)]))
  have Vo69 := Vs
  obtain ⟨cl69, Ar69, qA69, SA69, NA69, HA69, GA69⟩ := Vo69
  refine own_by (fun _ kS => X0.arraylength hx (by rw [e0]; exact Ar69.1) (State.isArrayOf_alike hZ.alike Ar69.2.1) (g := (mkF m 4 #[.val (.ref r0), .val (.ref r1)] [(.ref r1), (.int (0 : Int32)), (.ref r1), (.ref r0)])) rfl rfl (hb hby d3_4) _ kS) ?_
  rw [len_of SA69 NA69]
  show own_Comes p e below s _ _ _ (s₁.setTop (mkF m 5 #[.val (.ref r0), .val (.ref r1)] [(.int (Int32.ofNat cs.length)), (.int (0 : Int32)), (.ref r1), (.ref r0)]))
  refine own_by (fun _ kS => XS.aconstNull X0.here hx rfl (hb hby d3_5) kS) ?_
  show own_Comes p e below s _ _ _ (s₁.setTop (mkF m 6 #[.val (.ref r0), .val (.ref r1)] [.null, (.int (Int32.ofNat cs.length)), (.int (0 : Int32)), (.ref r1), (.ref r0)]))
  obtain ⟨vv70, _, ⟨T70, L70, k70, n70⟩, -, X70, ⟨Lc70, hQ70, l70, y70, z70⟩, st70⟩ := X0.specialBack hx (y := (⟨"java/lang/String", "<init>", "([CIILjava/lang/Void;)V"⟩ : MethodName)) rfl hown (mvT hZ (hw _ (List.mem_of_getElem? (i := 15) rfl))) (mvT hZ (hw _ (List.mem_of_getElem? (i := 16) rfl))) (mvT hZ (hw _ (List.mem_of_getElem? (i := 18) rfl))) (by decide) (backOf (W := 0) (rm4w l Z a0 hw [] r0 r1 kc cs zc h0 n0 Z0 O0 Sz hzc Sd Sh Sl Et Fv Fc g_r0 nA Vs Hw h0l hl hB) hZ (hw _ (List.mem_of_getElem? (i := 18) rfl)) (hw _ (List.mem_of_getElem? (i := 10) rfl)) (by decide) (by decide)) (g := (mkF m 6 #[.val (.ref r0), .val (.ref r1)] [.null, (.int (Int32.ofNat cs.length)), (.int (0 : Int32)), (.ref r1), (.ref r0)])) rfl (by rw [hml]; rfl) (Steps.refl _) (a := r0) (argsL := [(.ref r1), (.int (0 : Int32)), (.int (Int32.ofNat cs.length)), .null]) (rest := []) (lenOf pd___CIILjava_lang_Void__V_941 rfl) rfl (by show 2 * 0 + _ ≤ _; exact Nat.le_of_eq rfl) (hb hby d3_6) (fun _ _ => ⟨rfl, e0, (by decide : 0 + 2 ≤ _), (by decide : 0 + 387 ≤ _)⟩)
  dsimp only [Pt.U, Pt.locs, Pt.cells, Pt.slots] at X70 l70 y70 z70 st70 hQ70
  subst l70 y70 z70
  obtain ⟨rfl, N70q, q70⟩ := hQ70
  have N70 := Fr.app N0 N70q
  refine own_tr st70 ?_
  show own_Comes p e below s _ _ _ (T70.setTop (mkF m 9 #[.val (.ref r0), .val (.ref r1)] []))
  refine own_ret X70 (v := none) (fun _ => rfl) Bd.notSynchronized (by decide) (by decide) ?_ (fun fs hr => X70.returnOut hx Bd.returns (hb hby d3_9) hr)
  exact ⟨rfl, N70, q70⟩
def own_un (c : Int32) : Prop := c = (45 : Int32) ∨ c = (46 : Int32) ∨ (¬ c < (48 : Int32) ∧ ¬ (57 : Int32) < c) ∨ (¬ c < (65 : Int32) ∧ ¬ (90 : Int32) < c) ∨ c = (95 : Int32) ∨ (¬ c < (97 : Int32) ∧ ¬ (122 : Int32) < c) ∨ c = (126 : Int32)
theorem own_unno {c : Int32} (h1 : ¬ c = (45 : Int32)) (h2 : ¬ c = (46 : Int32)) (h3 : c < (48 : Int32) ∨ (57 : Int32) < c) (h4 : c < (65 : Int32) ∨ (90 : Int32) < c) (h5 : ¬ c = (95 : Int32)) (h6 : c < (97 : Int32) ∨ (122 : Int32) < c) (h7 : ¬ c = (126 : Int32)) : ¬ own_un c := by
  rintro (q | q | ⟨q, q'⟩ | ⟨q, q'⟩ | q | ⟨q, q'⟩ | q)
  · exact h1 q
  · exact h2 q
  · exact h3.elim q q'
  · exact h4.elim q q'
  · exact h5 q
  · exact h6.elim q q'
  · exact h7 q
def own_WF (cs : List Int32) : Prop := 43 ≤ cs.length ∧ cs.length ≤ 128 ∧ ∀ c ∈ cs, own_un c
theorem own_nch (x : Int32) : ¬ (x.toUInt32.toUInt16.toUInt32.toInt32) < 0 ∧ ¬ (65535 : Int32) < (x.toUInt32.toUInt16.toUInt32.toInt32) := by
  have q := c_i2c x
  have e0 : (0 : Int32).toInt = 0 := by decide
  have e : (65535 : Int32).toInt = 65535 := by decide
  rw [Int32.lt_iff_toInt_lt, Int32.lt_iff_toInt_lt]; omega
theorem own_43 {k : Nat} (h : k < 2 ^ 31) : Int32.ofNat k < (43 : Int32) ↔ k < 43 := own_lt h (by decide)
theorem own_128 {k : Nat} (h : k < 2 ^ 31) : (128 : Int32) < Int32.ofNat k ↔ 128 < k := own_lt (by decide) h
def own_pre (x y f : Int32) (n k : Nat) : List Value := (List.range n).map (fun j => Value.int (if j < k then (if j = 0 then x else if j = 1 then y else f) else 0))
theorem own_plen {x y f : Int32} {n k : Nat} : (own_pre x y f n k).length = n := by simp [own_pre]
theorem own_pset {x y f w : Int32} {n k : Nat} (hk : k < n) (hw : w = (if k = 0 then x else if k = 1 then y else f)) : (own_pre x y f n k).set k (.int w) = own_pre x y f n (k + 1) := by
  apply List.ext_getElem (by simp [own_pre])
  intro j h1 h2
  simp only [own_pre, List.getElem_set, List.getElem_map, List.getElem_range]
  by_cases q : k = j
  · subst q; rw [if_pos rfl, hw, if_pos (Nat.lt_succ_self k)]
  · rw [if_neg q]
    by_cases r : j < k
    · have r2 : j < k + 1 := by omega
      rw [if_pos r, if_pos r2]
    · have r2 : ¬ j < k + 1 := by omega
      rw [if_neg r, if_neg r2]
theorem own_p0 (x y f : Int32) (n : Nat) : List.replicate n (Value.int (0 : Int32)) = own_pre x y f n 0 := by
  apply List.ext_getElem (by simp [own_pre])
  intro j h1 h2
  simp [own_pre]
def own_cs (x y f z : Int32) (n : Nat) : List Int32 := (List.range n).map (fun j => if j = n - 1 then z else if j = 0 then x else if j = 1 then y else f)
theorem own_clen (x y f z : Int32) (n : Nat) : (own_cs x y f z n).length = n := by simp [own_cs]
theorem own_pfin {x y f z : Int32} {n k : Nat} (hk : k + 1 = n) : (own_pre x y f n k).set k (.int z) = (own_cs x y f z n).map Value.int := by
  subst hk
  apply List.ext_getElem (by simp [own_pre, own_cs])
  intro j h1 h2
  simp only [own_pre, own_cs, List.getElem_set, List.getElem_map, List.getElem_range]
  have hj : j < k + 1 := by simpa [own_pre] using h1
  by_cases q : k = j
  · subst q; rw [if_pos rfl, if_pos (by omega)]
  · have r1 : j < k := by omega
    have r2 : ¬ j = k + 1 - 1 := by omega
    rw [if_neg q, if_pos r1, if_neg r2]
theorem own_cmem {x y f z c : Int32} {n : Nat} (h : c ∈ own_cs x y f z n) : c = x ∨ c = y ∨ c = f ∨ c = z := by
  simp only [own_cs, List.mem_map, List.mem_range] at h
  obtain ⟨j, -, rfl⟩ := h
  by_cases q1 : j = n - 1
  · rw [if_pos q1]; simp
  · rw [if_neg q1]
    by_cases q2 : j = 0
    · rw [if_pos q2]; simp
    · rw [if_neg q2]
      by_cases q3 : j = 1
      · rw [if_pos q3]; simp
      · rw [if_neg q3]; simp
theorem own_cin {x y f z : Int32} {n : Nat} (h : 4 ≤ n) : x ∈ own_cs x y f z n ∧ y ∈ own_cs x y f z n ∧ f ∈ own_cs x y f z n ∧ z ∈ own_cs x y f z n := by
  simp only [own_cs, List.mem_map, List.mem_range]
  exact ⟨⟨0, by omega, by rw [if_neg (by omega), if_pos rfl]⟩, ⟨1, by omega, by rw [if_neg (by omega), if_neg (by omega), if_pos rfl]⟩, ⟨2, by omega, by rw [if_neg (by omega), if_neg (by omega), if_neg (by omega)]⟩, ⟨n - 1, by omega, by rw [if_pos rfl]⟩⟩
theorem own_cbd {x y f z : Int32} {n : Nat} (h1 : ¬ x < 0 ∧ ¬ (65535 : Int32) < x) (h2 : ¬ y < 0 ∧ ¬ (65535 : Int32) < y) (h3 : ¬ f < 0 ∧ ¬ (65535 : Int32) < f) (h4 : ¬ z < 0 ∧ ¬ (65535 : Int32) < z) : ∀ c ∈ own_cs x y f z n, ¬ c < 0 ∧ ¬ (65535 : Int32) < c := fun c hc => by
  rcases own_cmem hc with rfl | rfl | rfl | rfl
  · exact h1
  · exact h2
  · exact h3
  · exact h4
theorem own_wf {x y f z : Int32} {n : Nat} (h1 : 43 ≤ n) (h2 : n ≤ 128) : own_WF (own_cs x y f z n) ↔ (own_un x ∧ own_un y ∧ own_un f ∧ own_un z) := by
  constructor
  · rintro ⟨-, -, q⟩
    obtain ⟨m1, m2, m3, m4⟩ := own_cin (x := x) (y := y) (f := f) (z := z) (n := n) (by omega)
    exact ⟨q _ m1, q _ m2, q _ m3, q _ m4⟩
  · rintro ⟨q1, q2, q3, q4⟩
    refine ⟨by rw [own_clen]; exact h1, by rw [own_clen]; exact h2, fun c hc => ?_⟩
    rcases own_cmem hc with rfl | rfl | rfl | rfl
    · exact q1
    · exact q2
    · exact q3
    · exact q4
theorem own_bp : ∀ j, j < 122 → (Int8.ofInt ((j + 6 : Nat) : Int)).toInt32 = Int32.ofNat (j + 6) := by decide
theorem own_run {p : Program} {l : Launch} {e : Env} {R : Room} {s : State} {m : MethodId} {args : Array Value} {below : List Frame} {meth : Method} {c : Code} {Z : State} (hx : p.tables.exec = Jvm.exec) (hZ : Z.Warmed39 s.vm) {x y f : Int32} (hf : ¬ f < 0 ∧ ¬ (65535 : Int32) < f) {b : Addr} {kc : ClassId} {n M n0 : Nat} {h0 : Heap} {Ls : Array Slot} {B C S CC SS : Nat} {Q : Option Value → Heap → List Loc → Prop} (hn : n ≤ 200) (hM : M < n) (hM6 : 6 ≤ M) (hM2 : M ≤ 128)
    (d : ∀ j, j < M - 6 → decode c.code (B + 5 * j) = .ok (.dup, 1) ∧ decode c.code (B + 5 * j + 1) = .ok (.bipush ((j + 6 : Nat) : Int), 2) ∧ decode c.code (B + 5 * j + 3) = .ok (.iload_n 2, 1) ∧ decode c.code (B + 5 * j + 4) = .ok (.castore, 1))
    (hL : Ls[2]? = some (.val (.int f))) (hb : n0 ≤ b) (sb : h0.size ≤ b)
    (fin : ∀ T h locs, Stand p l e R s m args below meth c T locs C S → T.heap = h → Fr n0 locs → Keep h0 h [] → Arv Z h b kc .char (Int32.ofNat n) (own_pre x y f n M) (.int 0) → own_Comes p e below s CC SS Q (T.setTop (mkF m (B + 5 * (M - 6)) Ls [.ref b]))) :
    ∀ r j, j + r = M - 6 → ∀ T h locs, Stand p l e R s m args below meth c T locs C S → T.heap = h → Fr n0 locs → Keep h0 h [] → Arv Z h b kc .char (Int32.ofNat n) (own_pre x y f n (j + 6)) (.int 0) → own_Comes p e below s CC SS Q (T.setTop (mkF m (B + 5 * j) Ls [.ref b])) := by
  intro r
  induction r with
  | zero =>
    intro j hj T h locs X eT N K V
    obtain rfl : j = M - 6 := by omega
    rw [show M - 6 + 6 = M by omega] at V
    exact fin T h locs X eT N K V
  | succ r ih =>
    intro j hj T h locs X eT N K V
    obtain ⟨d1, d2, d3, d4⟩ := d j (by omega)
    obtain ⟨cl, Ar, qA, SA, NA, HA, GA⟩ := V
    have hin : ¬ (Int32.ofNat (j + 6) < 0 ∨ cl.slots.size ≤ (Int32.ofNat (j + 6)).toNatClampNeg) := own_inb SA (by omega) (by omega)
    obtain ⟨T', h', X', e', W, st⟩ := stC X hx hZ eT Ar (j := Int32.ofNat (j + 6)) (x := f) hin (g := mkF m (B + 5 * j + 4) Ls [.int f, .int (Int32.ofNat (j + 6)), .ref b, .ref b]) rfl rfl d4
    have V' : Arv Z h' b kc .char (Int32.ofNat n) ((own_pre x y f n (j + 6)).set (j + 6) (.int (nar .char f))) (.int 0) := Arv.set Ar qA SA NA HA GA (by first | rfl | exact fits_nar_char _) W (j + 6) (own_tn (by omega)) (by rw [own_plen]; omega)
    rw [own_nar16 hf, own_pset (by omega) (by rw [if_neg (by omega), if_neg (by omega)])] at V'
    refine own_by (fun _ kS => XS.dup X.here hx rfl (g := mkF m (B + 5 * j) Ls [.ref b]) d1 rfl rfl (XT.bipushV X.here hx rfl (Int32.ofNat (j + 6)) d2 (own_bp j (by omega)) (XS.iloadN X.here hx rfl d3 hL (st _ kS)))) ?_
    have q := ih (j + 1) (by omega) T' h' _ X' e' (Fr.snoc X' N hb) (K.wr W (Or.inr sb)) (by rw [show j + 1 + 6 = j + 6 + 1 by omega]; exact V')
    rw [show B + 5 * (j + 1) = B + 5 * j + 5 by omega] at q
    exact q
def own_val (Z : State) (h : Heap) (w : Value) (z : Int32) : Prop :=
  (w = .null ∧ z = (0 : Int32)) ∨ ∃ (x : Addr) (cs : List Int32), w = .ref x ∧ own_Txt Z h x cs ∧ ((z = (1 : Int32) ∧ own_WF cs) ∨ (z = (0 : Int32) ∧ ¬ own_WF cs))
theorem own_val.ext {Z : State} {h h' : Heap} {w : Value} {z : Int32} (A : own_val Z h w z) (E : Ext h h') : own_val Z h' w z := by
  rcases A with q | ⟨x, cs, q1, q2, q3⟩
  · exact Or.inl q
  · exact Or.inr ⟨x, cs, q1, q2.ext E, q3⟩
theorem own_short {cs : List Int32} (h : cs.length < 43 ∨ 128 < cs.length) : ¬ own_WF cs := fun q => by
  obtain ⟨q1, q2, -⟩ := q
  omega
theorem own_1 (c : Int32) (h : ¬ c < 0 ∧ ¬ (65535 : Int32) < c) : ∀ d ∈ [c], ¬ d < 0 ∧ ¬ (65535 : Int32) < d := fun d hd => by
  rw [List.mem_singleton] at hd; subst hd; exact h
theorem own_sfx (c : Int32) : c.toInt8.toInt32.toInt8.toInt32 = StrChars.lo8 c := by
  show c.toInt8.toInt32.toInt8.toInt32 = c.toInt8.toInt32
  simp

def Q1 (Z : State) (p0 : Int32) (h0 : Heap) (n0 : Nat) (v : Option Value) (h : Heap) (L : List Loc) : Prop := ∃ z : Int32, v = some (.int z) ∧ Fr n0 L ∧ h = h0 ∧ ((z = 1 ∧ own_un p0) ∨ (z = 0 ∧ ¬ own_un p0))
def Q30 (Z : State) (p0 : Int32) (h0 : Heap) (n0 : Nat) (v : Option Value) (h : Heap) (L : List Loc) : Prop := ∃ z : Int32, v = some (.int z) ∧ Fr n0 L ∧ h = h0 ∧ ((z = 1 ∧ own_un p0) ∨ (z = 0 ∧ ¬ own_un p0))
theorem ef_rm1 (m : MethodId) (x0 : Int32) : entryFrame m #[(.int x0)] 2 = mkF m 0 #[.val (.int x0), .unset] [] := by first | (simp [entryFrame, mkF, argsToLocals, Value.category]; done) | rfl
theorem pn_com_example_eslabon_eslabon_CodeChallengeMethodIsWellFormedPinLaw : plainName "com/example/eslabon/eslabon/CodeChallengeMethodIsWellFormedPinLaw" = true := by first | (simp [plainName, overriddenIn]; done) | decide +kernel
theorem d1_62 : decode method_2_code 62 = .ok (.iconst 1, 1) := by decide +kernel
theorem d1_63 : decode method_2_code 63 = .ok (.goto 4, 3) := by decide +kernel
theorem d1_67 : decode method_2_code 67 = .ok (.ireturn, 1) := by decide +kernel
theorem d1_0 : decode method_2_code 0 = .ok (.iload_n 0, 1) := by decide +kernel
theorem d1_1 : decode method_2_code 1 = .ok (.istore_n 1, 1) := by decide +kernel
theorem d1_2 : decode method_2_code 2 = .ok (.iload_n 1, 1) := by decide +kernel
theorem d1_3 : decode method_2_code 3 = .ok (.bipush 45, 2) := by decide +kernel
theorem d1_5 : decode method_2_code 5 = .ok (.if_icmp .eq 57, 3) := by decide +kernel
theorem d1_8 : decode method_2_code 8 = .ok (.iload_n 1, 1) := by decide +kernel
theorem d1_9 : decode method_2_code 9 = .ok (.bipush 46, 2) := by decide +kernel
theorem d1_11 : decode method_2_code 11 = .ok (.if_icmp .eq 51, 3) := by decide +kernel
theorem d1_14 : decode method_2_code 14 = .ok (.iload_n 1, 1) := by decide +kernel
theorem d1_15 : decode method_2_code 15 = .ok (.bipush 48, 2) := by decide +kernel
theorem d1_26 : decode method_2_code 26 = .ok (.iload_n 1, 1) := by decide +kernel
theorem d1_27 : decode method_2_code 27 = .ok (.bipush 65, 2) := by decide +kernel
theorem d1_38 : decode method_2_code 38 = .ok (.iload_n 1, 1) := by decide +kernel
theorem d1_39 : decode method_2_code 39 = .ok (.bipush 95, 2) := by decide +kernel
theorem d1_41 : decode method_2_code 41 = .ok (.if_icmp .eq 21, 3) := by decide +kernel
theorem d1_44 : decode method_2_code 44 = .ok (.iload_n 1, 1) := by decide +kernel
theorem d1_45 : decode method_2_code 45 = .ok (.bipush 97, 2) := by decide +kernel
theorem d1_56 : decode method_2_code 56 = .ok (.iload_n 1, 1) := by decide +kernel
theorem d1_57 : decode method_2_code 57 = .ok (.bipush 126, 2) := by decide +kernel
theorem d1_59 : decode method_2_code 59 = .ok (.if_icmp .ne 7, 3) := by decide +kernel
theorem d1_66 : decode method_2_code 66 = .ok (.iconst 0, 1) := by decide +kernel
theorem d1_47 : decode method_2_code 47 = .ok (.if_icmp .lt 9, 3) := by decide +kernel
theorem d1_50 : decode method_2_code 50 = .ok (.iload_n 1, 1) := by decide +kernel
theorem d1_51 : decode method_2_code 51 = .ok (.bipush 122, 2) := by decide +kernel
theorem d1_53 : decode method_2_code 53 = .ok (.if_icmp .le 9, 3) := by decide +kernel
theorem d1_29 : decode method_2_code 29 = .ok (.if_icmp .lt 9, 3) := by decide +kernel
theorem d1_32 : decode method_2_code 32 = .ok (.iload_n 1, 1) := by decide +kernel
theorem d1_33 : decode method_2_code 33 = .ok (.bipush 90, 2) := by decide +kernel
theorem d1_35 : decode method_2_code 35 = .ok (.if_icmp .le 27, 3) := by decide +kernel
theorem d1_17 : decode method_2_code 17 = .ok (.if_icmp .lt 9, 3) := by decide +kernel
theorem d1_20 : decode method_2_code 20 = .ok (.iload_n 1, 1) := by decide +kernel
theorem d1_21 : decode method_2_code 21 = .ok (.bipush 57, 2) := by decide +kernel
theorem d1_23 : decode method_2_code 23 = .ok (.if_icmp .le 39, 3) := by decide +kernel
set_option maxRecDepth 65536 in
set_option maxHeartbeats 40000000 in
theorem rm1 (l : Launch) (Z : State) (a0 : Array Value) (hw : ∀ d ∈ tables_1, d.before a0 Z = true) (ws : List Jvm.Cond) (p0 : Int32) (h0 : Heap) (n0 : Nat) (Z0 : n0 ≤ h0.size) :
    MetFree l (⟨"com/example/eslabon/eslabon/CodeChallengeMethodIsWellFormedPinLaw", "unreserved", "(C)Z"⟩ : MethodName) (head1 (Jvm.Cond.code (⟨"com/example/eslabon/eslabon/CodeChallengeMethodIsWellFormedPinLaw", "unreserved", "(C)Z"⟩ : MethodName) method_2_code 2 (some .boolean) :: ws) ({ frames := 0, cells := 0, slots := 0, locals := 0 } : Room)) (fun aX UX => aX = #[(.int p0)] ∧ Z.Warmed39 UX.vm ∧ UX.heap = h0) (fun _ _ _ _ _ => True) (fun _ UX oX UX' => ∃ vX LX, oX = .returned vX ∧ Q1 Z p0 h0 n0 vX UX'.heap LX ∧ FrameEnd UX oX UX' LX ({ frames := 0, cells := 0, slots := 0, locals := 0 } : Room).cells ({ frames := 0, cells := 0, slots := 0, locals := 0 } : Room).slots) := by
  refine MetFree.of_bodySF (plainFor_of_name pn_com_example_eslabon_eslabon_CodeChallengeMethodIsWellFormedPinLaw) hisR ?_
  intro p e s m args below meth c s₁ Bd hml0 hP hK
  obtain ⟨rfl, hZ, hh⟩ := hP
  have hx := Bd.exec
  have hby := Bd.bytes
  have hml : c.maxLocals = 2 := hml0
  have hown : s.vm.findClass "com/example/eslabon/eslabon/CodeChallengeMethodIsWellFormedPinLaw" = some m.cls := findClass_of_methodNamed Bd.named
  have hnm := (name_of_methodNamed Bd.named Bd.method).1
  have X0 : Stand p l e ({ frames := 0, cells := 0, slots := 0, locals := 0 } : Room) s m #[(.int p0)] below meth c s₁ [] 0 0 := Stand.of_body Bd
  have e0 : s₁.heap = h0 := by rw [← hh, Bd.state]; rfl
  have N0 := Fr.nil n0
  show own_Comes p e below s ({ frames := 0, cells := 0, slots := 0, locals := 0 } : Room).cells ({ frames := 0, cells := 0, slots := 0, locals := 0 } : Room).slots (Q1 Z p0 h0 n0) _
  rw [show entryFrame m #[(.int p0)] 2 = mkF m 0 #[.val (.int p0), .unset] [] from ef_rm1 m p0]
  show own_Comes p e below s _ _ _ (s₁.setTop (mkF m 0 #[.val (.int p0), .unset] []))
  have Jy : ∀ (TJy : State) (hJy : Heap) (LJy : List Loc), (own_un p0) → (hJy = h0) → Stand p l e ({ frames := 0, cells := 0, slots := 0, locals := 0 } : Room) s m #[(.int p0)] below meth c TJy LJy 0 0 → TJy.heap = hJy → Fr n0 LJy → n0 ≤ hJy.size → own_Comes p e below s ({ frames := 0, cells := 0, slots := 0, locals := 0 } : Room).cells ({ frames := 0, cells := 0, slots := 0, locals := 0 } : Room).slots (Q1 Z p0 h0 n0) (TJy.setTop (mkF m 62 #[.val (.int p0), .val (.int p0)] [])) := by
    intro TJy hJy LJy hy hh0 XJy eJy NJy ZJy
    show own_Comes p e below s _ _ _ (TJy.setTop (mkF m 62 #[.val (.int p0), .val (.int p0)] []))
    refine own_by (fun _ kS => XS.iconst XJy.here hx rfl (hb hby d1_62) kS) ?_
    show own_Comes p e below s _ _ _ (TJy.setTop (mkF m 63 #[.val (.int p0), .val (.int p0)] [(.int (1 : Int32))]))
    refine own_by (fun _ kS => XS.goto XJy.here hx rfl (pc0 := 63) (pc' := 67) rfl (hb hby d1_63) (by decide) (by decide) kS) ?_
    show own_Comes p e below s _ _ _ (TJy.setTop (mkF m 67 #[.val (.int p0), .val (.int p0)] [(.int (1 : Int32))]))
    refine own_ret XJy (v := some (.int (1 : Int32))) (fun h => by rw [Bd.returns] at h; cases h) Bd.notSynchronized (by decide) (by decide) ?_ (fun fs hr => retN XJy hx (t := .boolean) Bd.returns (by simp) (hb hby d1_67) hr)
    rw [eJy]; exact ⟨_, rfl, NJy, hh0, Or.inl ⟨rfl, hy⟩⟩
  refine own_by (fun _ kS => XS.iloadN X0.here hx rfl (hb hby d1_0) rfl kS) ?_
  show own_Comes p e below s _ _ _ (s₁.setTop (mkF m 1 #[.val (.int p0), .unset] [(.int p0)]))
  refine own_by (fun _ kS => XS.istoreN X0.here hx rfl (hb hby d1_1) rfl (l' := #[.val (.int p0), .val (.int p0)]) rfl kS) ?_
  show own_Comes p e below s _ _ _ (s₁.setTop (mkF m 2 #[.val (.int p0), .val (.int p0)] []))
  refine own_by (fun _ kS => XS.iloadN X0.here hx rfl (hb hby d1_2) rfl kS) ?_
  show own_Comes p e below s _ _ _ (s₁.setTop (mkF m 3 #[.val (.int p0), .val (.int p0)] [(.int p0)]))
  refine own_by (fun _ kS => XS.bipush X0.here hx rfl (hb hby d1_3) kS) ?_
  show own_Comes p e below s _ _ _ (s₁.setTop (mkF m 5 #[.val (.int p0), .val (.int p0)] [(.int (45 : Int32)), (.int p0)]))
  by_cases k45 : p0 = (45 : Int32)
  · refine own_by (fun _ kS => XS.icmpYes X0.here hx rfl (pc0 := 5) (pc' := 62) rfl (hb hby d1_5) rfl (teq k45).1 (by decide) (by decide) kS) ?_
    show own_Comes p e below s _ _ _ (s₁.setTop (mkF m 62 #[.val (.int p0), .val (.int p0)] []))
    exact Jy  _ _ _ (Or.inl k45) rfl (X0.more (by decide) (by decide)) e0 N0  Z0
  · refine own_by (fun _ kS => XS.icmpNo X0.here hx rfl (hb hby d1_5) rfl (feq k45).1 kS) ?_
    show own_Comes p e below s _ _ _ (s₁.setTop (mkF m 8 #[.val (.int p0), .val (.int p0)] []))
    refine own_by (fun _ kS => XS.iloadN X0.here hx rfl (hb hby d1_8) rfl kS) ?_
    show own_Comes p e below s _ _ _ (s₁.setTop (mkF m 9 #[.val (.int p0), .val (.int p0)] [(.int p0)]))
    refine own_by (fun _ kS => XS.bipush X0.here hx rfl (hb hby d1_9) kS) ?_
    show own_Comes p e below s _ _ _ (s₁.setTop (mkF m 11 #[.val (.int p0), .val (.int p0)] [(.int (46 : Int32)), (.int p0)]))
    by_cases k46 : p0 = (46 : Int32)
    · refine own_by (fun _ kS => XS.icmpYes X0.here hx rfl (pc0 := 11) (pc' := 62) rfl (hb hby d1_11) rfl (teq k46).1 (by decide) (by decide) kS) ?_
      show own_Comes p e below s _ _ _ (s₁.setTop (mkF m 62 #[.val (.int p0), .val (.int p0)] []))
      exact Jy  _ _ _ (Or.inr (Or.inl k46)) rfl (X0.more (by decide) (by decide)) e0 N0  Z0
    · refine own_by (fun _ kS => XS.icmpNo X0.here hx rfl (hb hby d1_11) rfl (feq k46).1 kS) ?_
      show own_Comes p e below s _ _ _ (s₁.setTop (mkF m 14 #[.val (.int p0), .val (.int p0)] []))
      refine own_by (fun _ kS => XS.iloadN X0.here hx rfl (hb hby d1_14) rfl kS) ?_
      show own_Comes p e below s _ _ _ (s₁.setTop (mkF m 15 #[.val (.int p0), .val (.int p0)] [(.int p0)]))
      refine own_by (fun _ kS => XS.bipush X0.here hx rfl (hb hby d1_15) kS) ?_
      show own_Comes p e below s _ _ _ (s₁.setTop (mkF m 17 #[.val (.int p0), .val (.int p0)] [(.int (48 : Int32)), (.int p0)]))
      have J48 : ∀ (TJ48 : State) (hJ48 : Heap) (LJ48 : List Loc), (¬ p0 = (45 : Int32)) → (¬ p0 = (46 : Int32)) → (p0 < (48 : Int32) ∨ (57 : Int32) < p0) → (hJ48 = h0) → Stand p l e ({ frames := 0, cells := 0, slots := 0, locals := 0 } : Room) s m #[(.int p0)] below meth c TJ48 LJ48 0 0 → TJ48.heap = hJ48 → Fr n0 LJ48 → n0 ≤ hJ48.size → own_Comes p e below s ({ frames := 0, cells := 0, slots := 0, locals := 0 } : Room).cells ({ frames := 0, cells := 0, slots := 0, locals := 0 } : Room).slots (Q1 Z p0 h0 n0) (TJ48.setTop (mkF m 26 #[.val (.int p0), .val (.int p0)] [])) := by
        intro TJ48 hJ48 LJ48 k45 k46 k48 hh0 XJ48 eJ48 NJ48 ZJ48
        show own_Comes p e below s _ _ _ (TJ48.setTop (mkF m 26 #[.val (.int p0), .val (.int p0)] []))
        refine own_by (fun _ kS => XS.iloadN XJ48.here hx rfl (hb hby d1_26) rfl kS) ?_
        show own_Comes p e below s _ _ _ (TJ48.setTop (mkF m 27 #[.val (.int p0), .val (.int p0)] [(.int p0)]))
        refine own_by (fun _ kS => XS.bipush XJ48.here hx rfl (hb hby d1_27) kS) ?_
        show own_Comes p e below s _ _ _ (TJ48.setTop (mkF m 29 #[.val (.int p0), .val (.int p0)] [(.int (65 : Int32)), (.int p0)]))
        have J65 : ∀ (TJ65 : State) (hJ65 : Heap) (LJ65 : List Loc), (¬ p0 = (45 : Int32)) → (¬ p0 = (46 : Int32)) → (p0 < (48 : Int32) ∨ (57 : Int32) < p0) → (p0 < (65 : Int32) ∨ (90 : Int32) < p0) → (hJ65 = h0) → Stand p l e ({ frames := 0, cells := 0, slots := 0, locals := 0 } : Room) s m #[(.int p0)] below meth c TJ65 LJ65 0 0 → TJ65.heap = hJ65 → Fr n0 LJ65 → n0 ≤ hJ65.size → own_Comes p e below s ({ frames := 0, cells := 0, slots := 0, locals := 0 } : Room).cells ({ frames := 0, cells := 0, slots := 0, locals := 0 } : Room).slots (Q1 Z p0 h0 n0) (TJ65.setTop (mkF m 38 #[.val (.int p0), .val (.int p0)] [])) := by
          intro TJ65 hJ65 LJ65 k45 k46 k48 k65 hh0 XJ65 eJ65 NJ65 ZJ65
          show own_Comes p e below s _ _ _ (TJ65.setTop (mkF m 38 #[.val (.int p0), .val (.int p0)] []))
          refine own_by (fun _ kS => XS.iloadN XJ65.here hx rfl (hb hby d1_38) rfl kS) ?_
          show own_Comes p e below s _ _ _ (TJ65.setTop (mkF m 39 #[.val (.int p0), .val (.int p0)] [(.int p0)]))
          refine own_by (fun _ kS => XS.bipush XJ65.here hx rfl (hb hby d1_39) kS) ?_
          show own_Comes p e below s _ _ _ (TJ65.setTop (mkF m 41 #[.val (.int p0), .val (.int p0)] [(.int (95 : Int32)), (.int p0)]))
          by_cases k95 : p0 = (95 : Int32)
          · refine own_by (fun _ kS => XS.icmpYes XJ65.here hx rfl (pc0 := 41) (pc' := 62) rfl (hb hby d1_41) rfl (teq k95).1 (by decide) (by decide) kS) ?_
            show own_Comes p e below s _ _ _ (TJ65.setTop (mkF m 62 #[.val (.int p0), .val (.int p0)] []))
            exact Jy  _ _ _ (Or.inr (Or.inr (Or.inr (Or.inr (Or.inl k95))))) hh0 (XJ65.more (by decide) (by decide)) eJ65 NJ65  ZJ65
          · refine own_by (fun _ kS => XS.icmpNo XJ65.here hx rfl (hb hby d1_41) rfl (feq k95).1 kS) ?_
            show own_Comes p e below s _ _ _ (TJ65.setTop (mkF m 44 #[.val (.int p0), .val (.int p0)] []))
            refine own_by (fun _ kS => XS.iloadN XJ65.here hx rfl (hb hby d1_44) rfl kS) ?_
            show own_Comes p e below s _ _ _ (TJ65.setTop (mkF m 45 #[.val (.int p0), .val (.int p0)] [(.int p0)]))
            refine own_by (fun _ kS => XS.bipush XJ65.here hx rfl (hb hby d1_45) kS) ?_
            show own_Comes p e below s _ _ _ (TJ65.setTop (mkF m 47 #[.val (.int p0), .val (.int p0)] [(.int (97 : Int32)), (.int p0)]))
            have J97 : ∀ (TJ97 : State) (hJ97 : Heap) (LJ97 : List Loc), (¬ p0 = (45 : Int32)) → (¬ p0 = (46 : Int32)) → (p0 < (48 : Int32) ∨ (57 : Int32) < p0) → (p0 < (65 : Int32) ∨ (90 : Int32) < p0) → (¬ p0 = (95 : Int32)) → (p0 < (97 : Int32) ∨ (122 : Int32) < p0) → (hJ97 = h0) → Stand p l e ({ frames := 0, cells := 0, slots := 0, locals := 0 } : Room) s m #[(.int p0)] below meth c TJ97 LJ97 0 0 → TJ97.heap = hJ97 → Fr n0 LJ97 → n0 ≤ hJ97.size → own_Comes p e below s ({ frames := 0, cells := 0, slots := 0, locals := 0 } : Room).cells ({ frames := 0, cells := 0, slots := 0, locals := 0 } : Room).slots (Q1 Z p0 h0 n0) (TJ97.setTop (mkF m 56 #[.val (.int p0), .val (.int p0)] [])) := by
              intro TJ97 hJ97 LJ97 k45 k46 k48 k65 k95 k97 hh0 XJ97 eJ97 NJ97 ZJ97
              show own_Comes p e below s _ _ _ (TJ97.setTop (mkF m 56 #[.val (.int p0), .val (.int p0)] []))
              refine own_by (fun _ kS => XS.iloadN XJ97.here hx rfl (hb hby d1_56) rfl kS) ?_
              show own_Comes p e below s _ _ _ (TJ97.setTop (mkF m 57 #[.val (.int p0), .val (.int p0)] [(.int p0)]))
              refine own_by (fun _ kS => XS.bipush XJ97.here hx rfl (hb hby d1_57) kS) ?_
              show own_Comes p e below s _ _ _ (TJ97.setTop (mkF m 59 #[.val (.int p0), .val (.int p0)] [(.int (126 : Int32)), (.int p0)]))
              by_cases k126 : p0 = (126 : Int32)
              · refine own_by (fun _ kS => XS.icmpNo XJ97.here hx rfl (hb hby d1_59) rfl (teq k126).2 kS) ?_
                show own_Comes p e below s _ _ _ (TJ97.setTop (mkF m 62 #[.val (.int p0), .val (.int p0)] []))
                exact Jy  _ _ _ (Or.inr (Or.inr (Or.inr (Or.inr (Or.inr (Or.inr k126)))))) hh0 (XJ97.more (by decide) (by decide)) eJ97 NJ97  ZJ97
              · refine own_by (fun _ kS => XS.icmpYes XJ97.here hx rfl (pc0 := 59) (pc' := 66) rfl (hb hby d1_59) rfl (feq k126).2 (by decide) (by decide) kS) ?_
                show own_Comes p e below s _ _ _ (TJ97.setTop (mkF m 66 #[.val (.int p0), .val (.int p0)] []))
                refine own_by (fun _ kS => XS.iconst XJ97.here hx rfl (hb hby d1_66) kS) ?_
                show own_Comes p e below s _ _ _ (TJ97.setTop (mkF m 67 #[.val (.int p0), .val (.int p0)] [(.int (0 : Int32))]))
                refine own_ret XJ97 (v := some (.int (0 : Int32))) (fun h => by rw [Bd.returns] at h; cases h) Bd.notSynchronized (by decide) (by decide) ?_ (fun fs hr => retN XJ97 hx (t := .boolean) Bd.returns (by simp) (hb hby d1_67) hr)
                rw [eJ97]; exact ⟨_, rfl, NJ97, hh0, Or.inr ⟨rfl, own_unno k45 k46 k48 k65 k95 k97 k126⟩⟩
            by_cases c97 : p0 < (97 : Int32)
            · refine own_by (fun _ kS => XS.icmpYes XJ65.here hx rfl (pc0 := 47) (pc' := 56) rfl (hb hby d1_47) rfl (tlt c97).1 (by decide) (by decide) kS) ?_
              show own_Comes p e below s _ _ _ (TJ65.setTop (mkF m 56 #[.val (.int p0), .val (.int p0)] []))
              exact J97  _ _ _ k45 k46 k48 k65 k95 (Or.inl c97) hh0 (XJ65.more (by decide) (by decide)) eJ65 NJ65  ZJ65
            · refine own_by (fun _ kS => XS.icmpNo XJ65.here hx rfl (hb hby d1_47) rfl (flt c97).1 kS) ?_
              show own_Comes p e below s _ _ _ (TJ65.setTop (mkF m 50 #[.val (.int p0), .val (.int p0)] []))
              refine own_by (fun _ kS => XS.iloadN XJ65.here hx rfl (hb hby d1_50) rfl kS) ?_
              show own_Comes p e below s _ _ _ (TJ65.setTop (mkF m 51 #[.val (.int p0), .val (.int p0)] [(.int p0)]))
              refine own_by (fun _ kS => XS.bipush XJ65.here hx rfl (hb hby d1_51) kS) ?_
              show own_Comes p e below s _ _ _ (TJ65.setTop (mkF m 53 #[.val (.int p0), .val (.int p0)] [(.int (122 : Int32)), (.int p0)]))
              by_cases d97 : (122 : Int32) < p0
              · refine own_by (fun _ kS => XS.icmpNo XJ65.here hx rfl (hb hby d1_53) rfl (tlt d97).2.2.2 kS) ?_
                show own_Comes p e below s _ _ _ (TJ65.setTop (mkF m 56 #[.val (.int p0), .val (.int p0)] []))
                exact J97  _ _ _ k45 k46 k48 k65 k95 (Or.inr d97) hh0 (XJ65.more (by decide) (by decide)) eJ65 NJ65  ZJ65
              · refine own_by (fun _ kS => XS.icmpYes XJ65.here hx rfl (pc0 := 53) (pc' := 62) rfl (hb hby d1_53) rfl (flt d97).2.2.2 (by decide) (by decide) kS) ?_
                show own_Comes p e below s _ _ _ (TJ65.setTop (mkF m 62 #[.val (.int p0), .val (.int p0)] []))
                exact Jy  _ _ _ (Or.inr (Or.inr (Or.inr (Or.inr (Or.inr (Or.inl ⟨c97, d97⟩)))))) hh0 (XJ65.more (by decide) (by decide)) eJ65 NJ65  ZJ65
        by_cases c65 : p0 < (65 : Int32)
        · refine own_by (fun _ kS => XS.icmpYes XJ48.here hx rfl (pc0 := 29) (pc' := 38) rfl (hb hby d1_29) rfl (tlt c65).1 (by decide) (by decide) kS) ?_
          show own_Comes p e below s _ _ _ (TJ48.setTop (mkF m 38 #[.val (.int p0), .val (.int p0)] []))
          exact J65  _ _ _ k45 k46 k48 (Or.inl c65) hh0 (XJ48.more (by decide) (by decide)) eJ48 NJ48  ZJ48
        · refine own_by (fun _ kS => XS.icmpNo XJ48.here hx rfl (hb hby d1_29) rfl (flt c65).1 kS) ?_
          show own_Comes p e below s _ _ _ (TJ48.setTop (mkF m 32 #[.val (.int p0), .val (.int p0)] []))
          refine own_by (fun _ kS => XS.iloadN XJ48.here hx rfl (hb hby d1_32) rfl kS) ?_
          show own_Comes p e below s _ _ _ (TJ48.setTop (mkF m 33 #[.val (.int p0), .val (.int p0)] [(.int p0)]))
          refine own_by (fun _ kS => XS.bipush XJ48.here hx rfl (hb hby d1_33) kS) ?_
          show own_Comes p e below s _ _ _ (TJ48.setTop (mkF m 35 #[.val (.int p0), .val (.int p0)] [(.int (90 : Int32)), (.int p0)]))
          by_cases d65 : (90 : Int32) < p0
          · refine own_by (fun _ kS => XS.icmpNo XJ48.here hx rfl (hb hby d1_35) rfl (tlt d65).2.2.2 kS) ?_
            show own_Comes p e below s _ _ _ (TJ48.setTop (mkF m 38 #[.val (.int p0), .val (.int p0)] []))
            exact J65  _ _ _ k45 k46 k48 (Or.inr d65) hh0 (XJ48.more (by decide) (by decide)) eJ48 NJ48  ZJ48
          · refine own_by (fun _ kS => XS.icmpYes XJ48.here hx rfl (pc0 := 35) (pc' := 62) rfl (hb hby d1_35) rfl (flt d65).2.2.2 (by decide) (by decide) kS) ?_
            show own_Comes p e below s _ _ _ (TJ48.setTop (mkF m 62 #[.val (.int p0), .val (.int p0)] []))
            exact Jy  _ _ _ (Or.inr (Or.inr (Or.inr (Or.inl ⟨c65, d65⟩)))) hh0 (XJ48.more (by decide) (by decide)) eJ48 NJ48  ZJ48
      by_cases c48 : p0 < (48 : Int32)
      · refine own_by (fun _ kS => XS.icmpYes X0.here hx rfl (pc0 := 17) (pc' := 26) rfl (hb hby d1_17) rfl (tlt c48).1 (by decide) (by decide) kS) ?_
        show own_Comes p e below s _ _ _ (s₁.setTop (mkF m 26 #[.val (.int p0), .val (.int p0)] []))
        exact J48  _ _ _ k45 k46 (Or.inl c48) rfl (X0.more (by decide) (by decide)) e0 N0  Z0
      · refine own_by (fun _ kS => XS.icmpNo X0.here hx rfl (hb hby d1_17) rfl (flt c48).1 kS) ?_
        show own_Comes p e below s _ _ _ (s₁.setTop (mkF m 20 #[.val (.int p0), .val (.int p0)] []))
        refine own_by (fun _ kS => XS.iloadN X0.here hx rfl (hb hby d1_20) rfl kS) ?_
        show own_Comes p e below s _ _ _ (s₁.setTop (mkF m 21 #[.val (.int p0), .val (.int p0)] [(.int p0)]))
        refine own_by (fun _ kS => XS.bipush X0.here hx rfl (hb hby d1_21) kS) ?_
        show own_Comes p e below s _ _ _ (s₁.setTop (mkF m 23 #[.val (.int p0), .val (.int p0)] [(.int (57 : Int32)), (.int p0)]))
        by_cases d48 : (57 : Int32) < p0
        · refine own_by (fun _ kS => XS.icmpNo X0.here hx rfl (hb hby d1_23) rfl (tlt d48).2.2.2 kS) ?_
          show own_Comes p e below s _ _ _ (s₁.setTop (mkF m 26 #[.val (.int p0), .val (.int p0)] []))
          exact J48  _ _ _ k45 k46 (Or.inr d48) rfl (X0.more (by decide) (by decide)) e0 N0  Z0
        · refine own_by (fun _ kS => XS.icmpYes X0.here hx rfl (pc0 := 23) (pc' := 62) rfl (hb hby d1_23) rfl (flt d48).2.2.2 (by decide) (by decide) kS) ?_
          show own_Comes p e below s _ _ _ (s₁.setTop (mkF m 62 #[.val (.int p0), .val (.int p0)] []))
          exact Jy  _ _ _ (Or.inr (Or.inr (Or.inl ⟨c48, d48⟩))) rfl (X0.more (by decide) (by decide)) e0 N0  Z0
theorem ef_rm30 (m : MethodId) (x0 : Int32) : entryFrame m #[(.int x0)] 1 = mkF m 0 #[.val (.int x0)] [] := by first | (simp [entryFrame, mkF, argsToLocals, Value.category]; done) | rfl
theorem pn_com_example_eslabon_eslabon_CodeChallengeMethod : plainName "com/example/eslabon/eslabon/CodeChallengeMethod" = true := by first | (simp [plainName, overriddenIn]; done) | decide +kernel
theorem d30_60 : decode prog_3_method_10_code 60 = .ok (.iconst 1, 1) := by decide +kernel
theorem d30_61 : decode prog_3_method_10_code 61 = .ok (.goto 4, 3) := by decide +kernel
theorem d30_65 : decode prog_3_method_10_code 65 = .ok (.ireturn, 1) := by decide +kernel
theorem d30_0 : decode prog_3_method_10_code 0 = .ok (.iload_n 0, 1) := by decide +kernel
theorem d30_1 : decode prog_3_method_10_code 1 = .ok (.bipush 65, 2) := by decide +kernel
theorem d30_12 : decode prog_3_method_10_code 12 = .ok (.iload_n 0, 1) := by decide +kernel
theorem d30_13 : decode prog_3_method_10_code 13 = .ok (.bipush 97, 2) := by decide +kernel
theorem d30_24 : decode prog_3_method_10_code 24 = .ok (.iload_n 0, 1) := by decide +kernel
theorem d30_25 : decode prog_3_method_10_code 25 = .ok (.bipush 48, 2) := by decide +kernel
theorem d30_36 : decode prog_3_method_10_code 36 = .ok (.iload_n 0, 1) := by decide +kernel
theorem d30_37 : decode prog_3_method_10_code 37 = .ok (.bipush 45, 2) := by decide +kernel
theorem d30_39 : decode prog_3_method_10_code 39 = .ok (.if_icmp .eq 21, 3) := by decide +kernel
theorem d30_42 : decode prog_3_method_10_code 42 = .ok (.iload_n 0, 1) := by decide +kernel
theorem d30_43 : decode prog_3_method_10_code 43 = .ok (.bipush 46, 2) := by decide +kernel
theorem d30_45 : decode prog_3_method_10_code 45 = .ok (.if_icmp .eq 15, 3) := by decide +kernel
theorem d30_48 : decode prog_3_method_10_code 48 = .ok (.iload_n 0, 1) := by decide +kernel
theorem d30_49 : decode prog_3_method_10_code 49 = .ok (.bipush 95, 2) := by decide +kernel
theorem d30_51 : decode prog_3_method_10_code 51 = .ok (.if_icmp .eq 9, 3) := by decide +kernel
theorem d30_54 : decode prog_3_method_10_code 54 = .ok (.iload_n 0, 1) := by decide +kernel
theorem d30_55 : decode prog_3_method_10_code 55 = .ok (.bipush 126, 2) := by decide +kernel
theorem d30_57 : decode prog_3_method_10_code 57 = .ok (.if_icmp .ne 7, 3) := by decide +kernel
theorem d30_64 : decode prog_3_method_10_code 64 = .ok (.iconst 0, 1) := by decide +kernel
theorem d30_27 : decode prog_3_method_10_code 27 = .ok (.if_icmp .lt 9, 3) := by decide +kernel
theorem d30_30 : decode prog_3_method_10_code 30 = .ok (.iload_n 0, 1) := by decide +kernel
theorem d30_31 : decode prog_3_method_10_code 31 = .ok (.bipush 57, 2) := by decide +kernel
theorem d30_33 : decode prog_3_method_10_code 33 = .ok (.if_icmp .le 27, 3) := by decide +kernel
theorem d30_15 : decode prog_3_method_10_code 15 = .ok (.if_icmp .lt 9, 3) := by decide +kernel
theorem d30_18 : decode prog_3_method_10_code 18 = .ok (.iload_n 0, 1) := by decide +kernel
theorem d30_19 : decode prog_3_method_10_code 19 = .ok (.bipush 122, 2) := by decide +kernel
theorem d30_21 : decode prog_3_method_10_code 21 = .ok (.if_icmp .le 39, 3) := by decide +kernel
theorem d30_3 : decode prog_3_method_10_code 3 = .ok (.if_icmp .lt 9, 3) := by decide +kernel
theorem d30_6 : decode prog_3_method_10_code 6 = .ok (.iload_n 0, 1) := by decide +kernel
theorem d30_7 : decode prog_3_method_10_code 7 = .ok (.bipush 90, 2) := by decide +kernel
theorem d30_9 : decode prog_3_method_10_code 9 = .ok (.if_icmp .le 51, 3) := by decide +kernel
set_option maxRecDepth 65536 in
set_option maxHeartbeats 40000000 in
theorem rm30 (l : Launch) (Z : State) (a0 : Array Value) (hw : ∀ d ∈ tables_1, d.before a0 Z = true) (ws : List Jvm.Cond) (p0 : Int32) (h0 : Heap) (n0 : Nat) (Z0 : n0 ≤ h0.size) :
    MetFree l (⟨"com/example/eslabon/eslabon/CodeChallengeMethod", "isUnreserved", "(C)Z"⟩ : MethodName) (head1 (Jvm.Cond.code (⟨"com/example/eslabon/eslabon/CodeChallengeMethod", "isUnreserved", "(C)Z"⟩ : MethodName) prog_3_method_10_code 1 (some .boolean) :: ws) ({ frames := 0, cells := 0, slots := 0, locals := 0 } : Room)) (fun aX UX => aX = #[(.int p0)] ∧ Z.Warmed39 UX.vm ∧ UX.heap = h0) (fun _ _ _ _ _ => True) (fun _ UX oX UX' => ∃ vX LX, oX = .returned vX ∧ Q30 Z p0 h0 n0 vX UX'.heap LX ∧ FrameEnd UX oX UX' LX ({ frames := 0, cells := 0, slots := 0, locals := 0 } : Room).cells ({ frames := 0, cells := 0, slots := 0, locals := 0 } : Room).slots) := by
  refine MetFree.of_bodySF (plainFor_of_name pn_com_example_eslabon_eslabon_CodeChallengeMethod) hisR ?_
  intro p e s m args below meth c s₁ Bd hml0 hP hK
  obtain ⟨rfl, hZ, hh⟩ := hP
  have hx := Bd.exec
  have hby := Bd.bytes
  have hml : c.maxLocals = 1 := hml0
  have hown : s.vm.findClass "com/example/eslabon/eslabon/CodeChallengeMethod" = some m.cls := findClass_of_methodNamed Bd.named
  have hnm := (name_of_methodNamed Bd.named Bd.method).1
  have X0 : Stand p l e ({ frames := 0, cells := 0, slots := 0, locals := 0 } : Room) s m #[(.int p0)] below meth c s₁ [] 0 0 := Stand.of_body Bd
  have e0 : s₁.heap = h0 := by rw [← hh, Bd.state]; rfl
  have N0 := Fr.nil n0
  show own_Comes p e below s ({ frames := 0, cells := 0, slots := 0, locals := 0 } : Room).cells ({ frames := 0, cells := 0, slots := 0, locals := 0 } : Room).slots (Q30 Z p0 h0 n0) _
  rw [show entryFrame m #[(.int p0)] 1 = mkF m 0 #[.val (.int p0)] [] from ef_rm30 m p0]
  show own_Comes p e below s _ _ _ (s₁.setTop (mkF m 0 #[.val (.int p0)] []))
  have Jy : ∀ (TJy : State) (hJy : Heap) (LJy : List Loc), (own_un p0) → (hJy = h0) → Stand p l e ({ frames := 0, cells := 0, slots := 0, locals := 0 } : Room) s m #[(.int p0)] below meth c TJy LJy 0 0 → TJy.heap = hJy → Fr n0 LJy → n0 ≤ hJy.size → own_Comes p e below s ({ frames := 0, cells := 0, slots := 0, locals := 0 } : Room).cells ({ frames := 0, cells := 0, slots := 0, locals := 0 } : Room).slots (Q30 Z p0 h0 n0) (TJy.setTop (mkF m 60 #[.val (.int p0)] [])) := by
    intro TJy hJy LJy hy hh0 XJy eJy NJy ZJy
    show own_Comes p e below s _ _ _ (TJy.setTop (mkF m 60 #[.val (.int p0)] []))
    refine own_by (fun _ kS => XS.iconst XJy.here hx rfl (hb hby d30_60) kS) ?_
    show own_Comes p e below s _ _ _ (TJy.setTop (mkF m 61 #[.val (.int p0)] [(.int (1 : Int32))]))
    refine own_by (fun _ kS => XS.goto XJy.here hx rfl (pc0 := 61) (pc' := 65) rfl (hb hby d30_61) (by decide) (by decide) kS) ?_
    show own_Comes p e below s _ _ _ (TJy.setTop (mkF m 65 #[.val (.int p0)] [(.int (1 : Int32))]))
    refine own_ret XJy (v := some (.int (1 : Int32))) (fun h => by rw [Bd.returns] at h; cases h) Bd.notSynchronized (by decide) (by decide) ?_ (fun fs hr => retN XJy hx (t := .boolean) Bd.returns (by simp) (hb hby d30_65) hr)
    rw [eJy]; exact ⟨_, rfl, NJy, hh0, Or.inl ⟨rfl, hy⟩⟩
  refine own_by (fun _ kS => XS.iloadN X0.here hx rfl (hb hby d30_0) rfl kS) ?_
  show own_Comes p e below s _ _ _ (s₁.setTop (mkF m 1 #[.val (.int p0)] [(.int p0)]))
  refine own_by (fun _ kS => XS.bipush X0.here hx rfl (hb hby d30_1) kS) ?_
  show own_Comes p e below s _ _ _ (s₁.setTop (mkF m 3 #[.val (.int p0)] [(.int (65 : Int32)), (.int p0)]))
  have J65 : ∀ (TJ65 : State) (hJ65 : Heap) (LJ65 : List Loc), (p0 < (65 : Int32) ∨ (90 : Int32) < p0) → (hJ65 = h0) → Stand p l e ({ frames := 0, cells := 0, slots := 0, locals := 0 } : Room) s m #[(.int p0)] below meth c TJ65 LJ65 0 0 → TJ65.heap = hJ65 → Fr n0 LJ65 → n0 ≤ hJ65.size → own_Comes p e below s ({ frames := 0, cells := 0, slots := 0, locals := 0 } : Room).cells ({ frames := 0, cells := 0, slots := 0, locals := 0 } : Room).slots (Q30 Z p0 h0 n0) (TJ65.setTop (mkF m 12 #[.val (.int p0)] [])) := by
    intro TJ65 hJ65 LJ65 k65 hh0 XJ65 eJ65 NJ65 ZJ65
    show own_Comes p e below s _ _ _ (TJ65.setTop (mkF m 12 #[.val (.int p0)] []))
    refine own_by (fun _ kS => XS.iloadN XJ65.here hx rfl (hb hby d30_12) rfl kS) ?_
    show own_Comes p e below s _ _ _ (TJ65.setTop (mkF m 13 #[.val (.int p0)] [(.int p0)]))
    refine own_by (fun _ kS => XS.bipush XJ65.here hx rfl (hb hby d30_13) kS) ?_
    show own_Comes p e below s _ _ _ (TJ65.setTop (mkF m 15 #[.val (.int p0)] [(.int (97 : Int32)), (.int p0)]))
    have J97 : ∀ (TJ97 : State) (hJ97 : Heap) (LJ97 : List Loc), (p0 < (65 : Int32) ∨ (90 : Int32) < p0) → (p0 < (97 : Int32) ∨ (122 : Int32) < p0) → (hJ97 = h0) → Stand p l e ({ frames := 0, cells := 0, slots := 0, locals := 0 } : Room) s m #[(.int p0)] below meth c TJ97 LJ97 0 0 → TJ97.heap = hJ97 → Fr n0 LJ97 → n0 ≤ hJ97.size → own_Comes p e below s ({ frames := 0, cells := 0, slots := 0, locals := 0 } : Room).cells ({ frames := 0, cells := 0, slots := 0, locals := 0 } : Room).slots (Q30 Z p0 h0 n0) (TJ97.setTop (mkF m 24 #[.val (.int p0)] [])) := by
      intro TJ97 hJ97 LJ97 k65 k97 hh0 XJ97 eJ97 NJ97 ZJ97
      show own_Comes p e below s _ _ _ (TJ97.setTop (mkF m 24 #[.val (.int p0)] []))
      refine own_by (fun _ kS => XS.iloadN XJ97.here hx rfl (hb hby d30_24) rfl kS) ?_
      show own_Comes p e below s _ _ _ (TJ97.setTop (mkF m 25 #[.val (.int p0)] [(.int p0)]))
      refine own_by (fun _ kS => XS.bipush XJ97.here hx rfl (hb hby d30_25) kS) ?_
      show own_Comes p e below s _ _ _ (TJ97.setTop (mkF m 27 #[.val (.int p0)] [(.int (48 : Int32)), (.int p0)]))
      have J48 : ∀ (TJ48 : State) (hJ48 : Heap) (LJ48 : List Loc), (p0 < (65 : Int32) ∨ (90 : Int32) < p0) → (p0 < (97 : Int32) ∨ (122 : Int32) < p0) → (p0 < (48 : Int32) ∨ (57 : Int32) < p0) → (hJ48 = h0) → Stand p l e ({ frames := 0, cells := 0, slots := 0, locals := 0 } : Room) s m #[(.int p0)] below meth c TJ48 LJ48 0 0 → TJ48.heap = hJ48 → Fr n0 LJ48 → n0 ≤ hJ48.size → own_Comes p e below s ({ frames := 0, cells := 0, slots := 0, locals := 0 } : Room).cells ({ frames := 0, cells := 0, slots := 0, locals := 0 } : Room).slots (Q30 Z p0 h0 n0) (TJ48.setTop (mkF m 36 #[.val (.int p0)] [])) := by
        intro TJ48 hJ48 LJ48 k65 k97 k48 hh0 XJ48 eJ48 NJ48 ZJ48
        show own_Comes p e below s _ _ _ (TJ48.setTop (mkF m 36 #[.val (.int p0)] []))
        refine own_by (fun _ kS => XS.iloadN XJ48.here hx rfl (hb hby d30_36) rfl kS) ?_
        show own_Comes p e below s _ _ _ (TJ48.setTop (mkF m 37 #[.val (.int p0)] [(.int p0)]))
        refine own_by (fun _ kS => XS.bipush XJ48.here hx rfl (hb hby d30_37) kS) ?_
        show own_Comes p e below s _ _ _ (TJ48.setTop (mkF m 39 #[.val (.int p0)] [(.int (45 : Int32)), (.int p0)]))
        by_cases k45 : p0 = (45 : Int32)
        · refine own_by (fun _ kS => XS.icmpYes XJ48.here hx rfl (pc0 := 39) (pc' := 60) rfl (hb hby d30_39) rfl (teq k45).1 (by decide) (by decide) kS) ?_
          show own_Comes p e below s _ _ _ (TJ48.setTop (mkF m 60 #[.val (.int p0)] []))
          exact Jy  _ _ _ (Or.inl k45) hh0 (XJ48.more (by decide) (by decide)) eJ48 NJ48  ZJ48
        · refine own_by (fun _ kS => XS.icmpNo XJ48.here hx rfl (hb hby d30_39) rfl (feq k45).1 kS) ?_
          show own_Comes p e below s _ _ _ (TJ48.setTop (mkF m 42 #[.val (.int p0)] []))
          refine own_by (fun _ kS => XS.iloadN XJ48.here hx rfl (hb hby d30_42) rfl kS) ?_
          show own_Comes p e below s _ _ _ (TJ48.setTop (mkF m 43 #[.val (.int p0)] [(.int p0)]))
          refine own_by (fun _ kS => XS.bipush XJ48.here hx rfl (hb hby d30_43) kS) ?_
          show own_Comes p e below s _ _ _ (TJ48.setTop (mkF m 45 #[.val (.int p0)] [(.int (46 : Int32)), (.int p0)]))
          by_cases k46 : p0 = (46 : Int32)
          · refine own_by (fun _ kS => XS.icmpYes XJ48.here hx rfl (pc0 := 45) (pc' := 60) rfl (hb hby d30_45) rfl (teq k46).1 (by decide) (by decide) kS) ?_
            show own_Comes p e below s _ _ _ (TJ48.setTop (mkF m 60 #[.val (.int p0)] []))
            exact Jy  _ _ _ (Or.inr (Or.inl k46)) hh0 (XJ48.more (by decide) (by decide)) eJ48 NJ48  ZJ48
          · refine own_by (fun _ kS => XS.icmpNo XJ48.here hx rfl (hb hby d30_45) rfl (feq k46).1 kS) ?_
            show own_Comes p e below s _ _ _ (TJ48.setTop (mkF m 48 #[.val (.int p0)] []))
            refine own_by (fun _ kS => XS.iloadN XJ48.here hx rfl (hb hby d30_48) rfl kS) ?_
            show own_Comes p e below s _ _ _ (TJ48.setTop (mkF m 49 #[.val (.int p0)] [(.int p0)]))
            refine own_by (fun _ kS => XS.bipush XJ48.here hx rfl (hb hby d30_49) kS) ?_
            show own_Comes p e below s _ _ _ (TJ48.setTop (mkF m 51 #[.val (.int p0)] [(.int (95 : Int32)), (.int p0)]))
            by_cases k95 : p0 = (95 : Int32)
            · refine own_by (fun _ kS => XS.icmpYes XJ48.here hx rfl (pc0 := 51) (pc' := 60) rfl (hb hby d30_51) rfl (teq k95).1 (by decide) (by decide) kS) ?_
              show own_Comes p e below s _ _ _ (TJ48.setTop (mkF m 60 #[.val (.int p0)] []))
              exact Jy  _ _ _ (Or.inr (Or.inr (Or.inr (Or.inr (Or.inl k95))))) hh0 (XJ48.more (by decide) (by decide)) eJ48 NJ48  ZJ48
            · refine own_by (fun _ kS => XS.icmpNo XJ48.here hx rfl (hb hby d30_51) rfl (feq k95).1 kS) ?_
              show own_Comes p e below s _ _ _ (TJ48.setTop (mkF m 54 #[.val (.int p0)] []))
              refine own_by (fun _ kS => XS.iloadN XJ48.here hx rfl (hb hby d30_54) rfl kS) ?_
              show own_Comes p e below s _ _ _ (TJ48.setTop (mkF m 55 #[.val (.int p0)] [(.int p0)]))
              refine own_by (fun _ kS => XS.bipush XJ48.here hx rfl (hb hby d30_55) kS) ?_
              show own_Comes p e below s _ _ _ (TJ48.setTop (mkF m 57 #[.val (.int p0)] [(.int (126 : Int32)), (.int p0)]))
              by_cases k126 : p0 = (126 : Int32)
              · refine own_by (fun _ kS => XS.icmpNo XJ48.here hx rfl (hb hby d30_57) rfl (teq k126).2 kS) ?_
                show own_Comes p e below s _ _ _ (TJ48.setTop (mkF m 60 #[.val (.int p0)] []))
                exact Jy  _ _ _ (Or.inr (Or.inr (Or.inr (Or.inr (Or.inr (Or.inr k126)))))) hh0 (XJ48.more (by decide) (by decide)) eJ48 NJ48  ZJ48
              · refine own_by (fun _ kS => XS.icmpYes XJ48.here hx rfl (pc0 := 57) (pc' := 64) rfl (hb hby d30_57) rfl (feq k126).2 (by decide) (by decide) kS) ?_
                show own_Comes p e below s _ _ _ (TJ48.setTop (mkF m 64 #[.val (.int p0)] []))
                refine own_by (fun _ kS => XS.iconst XJ48.here hx rfl (hb hby d30_64) kS) ?_
                show own_Comes p e below s _ _ _ (TJ48.setTop (mkF m 65 #[.val (.int p0)] [(.int (0 : Int32))]))
                refine own_ret XJ48 (v := some (.int (0 : Int32))) (fun h => by rw [Bd.returns] at h; cases h) Bd.notSynchronized (by decide) (by decide) ?_ (fun fs hr => retN XJ48 hx (t := .boolean) Bd.returns (by simp) (hb hby d30_65) hr)
                rw [eJ48]; exact ⟨_, rfl, NJ48, hh0, Or.inr ⟨rfl, own_unno k45 k46 k48 k65 k95 k97 k126⟩⟩
      by_cases c48 : p0 < (48 : Int32)
      · refine own_by (fun _ kS => XS.icmpYes XJ97.here hx rfl (pc0 := 27) (pc' := 36) rfl (hb hby d30_27) rfl (tlt c48).1 (by decide) (by decide) kS) ?_
        show own_Comes p e below s _ _ _ (TJ97.setTop (mkF m 36 #[.val (.int p0)] []))
        exact J48  _ _ _ k65 k97 (Or.inl c48) hh0 (XJ97.more (by decide) (by decide)) eJ97 NJ97  ZJ97
      · refine own_by (fun _ kS => XS.icmpNo XJ97.here hx rfl (hb hby d30_27) rfl (flt c48).1 kS) ?_
        show own_Comes p e below s _ _ _ (TJ97.setTop (mkF m 30 #[.val (.int p0)] []))
        refine own_by (fun _ kS => XS.iloadN XJ97.here hx rfl (hb hby d30_30) rfl kS) ?_
        show own_Comes p e below s _ _ _ (TJ97.setTop (mkF m 31 #[.val (.int p0)] [(.int p0)]))
        refine own_by (fun _ kS => XS.bipush XJ97.here hx rfl (hb hby d30_31) kS) ?_
        show own_Comes p e below s _ _ _ (TJ97.setTop (mkF m 33 #[.val (.int p0)] [(.int (57 : Int32)), (.int p0)]))
        by_cases d48 : (57 : Int32) < p0
        · refine own_by (fun _ kS => XS.icmpNo XJ97.here hx rfl (hb hby d30_33) rfl (tlt d48).2.2.2 kS) ?_
          show own_Comes p e below s _ _ _ (TJ97.setTop (mkF m 36 #[.val (.int p0)] []))
          exact J48  _ _ _ k65 k97 (Or.inr d48) hh0 (XJ97.more (by decide) (by decide)) eJ97 NJ97  ZJ97
        · refine own_by (fun _ kS => XS.icmpYes XJ97.here hx rfl (pc0 := 33) (pc' := 60) rfl (hb hby d30_33) rfl (flt d48).2.2.2 (by decide) (by decide) kS) ?_
          show own_Comes p e below s _ _ _ (TJ97.setTop (mkF m 60 #[.val (.int p0)] []))
          exact Jy  _ _ _ (Or.inr (Or.inr (Or.inl ⟨c48, d48⟩))) hh0 (XJ97.more (by decide) (by decide)) eJ97 NJ97  ZJ97
    by_cases c97 : p0 < (97 : Int32)
    · refine own_by (fun _ kS => XS.icmpYes XJ65.here hx rfl (pc0 := 15) (pc' := 24) rfl (hb hby d30_15) rfl (tlt c97).1 (by decide) (by decide) kS) ?_
      show own_Comes p e below s _ _ _ (TJ65.setTop (mkF m 24 #[.val (.int p0)] []))
      exact J97  _ _ _ k65 (Or.inl c97) hh0 (XJ65.more (by decide) (by decide)) eJ65 NJ65  ZJ65
    · refine own_by (fun _ kS => XS.icmpNo XJ65.here hx rfl (hb hby d30_15) rfl (flt c97).1 kS) ?_
      show own_Comes p e below s _ _ _ (TJ65.setTop (mkF m 18 #[.val (.int p0)] []))
      refine own_by (fun _ kS => XS.iloadN XJ65.here hx rfl (hb hby d30_18) rfl kS) ?_
      show own_Comes p e below s _ _ _ (TJ65.setTop (mkF m 19 #[.val (.int p0)] [(.int p0)]))
      refine own_by (fun _ kS => XS.bipush XJ65.here hx rfl (hb hby d30_19) kS) ?_
      show own_Comes p e below s _ _ _ (TJ65.setTop (mkF m 21 #[.val (.int p0)] [(.int (122 : Int32)), (.int p0)]))
      by_cases d97 : (122 : Int32) < p0
      · refine own_by (fun _ kS => XS.icmpNo XJ65.here hx rfl (hb hby d30_21) rfl (tlt d97).2.2.2 kS) ?_
        show own_Comes p e below s _ _ _ (TJ65.setTop (mkF m 24 #[.val (.int p0)] []))
        exact J97  _ _ _ k65 (Or.inr d97) hh0 (XJ65.more (by decide) (by decide)) eJ65 NJ65  ZJ65
      · refine own_by (fun _ kS => XS.icmpYes XJ65.here hx rfl (pc0 := 21) (pc' := 60) rfl (hb hby d30_21) rfl (flt d97).2.2.2 (by decide) (by decide) kS) ?_
        show own_Comes p e below s _ _ _ (TJ65.setTop (mkF m 60 #[.val (.int p0)] []))
        exact Jy  _ _ _ (Or.inr (Or.inr (Or.inr (Or.inr (Or.inr (Or.inl ⟨c97, d97⟩)))))) hh0 (XJ65.more (by decide) (by decide)) eJ65 NJ65  ZJ65
  by_cases c65 : p0 < (65 : Int32)
  · refine own_by (fun _ kS => XS.icmpYes X0.here hx rfl (pc0 := 3) (pc' := 12) rfl (hb hby d30_3) rfl (tlt c65).1 (by decide) (by decide) kS) ?_
    show own_Comes p e below s _ _ _ (s₁.setTop (mkF m 12 #[.val (.int p0)] []))
    exact J65  _ _ _ (Or.inl c65) rfl (X0.more (by decide) (by decide)) e0 N0  Z0
  · refine own_by (fun _ kS => XS.icmpNo X0.here hx rfl (hb hby d30_3) rfl (flt c65).1 kS) ?_
    show own_Comes p e below s _ _ _ (s₁.setTop (mkF m 6 #[.val (.int p0)] []))
    refine own_by (fun _ kS => XS.iloadN X0.here hx rfl (hb hby d30_6) rfl kS) ?_
    show own_Comes p e below s _ _ _ (s₁.setTop (mkF m 7 #[.val (.int p0)] [(.int p0)]))
    refine own_by (fun _ kS => XS.bipush X0.here hx rfl (hb hby d30_7) kS) ?_
    show own_Comes p e below s _ _ _ (s₁.setTop (mkF m 9 #[.val (.int p0)] [(.int (90 : Int32)), (.int p0)]))
    by_cases d65 : (90 : Int32) < p0
    · refine own_by (fun _ kS => XS.icmpNo X0.here hx rfl (hb hby d30_9) rfl (tlt d65).2.2.2 kS) ?_
      show own_Comes p e below s _ _ _ (s₁.setTop (mkF m 12 #[.val (.int p0)] []))
      exact J65  _ _ _ (Or.inr d65) rfl (X0.more (by decide) (by decide)) e0 N0  Z0
    · refine own_by (fun _ kS => XS.icmpYes X0.here hx rfl (pc0 := 9) (pc' := 60) rfl (hb hby d30_9) rfl (flt d65).2.2.2 (by decide) (by decide) kS) ?_
      show own_Comes p e below s _ _ _ (s₁.setTop (mkF m 60 #[.val (.int p0)] []))
      exact Jy  _ _ _ (Or.inr (Or.inr (Or.inr (Or.inl ⟨c65, d65⟩)))) rfl (X0.more (by decide) (by decide)) e0 N0  Z0
theorem dr_32 : ∀ j, j < 35 → decode method_3_code (28 + 5 * j) = .ok (.dup, 1) ∧ decode method_3_code (28 + 5 * j + 1) = .ok (.bipush ((j + 6 : Nat) : Int), 2) ∧ decode method_3_code (28 + 5 * j + 3) = .ok (.iload_n 2, 1) ∧ decode method_3_code (28 + 5 * j + 4) = .ok (.castore, 1) := by decide +kernel
def Q32 (Z : State) (cs : List Int32) (h0 : Heap) (n0 : Nat) (v : Option Value) (h : Heap) (L : List Loc) : Prop := ∃ (a : Addr) (kc : ClassId), v = some (.ref a) ∧ Fr n0 L ∧ Ext h0 h ∧ n0 ≤ a ∧ h0.size ≤ a ∧ Arv Z h a kc .char (Int32.ofNat cs.length) (cs.map Value.int) (.int 0)
theorem ef_rm32 (m : MethodId) (x0 : Int32) (x1 : Int32) (x2 : Int32) (x3 : Int32) : entryFrame m #[(.int x0), (.int x1), (.int x2), (.int x3)] 4 = mkF m 0 #[.val (.int x0), .val (.int x1), .val (.int x2), .val (.int x3)] [] := by first | (simp [entryFrame, mkF, argsToLocals, Value.category]; done) | rfl
theorem d32_0 : decode method_3_code 0 = .ok (.bipush 42, 2) := by decide +kernel
theorem d32_2 : decode method_3_code 2 = .ok (.newarray .char, 2) := by decide +kernel
theorem d32_4 : decode method_3_code 4 = .ok (.dup, 1) := by decide +kernel
theorem d32_5 : decode method_3_code 5 = .ok (.iconst 0, 1) := by decide +kernel
theorem d32_6 : decode method_3_code 6 = .ok (.iload_n 0, 1) := by decide +kernel
theorem d32_7 : decode method_3_code 7 = .ok (.castore, 1) := by decide +kernel
theorem d32_8 : decode method_3_code 8 = .ok (.dup, 1) := by decide +kernel
theorem d32_9 : decode method_3_code 9 = .ok (.iconst 1, 1) := by decide +kernel
theorem d32_10 : decode method_3_code 10 = .ok (.iload_n 1, 1) := by decide +kernel
theorem d32_11 : decode method_3_code 11 = .ok (.castore, 1) := by decide +kernel
theorem d32_12 : decode method_3_code 12 = .ok (.dup, 1) := by decide +kernel
theorem d32_13 : decode method_3_code 13 = .ok (.iconst 2, 1) := by decide +kernel
theorem d32_14 : decode method_3_code 14 = .ok (.iload_n 2, 1) := by decide +kernel
theorem d32_15 : decode method_3_code 15 = .ok (.castore, 1) := by decide +kernel
theorem d32_16 : decode method_3_code 16 = .ok (.dup, 1) := by decide +kernel
theorem d32_17 : decode method_3_code 17 = .ok (.iconst 3, 1) := by decide +kernel
theorem d32_18 : decode method_3_code 18 = .ok (.iload_n 2, 1) := by decide +kernel
theorem d32_19 : decode method_3_code 19 = .ok (.castore, 1) := by decide +kernel
theorem d32_20 : decode method_3_code 20 = .ok (.dup, 1) := by decide +kernel
theorem d32_21 : decode method_3_code 21 = .ok (.iconst 4, 1) := by decide +kernel
theorem d32_22 : decode method_3_code 22 = .ok (.iload_n 2, 1) := by decide +kernel
theorem d32_23 : decode method_3_code 23 = .ok (.castore, 1) := by decide +kernel
theorem d32_24 : decode method_3_code 24 = .ok (.dup, 1) := by decide +kernel
theorem d32_25 : decode method_3_code 25 = .ok (.iconst 5, 1) := by decide +kernel
theorem d32_26 : decode method_3_code 26 = .ok (.iload_n 2, 1) := by decide +kernel
theorem d32_27 : decode method_3_code 27 = .ok (.castore, 1) := by decide +kernel
theorem d32_203 : decode method_3_code 203 = .ok (.dup, 1) := by decide +kernel
theorem d32_204 : decode method_3_code 204 = .ok (.bipush 41, 2) := by decide +kernel
theorem d32_206 : decode method_3_code 206 = .ok (.iload_n 3, 1) := by decide +kernel
theorem d32_207 : decode method_3_code 207 = .ok (.castore, 1) := by decide +kernel
theorem d32_208 : decode method_3_code 208 = .ok (.areturn, 1) := by decide +kernel
set_option maxRecDepth 65536 in
set_option maxHeartbeats 40000000 in
theorem rm32 (l : Launch) (Z : State) (a0 : Array Value) (hw : ∀ d ∈ tables_1, d.before a0 Z = true) (ws : List Jvm.Cond) (p0 p1 p2 p3 : Int32) (h0 : Heap) (n0 : Nat) (Z0 : n0 ≤ h0.size) (hp0 : ¬ p0 < 0 ∧ ¬ (65535 : Int32) < p0) (hp1 : ¬ p1 < 0 ∧ ¬ (65535 : Int32) < p1) (hp2 : ¬ p2 < 0 ∧ ¬ (65535 : Int32) < p2) (hp3 : ¬ p3 < 0 ∧ ¬ (65535 : Int32) < p3) :
    MetFree l (⟨"com/example/eslabon/eslabon/CodeChallengeMethodIsWellFormedPinLaw", "len42", "(CCCC)[C"⟩ : MethodName) (head1 (Jvm.Cond.code (⟨"com/example/eslabon/eslabon/CodeChallengeMethodIsWellFormedPinLaw", "len42", "(CCCC)[C"⟩ : MethodName) method_3_code 4 (some (.array .char)) :: ws) ({ frames := 0, cells := 1, slots := 42, locals := 0 } : Room)) (fun aX UX => aX = #[(.int p0), (.int p1), (.int p2), (.int p3)] ∧ Z.Warmed39 UX.vm ∧ UX.heap = h0) (fun _ _ _ _ _ => True) (fun _ UX oX UX' => ∃ vX LX, oX = .returned vX ∧ Q32 Z (own_cs p0 p1 p2 p3 42) h0 n0 vX UX'.heap LX ∧ FrameEnd UX oX UX' LX ({ frames := 0, cells := 1, slots := 42, locals := 0 } : Room).cells ({ frames := 0, cells := 1, slots := 42, locals := 0 } : Room).slots) := by
  refine MetFree.of_bodySF (plainFor_of_name pn_com_example_eslabon_eslabon_CodeChallengeMethodIsWellFormedPinLaw) hisR ?_
  intro p e s m args below meth c s₁ Bd hml0 hP hK
  obtain ⟨rfl, hZ, hh⟩ := hP
  have hx := Bd.exec
  have hby := Bd.bytes
  have hml : c.maxLocals = 4 := hml0
  have hown : s.vm.findClass "com/example/eslabon/eslabon/CodeChallengeMethodIsWellFormedPinLaw" = some m.cls := findClass_of_methodNamed Bd.named
  have hnm := (name_of_methodNamed Bd.named Bd.method).1
  have X0 : Stand p l e ({ frames := 0, cells := 1, slots := 42, locals := 0 } : Room) s m #[(.int p0), (.int p1), (.int p2), (.int p3)] below meth c s₁ [] 0 0 := Stand.of_body Bd
  have e0 : s₁.heap = h0 := by rw [← hh, Bd.state]; rfl
  have N0 := Fr.nil n0
  show own_Comes p e below s ({ frames := 0, cells := 1, slots := 42, locals := 0 } : Room).cells ({ frames := 0, cells := 1, slots := 42, locals := 0 } : Room).slots (Q32 Z (own_cs p0 p1 p2 p3 42) h0 n0) _
  rw [show entryFrame m #[(.int p0), (.int p1), (.int p2), (.int p3)] 4 = mkF m 0 #[.val (.int p0), .val (.int p1), .val (.int p2), .val (.int p3)] [] from ef_rm32 m p0 p1 p2 p3]
  show own_Comes p e below s _ _ _ (s₁.setTop (mkF m 0 #[.val (.int p0), .val (.int p1), .val (.int p2), .val (.int p3)] []))
  refine own_by (fun _ kS => XS.bipush X0.here hx rfl (hb hby d32_0) kS) ?_
  show own_Comes p e below s _ _ _ (s₁.setTop (mkF m 2 #[.val (.int p0), .val (.int p1), .val (.int p2), .val (.int p3)] [(.int (42 : Int32))]))
  obtain ⟨T71, h71, k71, X71, e71, E71, A71, st71⟩ := newP X0 hx hZ (hw _ (List.mem_of_getElem? (i := 11) rfl)) e0 (g := (mkF m 2 #[.val (.int p0), .val (.int p1), .val (.int p2), .val (.int p3)] [(.int (42 : Int32))])) rfl (hb hby d32_2) rfl (by decide) (cap := 42) (by decide) (by decide) (by decide) (by decide)
  obtain ⟨b71, g71⟩ : ∃ z, z = h0.size := ⟨_, rfl⟩
  rw [← g71] at A71 st71
  have g_b71 : n0 ≤ b71 := Nat.le_trans Z0 (Nat.le_of_eq g71.symm)
  refine own_by st71 ?_
  have V_b71 : Arv Z h71 b71 k71 .char (42 : Int32) (List.replicate 42 (.int (0 : Int32))) (.int (0 : Int32)) := (Arv.new A71 (by decide)).pad (pad_rep [] (.int (0 : Int32)) 42)
  show own_Comes p e below s _ _ _ (T71.setTop (mkF m 4 #[.val (.int p0), .val (.int p1), .val (.int p2), .val (.int p3)] [(.ref b71)]))
  have sz_b71 : h0.size ≤ b71 := Nat.le_of_eq g71.symm
  have V0 : Arv Z h71 b71 k71 .char (Int32.ofNat 42) (own_pre p0 p1 p2 42 0) (.int 0) := by rw [← own_p0]; exact V_b71
  refine own_by (fun _ kS => XS.dup X71.here hx rfl (hb hby d32_4) rfl rfl kS) ?_
  show own_Comes p e below s _ _ _ (T71.setTop (mkF m 5 #[.val (.int p0), .val (.int p1), .val (.int p2), .val (.int p3)] [(.ref b71), (.ref b71)]))
  refine own_by (fun _ kS => XS.iconst X71.here hx rfl (hb hby d32_5) kS) ?_
  show own_Comes p e below s _ _ _ (T71.setTop (mkF m 6 #[.val (.int p0), .val (.int p1), .val (.int p2), .val (.int p3)] [(.int (0 : Int32)), (.ref b71), (.ref b71)]))
  refine own_by (fun _ kS => XS.iloadN X71.here hx rfl (hb hby d32_6) rfl kS) ?_
  show own_Comes p e below s _ _ _ (T71.setTop (mkF m 7 #[.val (.int p0), .val (.int p1), .val (.int p2), .val (.int p3)] [(.int p0), (.int (0 : Int32)), (.ref b71), (.ref b71)]))
  have Vo72 := V0
  obtain ⟨cl72, Ar72, qA72, SA72, NA72, HA72, GA72⟩ := Vo72
  have hin72 : ¬ ((0 : Int32) < 0 ∨ cl72.slots.size ≤ ((0 : Int32)).toNatClampNeg) := own_inb (k := 0) SA72 (by decide) (by decide)
  obtain ⟨T73, h73, X73, e73, W73, st73⟩ := stC X71 hx hZ e71 Ar72 (j := (0 : Int32)) hin72 (g := (mkF m 7 #[.val (.int p0), .val (.int p1), .val (.int p2), .val (.int p3)] [(.int p0), (.int (0 : Int32)), (.ref b71), (.ref b71)])) rfl rfl (hb hby d32_7)
  refine own_by st73 ?_
  have V73 : Arv Z h73 b71 k71 .char (Int32.ofNat 42) ((own_pre p0 p1 p2 42 0).set 0 (.int (nar .char p0))) (.int 0) := Arv.set Ar72 qA72 SA72 NA72 HA72 GA72 (by first | rfl | exact fits_nar_char _) W73 0 rfl (by rw [own_plen]; decide)
  have N73 := Fr.snoc X73 N0 g_b71
  show own_Comes p e below s _ _ _ (T73.setTop (mkF m 8 #[.val (.int p0), .val (.int p1), .val (.int p2), .val (.int p3)] [(.ref b71)]))
  rw [own_nar16 hp0, own_pset (by decide) (by simp)] at V73
  refine own_by (fun _ kS => XS.dup X73.here hx rfl (hb hby d32_8) rfl rfl kS) ?_
  show own_Comes p e below s _ _ _ (T73.setTop (mkF m 9 #[.val (.int p0), .val (.int p1), .val (.int p2), .val (.int p3)] [(.ref b71), (.ref b71)]))
  refine own_by (fun _ kS => XS.iconst X73.here hx rfl (hb hby d32_9) kS) ?_
  show own_Comes p e below s _ _ _ (T73.setTop (mkF m 10 #[.val (.int p0), .val (.int p1), .val (.int p2), .val (.int p3)] [(.int (1 : Int32)), (.ref b71), (.ref b71)]))
  refine own_by (fun _ kS => XS.iloadN X73.here hx rfl (hb hby d32_10) rfl kS) ?_
  show own_Comes p e below s _ _ _ (T73.setTop (mkF m 11 #[.val (.int p0), .val (.int p1), .val (.int p2), .val (.int p3)] [(.int p1), (.int (1 : Int32)), (.ref b71), (.ref b71)]))
  have Vo74 := V73
  obtain ⟨cl74, Ar74, qA74, SA74, NA74, HA74, GA74⟩ := Vo74
  have hin74 : ¬ ((1 : Int32) < 0 ∨ cl74.slots.size ≤ ((1 : Int32)).toNatClampNeg) := own_inb (k := 1) SA74 (by decide) (by decide)
  obtain ⟨T75, h75, X75, e75, W75, st75⟩ := stC X73 hx hZ e73 Ar74 (j := (1 : Int32)) hin74 (g := (mkF m 11 #[.val (.int p0), .val (.int p1), .val (.int p2), .val (.int p3)] [(.int p1), (.int (1 : Int32)), (.ref b71), (.ref b71)])) rfl rfl (hb hby d32_11)
  refine own_by st75 ?_
  have V75 : Arv Z h75 b71 k71 .char (Int32.ofNat 42) ((own_pre p0 p1 p2 42 1).set 1 (.int (nar .char p1))) (.int 0) := Arv.set Ar74 qA74 SA74 NA74 HA74 GA74 (by first | rfl | exact fits_nar_char _) W75 1 rfl (by rw [own_plen]; decide)
  have N75 := Fr.snoc X75 N73 g_b71
  show own_Comes p e below s _ _ _ (T75.setTop (mkF m 12 #[.val (.int p0), .val (.int p1), .val (.int p2), .val (.int p3)] [(.ref b71)]))
  rw [own_nar16 hp1, own_pset (by decide) (by simp)] at V75
  refine own_by (fun _ kS => XS.dup X75.here hx rfl (hb hby d32_12) rfl rfl kS) ?_
  show own_Comes p e below s _ _ _ (T75.setTop (mkF m 13 #[.val (.int p0), .val (.int p1), .val (.int p2), .val (.int p3)] [(.ref b71), (.ref b71)]))
  refine own_by (fun _ kS => XS.iconst X75.here hx rfl (hb hby d32_13) kS) ?_
  show own_Comes p e below s _ _ _ (T75.setTop (mkF m 14 #[.val (.int p0), .val (.int p1), .val (.int p2), .val (.int p3)] [(.int (2 : Int32)), (.ref b71), (.ref b71)]))
  refine own_by (fun _ kS => XS.iloadN X75.here hx rfl (hb hby d32_14) rfl kS) ?_
  show own_Comes p e below s _ _ _ (T75.setTop (mkF m 15 #[.val (.int p0), .val (.int p1), .val (.int p2), .val (.int p3)] [(.int p2), (.int (2 : Int32)), (.ref b71), (.ref b71)]))
  have Vo76 := V75
  obtain ⟨cl76, Ar76, qA76, SA76, NA76, HA76, GA76⟩ := Vo76
  have hin76 : ¬ ((2 : Int32) < 0 ∨ cl76.slots.size ≤ ((2 : Int32)).toNatClampNeg) := own_inb (k := 2) SA76 (by decide) (by decide)
  obtain ⟨T77, h77, X77, e77, W77, st77⟩ := stC X75 hx hZ e75 Ar76 (j := (2 : Int32)) hin76 (g := (mkF m 15 #[.val (.int p0), .val (.int p1), .val (.int p2), .val (.int p3)] [(.int p2), (.int (2 : Int32)), (.ref b71), (.ref b71)])) rfl rfl (hb hby d32_15)
  refine own_by st77 ?_
  have V77 : Arv Z h77 b71 k71 .char (Int32.ofNat 42) ((own_pre p0 p1 p2 42 2).set 2 (.int (nar .char p2))) (.int 0) := Arv.set Ar76 qA76 SA76 NA76 HA76 GA76 (by first | rfl | exact fits_nar_char _) W77 2 rfl (by rw [own_plen]; decide)
  have N77 := Fr.snoc X77 N75 g_b71
  show own_Comes p e below s _ _ _ (T77.setTop (mkF m 16 #[.val (.int p0), .val (.int p1), .val (.int p2), .val (.int p3)] [(.ref b71)]))
  rw [own_nar16 hp2, own_pset (by decide) (by simp)] at V77
  refine own_by (fun _ kS => XS.dup X77.here hx rfl (hb hby d32_16) rfl rfl kS) ?_
  show own_Comes p e below s _ _ _ (T77.setTop (mkF m 17 #[.val (.int p0), .val (.int p1), .val (.int p2), .val (.int p3)] [(.ref b71), (.ref b71)]))
  refine own_by (fun _ kS => XS.iconst X77.here hx rfl (hb hby d32_17) kS) ?_
  show own_Comes p e below s _ _ _ (T77.setTop (mkF m 18 #[.val (.int p0), .val (.int p1), .val (.int p2), .val (.int p3)] [(.int (3 : Int32)), (.ref b71), (.ref b71)]))
  refine own_by (fun _ kS => XS.iloadN X77.here hx rfl (hb hby d32_18) rfl kS) ?_
  show own_Comes p e below s _ _ _ (T77.setTop (mkF m 19 #[.val (.int p0), .val (.int p1), .val (.int p2), .val (.int p3)] [(.int p2), (.int (3 : Int32)), (.ref b71), (.ref b71)]))
  have Vo78 := V77
  obtain ⟨cl78, Ar78, qA78, SA78, NA78, HA78, GA78⟩ := Vo78
  have hin78 : ¬ ((3 : Int32) < 0 ∨ cl78.slots.size ≤ ((3 : Int32)).toNatClampNeg) := own_inb (k := 3) SA78 (by decide) (by decide)
  obtain ⟨T79, h79, X79, e79, W79, st79⟩ := stC X77 hx hZ e77 Ar78 (j := (3 : Int32)) hin78 (g := (mkF m 19 #[.val (.int p0), .val (.int p1), .val (.int p2), .val (.int p3)] [(.int p2), (.int (3 : Int32)), (.ref b71), (.ref b71)])) rfl rfl (hb hby d32_19)
  refine own_by st79 ?_
  have V79 : Arv Z h79 b71 k71 .char (Int32.ofNat 42) ((own_pre p0 p1 p2 42 3).set 3 (.int (nar .char p2))) (.int 0) := Arv.set Ar78 qA78 SA78 NA78 HA78 GA78 (by first | rfl | exact fits_nar_char _) W79 3 rfl (by rw [own_plen]; decide)
  have N79 := Fr.snoc X79 N77 g_b71
  show own_Comes p e below s _ _ _ (T79.setTop (mkF m 20 #[.val (.int p0), .val (.int p1), .val (.int p2), .val (.int p3)] [(.ref b71)]))
  rw [own_nar16 hp2, own_pset (by decide) (by simp)] at V79
  refine own_by (fun _ kS => XS.dup X79.here hx rfl (hb hby d32_20) rfl rfl kS) ?_
  show own_Comes p e below s _ _ _ (T79.setTop (mkF m 21 #[.val (.int p0), .val (.int p1), .val (.int p2), .val (.int p3)] [(.ref b71), (.ref b71)]))
  refine own_by (fun _ kS => XS.iconst X79.here hx rfl (hb hby d32_21) kS) ?_
  show own_Comes p e below s _ _ _ (T79.setTop (mkF m 22 #[.val (.int p0), .val (.int p1), .val (.int p2), .val (.int p3)] [(.int (4 : Int32)), (.ref b71), (.ref b71)]))
  refine own_by (fun _ kS => XS.iloadN X79.here hx rfl (hb hby d32_22) rfl kS) ?_
  show own_Comes p e below s _ _ _ (T79.setTop (mkF m 23 #[.val (.int p0), .val (.int p1), .val (.int p2), .val (.int p3)] [(.int p2), (.int (4 : Int32)), (.ref b71), (.ref b71)]))
  have Vo80 := V79
  obtain ⟨cl80, Ar80, qA80, SA80, NA80, HA80, GA80⟩ := Vo80
  have hin80 : ¬ ((4 : Int32) < 0 ∨ cl80.slots.size ≤ ((4 : Int32)).toNatClampNeg) := own_inb (k := 4) SA80 (by decide) (by decide)
  obtain ⟨T81, h81, X81, e81, W81, st81⟩ := stC X79 hx hZ e79 Ar80 (j := (4 : Int32)) hin80 (g := (mkF m 23 #[.val (.int p0), .val (.int p1), .val (.int p2), .val (.int p3)] [(.int p2), (.int (4 : Int32)), (.ref b71), (.ref b71)])) rfl rfl (hb hby d32_23)
  refine own_by st81 ?_
  have V81 : Arv Z h81 b71 k71 .char (Int32.ofNat 42) ((own_pre p0 p1 p2 42 4).set 4 (.int (nar .char p2))) (.int 0) := Arv.set Ar80 qA80 SA80 NA80 HA80 GA80 (by first | rfl | exact fits_nar_char _) W81 4 rfl (by rw [own_plen]; decide)
  have N81 := Fr.snoc X81 N79 g_b71
  show own_Comes p e below s _ _ _ (T81.setTop (mkF m 24 #[.val (.int p0), .val (.int p1), .val (.int p2), .val (.int p3)] [(.ref b71)]))
  rw [own_nar16 hp2, own_pset (by decide) (by simp)] at V81
  refine own_by (fun _ kS => XS.dup X81.here hx rfl (hb hby d32_24) rfl rfl kS) ?_
  show own_Comes p e below s _ _ _ (T81.setTop (mkF m 25 #[.val (.int p0), .val (.int p1), .val (.int p2), .val (.int p3)] [(.ref b71), (.ref b71)]))
  refine own_by (fun _ kS => XS.iconst X81.here hx rfl (hb hby d32_25) kS) ?_
  show own_Comes p e below s _ _ _ (T81.setTop (mkF m 26 #[.val (.int p0), .val (.int p1), .val (.int p2), .val (.int p3)] [(.int (5 : Int32)), (.ref b71), (.ref b71)]))
  refine own_by (fun _ kS => XS.iloadN X81.here hx rfl (hb hby d32_26) rfl kS) ?_
  show own_Comes p e below s _ _ _ (T81.setTop (mkF m 27 #[.val (.int p0), .val (.int p1), .val (.int p2), .val (.int p3)] [(.int p2), (.int (5 : Int32)), (.ref b71), (.ref b71)]))
  have Vo82 := V81
  obtain ⟨cl82, Ar82, qA82, SA82, NA82, HA82, GA82⟩ := Vo82
  have hin82 : ¬ ((5 : Int32) < 0 ∨ cl82.slots.size ≤ ((5 : Int32)).toNatClampNeg) := own_inb (k := 5) SA82 (by decide) (by decide)
  obtain ⟨T83, h83, X83, e83, W83, st83⟩ := stC X81 hx hZ e81 Ar82 (j := (5 : Int32)) hin82 (g := (mkF m 27 #[.val (.int p0), .val (.int p1), .val (.int p2), .val (.int p3)] [(.int p2), (.int (5 : Int32)), (.ref b71), (.ref b71)])) rfl rfl (hb hby d32_27)
  refine own_by st83 ?_
  have V83 : Arv Z h83 b71 k71 .char (Int32.ofNat 42) ((own_pre p0 p1 p2 42 5).set 5 (.int (nar .char p2))) (.int 0) := Arv.set Ar82 qA82 SA82 NA82 HA82 GA82 (by first | rfl | exact fits_nar_char _) W83 5 rfl (by rw [own_plen]; decide)
  have N83 := Fr.snoc X83 N81 g_b71
  show own_Comes p e below s _ _ _ (T83.setTop (mkF m 28 #[.val (.int p0), .val (.int p1), .val (.int p2), .val (.int p3)] [(.ref b71)]))
  rw [own_nar16 hp2, own_pset (by decide) (by simp)] at V83
  refine own_run (B := 28) (M := 41) (n := 42) (h0 := h0) (n0 := n0) hx hZ hp2 (by decide) (by decide) (by decide) (by decide) (fun j hj => by rw [hby]; exact dr_32 j hj) rfl g_b71 sz_b71 ?_ 35 0 (by decide) _ _ _ X83 e83 N83 ((((((((Keep.refl _ _).ext E71).wr W73 (Or.inr sz_b71)).wr W75 (Or.inr sz_b71)).wr W77 (Or.inr sz_b71)).wr W79 (Or.inr sz_b71)).wr W81 (Or.inr sz_b71)).wr W83 (Or.inr sz_b71)) V83
  intro TR hR LR XR eR NR KR VR
  show own_Comes p e below s _ _ _ (TR.setTop (mkF m 203 #[.val (.int p0), .val (.int p1), .val (.int p2), .val (.int p3)] [(.ref b71)]))
  refine own_by (fun _ kS => XS.dup XR.here hx rfl (hb hby d32_203) rfl rfl kS) ?_
  show own_Comes p e below s _ _ _ (TR.setTop (mkF m 204 #[.val (.int p0), .val (.int p1), .val (.int p2), .val (.int p3)] [(.ref b71), (.ref b71)]))
  refine own_by (fun _ kS => XS.bipush XR.here hx rfl (hb hby d32_204) kS) ?_
  show own_Comes p e below s _ _ _ (TR.setTop (mkF m 206 #[.val (.int p0), .val (.int p1), .val (.int p2), .val (.int p3)] [(.int (41 : Int32)), (.ref b71), (.ref b71)]))
  refine own_by (fun _ kS => XS.iloadN XR.here hx rfl (hb hby d32_206) rfl kS) ?_
  show own_Comes p e below s _ _ _ (TR.setTop (mkF m 207 #[.val (.int p0), .val (.int p1), .val (.int p2), .val (.int p3)] [(.int p3), (.int (41 : Int32)), (.ref b71), (.ref b71)]))
  have Vo84 := VR
  obtain ⟨cl84, Ar84, qA84, SA84, NA84, HA84, GA84⟩ := Vo84
  have hin84 : ¬ ((41 : Int32) < 0 ∨ cl84.slots.size ≤ ((41 : Int32)).toNatClampNeg) := own_inb (k := 41) SA84 (by decide) (by decide)
  obtain ⟨T85, h85, X85, e85, W85, st85⟩ := stC XR hx hZ eR Ar84 (j := (41 : Int32)) hin84 (g := (mkF m 207 #[.val (.int p0), .val (.int p1), .val (.int p2), .val (.int p3)] [(.int p3), (.int (41 : Int32)), (.ref b71), (.ref b71)])) rfl rfl (hb hby d32_207)
  refine own_by st85 ?_
  have V85 : Arv Z h85 b71 k71 .char (Int32.ofNat 42) ((own_pre p0 p1 p2 42 41).set 41 (.int (nar .char p3))) (.int 0) := Arv.set Ar84 qA84 SA84 NA84 HA84 GA84 (by first | rfl | exact fits_nar_char _) W85 41 rfl (by rw [own_plen]; decide)
  have N85 := Fr.snoc X85 NR g_b71
  show own_Comes p e below s _ _ _ (T85.setTop (mkF m 208 #[.val (.int p0), .val (.int p1), .val (.int p2), .val (.int p3)] [(.ref b71)]))
  rw [own_nar16 hp3, own_pfin (by decide)] at V85
  refine own_ret X85 (v := some (.ref b71)) (fun h => by rw [Bd.returns] at h; cases h) Bd.notSynchronized (by decide) (by decide) ?_ (fun fs hr => own_reta X85 hx Bd.returns rfl rfl (hb hby d32_208) hr)
  rw [e85]; exact ⟨_, _, rfl, N85, own_ext (KR.wr W85 (Or.inr sz_b71)), g_b71, sz_b71, by rw [own_clen]; exact V85⟩
theorem dr_31 : ∀ j, j < 36 → decode method_4_code (28 + 5 * j) = .ok (.dup, 1) ∧ decode method_4_code (28 + 5 * j + 1) = .ok (.bipush ((j + 6 : Nat) : Int), 2) ∧ decode method_4_code (28 + 5 * j + 3) = .ok (.iload_n 2, 1) ∧ decode method_4_code (28 + 5 * j + 4) = .ok (.castore, 1) := by decide +kernel
def Q31 (Z : State) (cs : List Int32) (h0 : Heap) (n0 : Nat) (v : Option Value) (h : Heap) (L : List Loc) : Prop := ∃ (a : Addr) (kc : ClassId), v = some (.ref a) ∧ Fr n0 L ∧ Ext h0 h ∧ n0 ≤ a ∧ h0.size ≤ a ∧ Arv Z h a kc .char (Int32.ofNat cs.length) (cs.map Value.int) (.int 0)
theorem ef_rm31 (m : MethodId) (x0 : Int32) (x1 : Int32) (x2 : Int32) (x3 : Int32) : entryFrame m #[(.int x0), (.int x1), (.int x2), (.int x3)] 4 = mkF m 0 #[.val (.int x0), .val (.int x1), .val (.int x2), .val (.int x3)] [] := by first | (simp [entryFrame, mkF, argsToLocals, Value.category]; done) | rfl
theorem d31_0 : decode method_4_code 0 = .ok (.bipush 43, 2) := by decide +kernel
theorem d31_2 : decode method_4_code 2 = .ok (.newarray .char, 2) := by decide +kernel
theorem d31_4 : decode method_4_code 4 = .ok (.dup, 1) := by decide +kernel
theorem d31_5 : decode method_4_code 5 = .ok (.iconst 0, 1) := by decide +kernel
theorem d31_6 : decode method_4_code 6 = .ok (.iload_n 0, 1) := by decide +kernel
theorem d31_7 : decode method_4_code 7 = .ok (.castore, 1) := by decide +kernel
theorem d31_8 : decode method_4_code 8 = .ok (.dup, 1) := by decide +kernel
theorem d31_9 : decode method_4_code 9 = .ok (.iconst 1, 1) := by decide +kernel
theorem d31_10 : decode method_4_code 10 = .ok (.iload_n 1, 1) := by decide +kernel
theorem d31_11 : decode method_4_code 11 = .ok (.castore, 1) := by decide +kernel
theorem d31_12 : decode method_4_code 12 = .ok (.dup, 1) := by decide +kernel
theorem d31_13 : decode method_4_code 13 = .ok (.iconst 2, 1) := by decide +kernel
theorem d31_14 : decode method_4_code 14 = .ok (.iload_n 2, 1) := by decide +kernel
theorem d31_15 : decode method_4_code 15 = .ok (.castore, 1) := by decide +kernel
theorem d31_16 : decode method_4_code 16 = .ok (.dup, 1) := by decide +kernel
theorem d31_17 : decode method_4_code 17 = .ok (.iconst 3, 1) := by decide +kernel
theorem d31_18 : decode method_4_code 18 = .ok (.iload_n 2, 1) := by decide +kernel
theorem d31_19 : decode method_4_code 19 = .ok (.castore, 1) := by decide +kernel
theorem d31_20 : decode method_4_code 20 = .ok (.dup, 1) := by decide +kernel
theorem d31_21 : decode method_4_code 21 = .ok (.iconst 4, 1) := by decide +kernel
theorem d31_22 : decode method_4_code 22 = .ok (.iload_n 2, 1) := by decide +kernel
theorem d31_23 : decode method_4_code 23 = .ok (.castore, 1) := by decide +kernel
theorem d31_24 : decode method_4_code 24 = .ok (.dup, 1) := by decide +kernel
theorem d31_25 : decode method_4_code 25 = .ok (.iconst 5, 1) := by decide +kernel
theorem d31_26 : decode method_4_code 26 = .ok (.iload_n 2, 1) := by decide +kernel
theorem d31_27 : decode method_4_code 27 = .ok (.castore, 1) := by decide +kernel
theorem d31_208 : decode method_4_code 208 = .ok (.dup, 1) := by decide +kernel
theorem d31_209 : decode method_4_code 209 = .ok (.bipush 42, 2) := by decide +kernel
theorem d31_211 : decode method_4_code 211 = .ok (.iload_n 3, 1) := by decide +kernel
theorem d31_212 : decode method_4_code 212 = .ok (.castore, 1) := by decide +kernel
theorem d31_213 : decode method_4_code 213 = .ok (.areturn, 1) := by decide +kernel
set_option maxRecDepth 65536 in
set_option maxHeartbeats 40000000 in
theorem rm31 (l : Launch) (Z : State) (a0 : Array Value) (hw : ∀ d ∈ tables_1, d.before a0 Z = true) (ws : List Jvm.Cond) (p0 p1 p2 p3 : Int32) (h0 : Heap) (n0 : Nat) (Z0 : n0 ≤ h0.size) (hp0 : ¬ p0 < 0 ∧ ¬ (65535 : Int32) < p0) (hp1 : ¬ p1 < 0 ∧ ¬ (65535 : Int32) < p1) (hp2 : ¬ p2 < 0 ∧ ¬ (65535 : Int32) < p2) (hp3 : ¬ p3 < 0 ∧ ¬ (65535 : Int32) < p3) :
    MetFree l (⟨"com/example/eslabon/eslabon/CodeChallengeMethodIsWellFormedPinLaw", "len43", "(CCCC)[C"⟩ : MethodName) (head1 (Jvm.Cond.code (⟨"com/example/eslabon/eslabon/CodeChallengeMethodIsWellFormedPinLaw", "len43", "(CCCC)[C"⟩ : MethodName) method_4_code 4 (some (.array .char)) :: ws) ({ frames := 0, cells := 1, slots := 43, locals := 0 } : Room)) (fun aX UX => aX = #[(.int p0), (.int p1), (.int p2), (.int p3)] ∧ Z.Warmed39 UX.vm ∧ UX.heap = h0) (fun _ _ _ _ _ => True) (fun _ UX oX UX' => ∃ vX LX, oX = .returned vX ∧ Q31 Z (own_cs p0 p1 p2 p3 43) h0 n0 vX UX'.heap LX ∧ FrameEnd UX oX UX' LX ({ frames := 0, cells := 1, slots := 43, locals := 0 } : Room).cells ({ frames := 0, cells := 1, slots := 43, locals := 0 } : Room).slots) := by
  refine MetFree.of_bodySF (plainFor_of_name pn_com_example_eslabon_eslabon_CodeChallengeMethodIsWellFormedPinLaw) hisR ?_
  intro p e s m args below meth c s₁ Bd hml0 hP hK
  obtain ⟨rfl, hZ, hh⟩ := hP
  have hx := Bd.exec
  have hby := Bd.bytes
  have hml : c.maxLocals = 4 := hml0
  have hown : s.vm.findClass "com/example/eslabon/eslabon/CodeChallengeMethodIsWellFormedPinLaw" = some m.cls := findClass_of_methodNamed Bd.named
  have hnm := (name_of_methodNamed Bd.named Bd.method).1
  have X0 : Stand p l e ({ frames := 0, cells := 1, slots := 43, locals := 0 } : Room) s m #[(.int p0), (.int p1), (.int p2), (.int p3)] below meth c s₁ [] 0 0 := Stand.of_body Bd
  have e0 : s₁.heap = h0 := by rw [← hh, Bd.state]; rfl
  have N0 := Fr.nil n0
  show own_Comes p e below s ({ frames := 0, cells := 1, slots := 43, locals := 0 } : Room).cells ({ frames := 0, cells := 1, slots := 43, locals := 0 } : Room).slots (Q31 Z (own_cs p0 p1 p2 p3 43) h0 n0) _
  rw [show entryFrame m #[(.int p0), (.int p1), (.int p2), (.int p3)] 4 = mkF m 0 #[.val (.int p0), .val (.int p1), .val (.int p2), .val (.int p3)] [] from ef_rm31 m p0 p1 p2 p3]
  show own_Comes p e below s _ _ _ (s₁.setTop (mkF m 0 #[.val (.int p0), .val (.int p1), .val (.int p2), .val (.int p3)] []))
  refine own_by (fun _ kS => XS.bipush X0.here hx rfl (hb hby d31_0) kS) ?_
  show own_Comes p e below s _ _ _ (s₁.setTop (mkF m 2 #[.val (.int p0), .val (.int p1), .val (.int p2), .val (.int p3)] [(.int (43 : Int32))]))
  obtain ⟨T86, h86, k86, X86, e86, E86, A86, st86⟩ := newP X0 hx hZ (hw _ (List.mem_of_getElem? (i := 11) rfl)) e0 (g := (mkF m 2 #[.val (.int p0), .val (.int p1), .val (.int p2), .val (.int p3)] [(.int (43 : Int32))])) rfl (hb hby d31_2) rfl (by decide) (cap := 43) (by decide) (by decide) (by decide) (by decide)
  obtain ⟨b86, g86⟩ : ∃ z, z = h0.size := ⟨_, rfl⟩
  rw [← g86] at A86 st86
  have g_b86 : n0 ≤ b86 := Nat.le_trans Z0 (Nat.le_of_eq g86.symm)
  refine own_by st86 ?_
  have V_b86 : Arv Z h86 b86 k86 .char (43 : Int32) (List.replicate 43 (.int (0 : Int32))) (.int (0 : Int32)) := (Arv.new A86 (by decide)).pad (pad_rep [] (.int (0 : Int32)) 43)
  show own_Comes p e below s _ _ _ (T86.setTop (mkF m 4 #[.val (.int p0), .val (.int p1), .val (.int p2), .val (.int p3)] [(.ref b86)]))
  have sz_b86 : h0.size ≤ b86 := Nat.le_of_eq g86.symm
  have V0 : Arv Z h86 b86 k86 .char (Int32.ofNat 43) (own_pre p0 p1 p2 43 0) (.int 0) := by rw [← own_p0]; exact V_b86
  refine own_by (fun _ kS => XS.dup X86.here hx rfl (hb hby d31_4) rfl rfl kS) ?_
  show own_Comes p e below s _ _ _ (T86.setTop (mkF m 5 #[.val (.int p0), .val (.int p1), .val (.int p2), .val (.int p3)] [(.ref b86), (.ref b86)]))
  refine own_by (fun _ kS => XS.iconst X86.here hx rfl (hb hby d31_5) kS) ?_
  show own_Comes p e below s _ _ _ (T86.setTop (mkF m 6 #[.val (.int p0), .val (.int p1), .val (.int p2), .val (.int p3)] [(.int (0 : Int32)), (.ref b86), (.ref b86)]))
  refine own_by (fun _ kS => XS.iloadN X86.here hx rfl (hb hby d31_6) rfl kS) ?_
  show own_Comes p e below s _ _ _ (T86.setTop (mkF m 7 #[.val (.int p0), .val (.int p1), .val (.int p2), .val (.int p3)] [(.int p0), (.int (0 : Int32)), (.ref b86), (.ref b86)]))
  have Vo87 := V0
  obtain ⟨cl87, Ar87, qA87, SA87, NA87, HA87, GA87⟩ := Vo87
  have hin87 : ¬ ((0 : Int32) < 0 ∨ cl87.slots.size ≤ ((0 : Int32)).toNatClampNeg) := own_inb (k := 0) SA87 (by decide) (by decide)
  obtain ⟨T88, h88, X88, e88, W88, st88⟩ := stC X86 hx hZ e86 Ar87 (j := (0 : Int32)) hin87 (g := (mkF m 7 #[.val (.int p0), .val (.int p1), .val (.int p2), .val (.int p3)] [(.int p0), (.int (0 : Int32)), (.ref b86), (.ref b86)])) rfl rfl (hb hby d31_7)
  refine own_by st88 ?_
  have V88 : Arv Z h88 b86 k86 .char (Int32.ofNat 43) ((own_pre p0 p1 p2 43 0).set 0 (.int (nar .char p0))) (.int 0) := Arv.set Ar87 qA87 SA87 NA87 HA87 GA87 (by first | rfl | exact fits_nar_char _) W88 0 rfl (by rw [own_plen]; decide)
  have N88 := Fr.snoc X88 N0 g_b86
  show own_Comes p e below s _ _ _ (T88.setTop (mkF m 8 #[.val (.int p0), .val (.int p1), .val (.int p2), .val (.int p3)] [(.ref b86)]))
  rw [own_nar16 hp0, own_pset (by decide) (by simp)] at V88
  refine own_by (fun _ kS => XS.dup X88.here hx rfl (hb hby d31_8) rfl rfl kS) ?_
  show own_Comes p e below s _ _ _ (T88.setTop (mkF m 9 #[.val (.int p0), .val (.int p1), .val (.int p2), .val (.int p3)] [(.ref b86), (.ref b86)]))
  refine own_by (fun _ kS => XS.iconst X88.here hx rfl (hb hby d31_9) kS) ?_
  show own_Comes p e below s _ _ _ (T88.setTop (mkF m 10 #[.val (.int p0), .val (.int p1), .val (.int p2), .val (.int p3)] [(.int (1 : Int32)), (.ref b86), (.ref b86)]))
  refine own_by (fun _ kS => XS.iloadN X88.here hx rfl (hb hby d31_10) rfl kS) ?_
  show own_Comes p e below s _ _ _ (T88.setTop (mkF m 11 #[.val (.int p0), .val (.int p1), .val (.int p2), .val (.int p3)] [(.int p1), (.int (1 : Int32)), (.ref b86), (.ref b86)]))
  have Vo89 := V88
  obtain ⟨cl89, Ar89, qA89, SA89, NA89, HA89, GA89⟩ := Vo89
  have hin89 : ¬ ((1 : Int32) < 0 ∨ cl89.slots.size ≤ ((1 : Int32)).toNatClampNeg) := own_inb (k := 1) SA89 (by decide) (by decide)
  obtain ⟨T90, h90, X90, e90, W90, st90⟩ := stC X88 hx hZ e88 Ar89 (j := (1 : Int32)) hin89 (g := (mkF m 11 #[.val (.int p0), .val (.int p1), .val (.int p2), .val (.int p3)] [(.int p1), (.int (1 : Int32)), (.ref b86), (.ref b86)])) rfl rfl (hb hby d31_11)
  refine own_by st90 ?_
  have V90 : Arv Z h90 b86 k86 .char (Int32.ofNat 43) ((own_pre p0 p1 p2 43 1).set 1 (.int (nar .char p1))) (.int 0) := Arv.set Ar89 qA89 SA89 NA89 HA89 GA89 (by first | rfl | exact fits_nar_char _) W90 1 rfl (by rw [own_plen]; decide)
  have N90 := Fr.snoc X90 N88 g_b86
  show own_Comes p e below s _ _ _ (T90.setTop (mkF m 12 #[.val (.int p0), .val (.int p1), .val (.int p2), .val (.int p3)] [(.ref b86)]))
  rw [own_nar16 hp1, own_pset (by decide) (by simp)] at V90
  refine own_by (fun _ kS => XS.dup X90.here hx rfl (hb hby d31_12) rfl rfl kS) ?_
  show own_Comes p e below s _ _ _ (T90.setTop (mkF m 13 #[.val (.int p0), .val (.int p1), .val (.int p2), .val (.int p3)] [(.ref b86), (.ref b86)]))
  refine own_by (fun _ kS => XS.iconst X90.here hx rfl (hb hby d31_13) kS) ?_
  show own_Comes p e below s _ _ _ (T90.setTop (mkF m 14 #[.val (.int p0), .val (.int p1), .val (.int p2), .val (.int p3)] [(.int (2 : Int32)), (.ref b86), (.ref b86)]))
  refine own_by (fun _ kS => XS.iloadN X90.here hx rfl (hb hby d31_14) rfl kS) ?_
  show own_Comes p e below s _ _ _ (T90.setTop (mkF m 15 #[.val (.int p0), .val (.int p1), .val (.int p2), .val (.int p3)] [(.int p2), (.int (2 : Int32)), (.ref b86), (.ref b86)]))
  have Vo91 := V90
  obtain ⟨cl91, Ar91, qA91, SA91, NA91, HA91, GA91⟩ := Vo91
  have hin91 : ¬ ((2 : Int32) < 0 ∨ cl91.slots.size ≤ ((2 : Int32)).toNatClampNeg) := own_inb (k := 2) SA91 (by decide) (by decide)
  obtain ⟨T92, h92, X92, e92, W92, st92⟩ := stC X90 hx hZ e90 Ar91 (j := (2 : Int32)) hin91 (g := (mkF m 15 #[.val (.int p0), .val (.int p1), .val (.int p2), .val (.int p3)] [(.int p2), (.int (2 : Int32)), (.ref b86), (.ref b86)])) rfl rfl (hb hby d31_15)
  refine own_by st92 ?_
  have V92 : Arv Z h92 b86 k86 .char (Int32.ofNat 43) ((own_pre p0 p1 p2 43 2).set 2 (.int (nar .char p2))) (.int 0) := Arv.set Ar91 qA91 SA91 NA91 HA91 GA91 (by first | rfl | exact fits_nar_char _) W92 2 rfl (by rw [own_plen]; decide)
  have N92 := Fr.snoc X92 N90 g_b86
  show own_Comes p e below s _ _ _ (T92.setTop (mkF m 16 #[.val (.int p0), .val (.int p1), .val (.int p2), .val (.int p3)] [(.ref b86)]))
  rw [own_nar16 hp2, own_pset (by decide) (by simp)] at V92
  refine own_by (fun _ kS => XS.dup X92.here hx rfl (hb hby d31_16) rfl rfl kS) ?_
  show own_Comes p e below s _ _ _ (T92.setTop (mkF m 17 #[.val (.int p0), .val (.int p1), .val (.int p2), .val (.int p3)] [(.ref b86), (.ref b86)]))
  refine own_by (fun _ kS => XS.iconst X92.here hx rfl (hb hby d31_17) kS) ?_
  show own_Comes p e below s _ _ _ (T92.setTop (mkF m 18 #[.val (.int p0), .val (.int p1), .val (.int p2), .val (.int p3)] [(.int (3 : Int32)), (.ref b86), (.ref b86)]))
  refine own_by (fun _ kS => XS.iloadN X92.here hx rfl (hb hby d31_18) rfl kS) ?_
  show own_Comes p e below s _ _ _ (T92.setTop (mkF m 19 #[.val (.int p0), .val (.int p1), .val (.int p2), .val (.int p3)] [(.int p2), (.int (3 : Int32)), (.ref b86), (.ref b86)]))
  have Vo93 := V92
  obtain ⟨cl93, Ar93, qA93, SA93, NA93, HA93, GA93⟩ := Vo93
  have hin93 : ¬ ((3 : Int32) < 0 ∨ cl93.slots.size ≤ ((3 : Int32)).toNatClampNeg) := own_inb (k := 3) SA93 (by decide) (by decide)
  obtain ⟨T94, h94, X94, e94, W94, st94⟩ := stC X92 hx hZ e92 Ar93 (j := (3 : Int32)) hin93 (g := (mkF m 19 #[.val (.int p0), .val (.int p1), .val (.int p2), .val (.int p3)] [(.int p2), (.int (3 : Int32)), (.ref b86), (.ref b86)])) rfl rfl (hb hby d31_19)
  refine own_by st94 ?_
  have V94 : Arv Z h94 b86 k86 .char (Int32.ofNat 43) ((own_pre p0 p1 p2 43 3).set 3 (.int (nar .char p2))) (.int 0) := Arv.set Ar93 qA93 SA93 NA93 HA93 GA93 (by first | rfl | exact fits_nar_char _) W94 3 rfl (by rw [own_plen]; decide)
  have N94 := Fr.snoc X94 N92 g_b86
  show own_Comes p e below s _ _ _ (T94.setTop (mkF m 20 #[.val (.int p0), .val (.int p1), .val (.int p2), .val (.int p3)] [(.ref b86)]))
  rw [own_nar16 hp2, own_pset (by decide) (by simp)] at V94
  refine own_by (fun _ kS => XS.dup X94.here hx rfl (hb hby d31_20) rfl rfl kS) ?_
  show own_Comes p e below s _ _ _ (T94.setTop (mkF m 21 #[.val (.int p0), .val (.int p1), .val (.int p2), .val (.int p3)] [(.ref b86), (.ref b86)]))
  refine own_by (fun _ kS => XS.iconst X94.here hx rfl (hb hby d31_21) kS) ?_
  show own_Comes p e below s _ _ _ (T94.setTop (mkF m 22 #[.val (.int p0), .val (.int p1), .val (.int p2), .val (.int p3)] [(.int (4 : Int32)), (.ref b86), (.ref b86)]))
  refine own_by (fun _ kS => XS.iloadN X94.here hx rfl (hb hby d31_22) rfl kS) ?_
  show own_Comes p e below s _ _ _ (T94.setTop (mkF m 23 #[.val (.int p0), .val (.int p1), .val (.int p2), .val (.int p3)] [(.int p2), (.int (4 : Int32)), (.ref b86), (.ref b86)]))
  have Vo95 := V94
  obtain ⟨cl95, Ar95, qA95, SA95, NA95, HA95, GA95⟩ := Vo95
  have hin95 : ¬ ((4 : Int32) < 0 ∨ cl95.slots.size ≤ ((4 : Int32)).toNatClampNeg) := own_inb (k := 4) SA95 (by decide) (by decide)
  obtain ⟨T96, h96, X96, e96, W96, st96⟩ := stC X94 hx hZ e94 Ar95 (j := (4 : Int32)) hin95 (g := (mkF m 23 #[.val (.int p0), .val (.int p1), .val (.int p2), .val (.int p3)] [(.int p2), (.int (4 : Int32)), (.ref b86), (.ref b86)])) rfl rfl (hb hby d31_23)
  refine own_by st96 ?_
  have V96 : Arv Z h96 b86 k86 .char (Int32.ofNat 43) ((own_pre p0 p1 p2 43 4).set 4 (.int (nar .char p2))) (.int 0) := Arv.set Ar95 qA95 SA95 NA95 HA95 GA95 (by first | rfl | exact fits_nar_char _) W96 4 rfl (by rw [own_plen]; decide)
  have N96 := Fr.snoc X96 N94 g_b86
  show own_Comes p e below s _ _ _ (T96.setTop (mkF m 24 #[.val (.int p0), .val (.int p1), .val (.int p2), .val (.int p3)] [(.ref b86)]))
  rw [own_nar16 hp2, own_pset (by decide) (by simp)] at V96
  refine own_by (fun _ kS => XS.dup X96.here hx rfl (hb hby d31_24) rfl rfl kS) ?_
  show own_Comes p e below s _ _ _ (T96.setTop (mkF m 25 #[.val (.int p0), .val (.int p1), .val (.int p2), .val (.int p3)] [(.ref b86), (.ref b86)]))
  refine own_by (fun _ kS => XS.iconst X96.here hx rfl (hb hby d31_25) kS) ?_
  show own_Comes p e below s _ _ _ (T96.setTop (mkF m 26 #[.val (.int p0), .val (.int p1), .val (.int p2), .val (.int p3)] [(.int (5 : Int32)), (.ref b86), (.ref b86)]))
  refine own_by (fun _ kS => XS.iloadN X96.here hx rfl (hb hby d31_26) rfl kS) ?_
  show own_Comes p e below s _ _ _ (T96.setTop (mkF m 27 #[.val (.int p0), .val (.int p1), .val (.int p2), .val (.int p3)] [(.int p2), (.int (5 : Int32)), (.ref b86), (.ref b86)]))
  have Vo97 := V96
  obtain ⟨cl97, Ar97, qA97, SA97, NA97, HA97, GA97⟩ := Vo97
  have hin97 : ¬ ((5 : Int32) < 0 ∨ cl97.slots.size ≤ ((5 : Int32)).toNatClampNeg) := own_inb (k := 5) SA97 (by decide) (by decide)
  obtain ⟨T98, h98, X98, e98, W98, st98⟩ := stC X96 hx hZ e96 Ar97 (j := (5 : Int32)) hin97 (g := (mkF m 27 #[.val (.int p0), .val (.int p1), .val (.int p2), .val (.int p3)] [(.int p2), (.int (5 : Int32)), (.ref b86), (.ref b86)])) rfl rfl (hb hby d31_27)
  refine own_by st98 ?_
  have V98 : Arv Z h98 b86 k86 .char (Int32.ofNat 43) ((own_pre p0 p1 p2 43 5).set 5 (.int (nar .char p2))) (.int 0) := Arv.set Ar97 qA97 SA97 NA97 HA97 GA97 (by first | rfl | exact fits_nar_char _) W98 5 rfl (by rw [own_plen]; decide)
  have N98 := Fr.snoc X98 N96 g_b86
  show own_Comes p e below s _ _ _ (T98.setTop (mkF m 28 #[.val (.int p0), .val (.int p1), .val (.int p2), .val (.int p3)] [(.ref b86)]))
  rw [own_nar16 hp2, own_pset (by decide) (by simp)] at V98
  refine own_run (B := 28) (M := 42) (n := 43) (h0 := h0) (n0 := n0) hx hZ hp2 (by decide) (by decide) (by decide) (by decide) (fun j hj => by rw [hby]; exact dr_31 j hj) rfl g_b86 sz_b86 ?_ 36 0 (by decide) _ _ _ X98 e98 N98 ((((((((Keep.refl _ _).ext E86).wr W88 (Or.inr sz_b86)).wr W90 (Or.inr sz_b86)).wr W92 (Or.inr sz_b86)).wr W94 (Or.inr sz_b86)).wr W96 (Or.inr sz_b86)).wr W98 (Or.inr sz_b86)) V98
  intro TR hR LR XR eR NR KR VR
  show own_Comes p e below s _ _ _ (TR.setTop (mkF m 208 #[.val (.int p0), .val (.int p1), .val (.int p2), .val (.int p3)] [(.ref b86)]))
  refine own_by (fun _ kS => XS.dup XR.here hx rfl (hb hby d31_208) rfl rfl kS) ?_
  show own_Comes p e below s _ _ _ (TR.setTop (mkF m 209 #[.val (.int p0), .val (.int p1), .val (.int p2), .val (.int p3)] [(.ref b86), (.ref b86)]))
  refine own_by (fun _ kS => XS.bipush XR.here hx rfl (hb hby d31_209) kS) ?_
  show own_Comes p e below s _ _ _ (TR.setTop (mkF m 211 #[.val (.int p0), .val (.int p1), .val (.int p2), .val (.int p3)] [(.int (42 : Int32)), (.ref b86), (.ref b86)]))
  refine own_by (fun _ kS => XS.iloadN XR.here hx rfl (hb hby d31_211) rfl kS) ?_
  show own_Comes p e below s _ _ _ (TR.setTop (mkF m 212 #[.val (.int p0), .val (.int p1), .val (.int p2), .val (.int p3)] [(.int p3), (.int (42 : Int32)), (.ref b86), (.ref b86)]))
  have Vo99 := VR
  obtain ⟨cl99, Ar99, qA99, SA99, NA99, HA99, GA99⟩ := Vo99
  have hin99 : ¬ ((42 : Int32) < 0 ∨ cl99.slots.size ≤ ((42 : Int32)).toNatClampNeg) := own_inb (k := 42) SA99 (by decide) (by decide)
  obtain ⟨T100, h100, X100, e100, W100, st100⟩ := stC XR hx hZ eR Ar99 (j := (42 : Int32)) hin99 (g := (mkF m 212 #[.val (.int p0), .val (.int p1), .val (.int p2), .val (.int p3)] [(.int p3), (.int (42 : Int32)), (.ref b86), (.ref b86)])) rfl rfl (hb hby d31_212)
  refine own_by st100 ?_
  have V100 : Arv Z h100 b86 k86 .char (Int32.ofNat 43) ((own_pre p0 p1 p2 43 42).set 42 (.int (nar .char p3))) (.int 0) := Arv.set Ar99 qA99 SA99 NA99 HA99 GA99 (by first | rfl | exact fits_nar_char _) W100 42 rfl (by rw [own_plen]; decide)
  have N100 := Fr.snoc X100 NR g_b86
  show own_Comes p e below s _ _ _ (T100.setTop (mkF m 213 #[.val (.int p0), .val (.int p1), .val (.int p2), .val (.int p3)] [(.ref b86)]))
  rw [own_nar16 hp3, own_pfin (by decide)] at V100
  refine own_ret X100 (v := some (.ref b86)) (fun h => by rw [Bd.returns] at h; cases h) Bd.notSynchronized (by decide) (by decide) ?_ (fun fs hr => own_reta X100 hx Bd.returns rfl rfl (hb hby d31_213) hr)
  rw [e100]; exact ⟨_, _, rfl, N100, own_ext (KR.wr W100 (Or.inr sz_b86)), g_b86, sz_b86, by rw [own_clen]; exact V100⟩
theorem dr_22 : ∀ j, j < 121 → decode method_5_code (29 + 5 * j) = .ok (.dup, 1) ∧ decode method_5_code (29 + 5 * j + 1) = .ok (.bipush ((j + 6 : Nat) : Int), 2) ∧ decode method_5_code (29 + 5 * j + 3) = .ok (.iload_n 2, 1) ∧ decode method_5_code (29 + 5 * j + 4) = .ok (.castore, 1) := by decide +kernel
def Q22 (Z : State) (cs : List Int32) (h0 : Heap) (n0 : Nat) (v : Option Value) (h : Heap) (L : List Loc) : Prop := ∃ (a : Addr) (kc : ClassId), v = some (.ref a) ∧ Fr n0 L ∧ Ext h0 h ∧ n0 ≤ a ∧ h0.size ≤ a ∧ Arv Z h a kc .char (Int32.ofNat cs.length) (cs.map Value.int) (.int 0)
theorem ef_rm22 (m : MethodId) (x0 : Int32) (x1 : Int32) (x2 : Int32) (x3 : Int32) : entryFrame m #[(.int x0), (.int x1), (.int x2), (.int x3)] 4 = mkF m 0 #[.val (.int x0), .val (.int x1), .val (.int x2), .val (.int x3)] [] := by first | (simp [entryFrame, mkF, argsToLocals, Value.category]; done) | rfl
theorem d22_0 : decode method_5_code 0 = .ok (.sipush 128, 3) := by decide +kernel
theorem d22_3 : decode method_5_code 3 = .ok (.newarray .char, 2) := by decide +kernel
theorem d22_5 : decode method_5_code 5 = .ok (.dup, 1) := by decide +kernel
theorem d22_6 : decode method_5_code 6 = .ok (.iconst 0, 1) := by decide +kernel
theorem d22_7 : decode method_5_code 7 = .ok (.iload_n 0, 1) := by decide +kernel
theorem d22_8 : decode method_5_code 8 = .ok (.castore, 1) := by decide +kernel
theorem d22_9 : decode method_5_code 9 = .ok (.dup, 1) := by decide +kernel
theorem d22_10 : decode method_5_code 10 = .ok (.iconst 1, 1) := by decide +kernel
theorem d22_11 : decode method_5_code 11 = .ok (.iload_n 1, 1) := by decide +kernel
theorem d22_12 : decode method_5_code 12 = .ok (.castore, 1) := by decide +kernel
theorem d22_13 : decode method_5_code 13 = .ok (.dup, 1) := by decide +kernel
theorem d22_14 : decode method_5_code 14 = .ok (.iconst 2, 1) := by decide +kernel
theorem d22_15 : decode method_5_code 15 = .ok (.iload_n 2, 1) := by decide +kernel
theorem d22_16 : decode method_5_code 16 = .ok (.castore, 1) := by decide +kernel
theorem d22_17 : decode method_5_code 17 = .ok (.dup, 1) := by decide +kernel
theorem d22_18 : decode method_5_code 18 = .ok (.iconst 3, 1) := by decide +kernel
theorem d22_19 : decode method_5_code 19 = .ok (.iload_n 2, 1) := by decide +kernel
theorem d22_20 : decode method_5_code 20 = .ok (.castore, 1) := by decide +kernel
theorem d22_21 : decode method_5_code 21 = .ok (.dup, 1) := by decide +kernel
theorem d22_22 : decode method_5_code 22 = .ok (.iconst 4, 1) := by decide +kernel
theorem d22_23 : decode method_5_code 23 = .ok (.iload_n 2, 1) := by decide +kernel
theorem d22_24 : decode method_5_code 24 = .ok (.castore, 1) := by decide +kernel
theorem d22_25 : decode method_5_code 25 = .ok (.dup, 1) := by decide +kernel
theorem d22_26 : decode method_5_code 26 = .ok (.iconst 5, 1) := by decide +kernel
theorem d22_27 : decode method_5_code 27 = .ok (.iload_n 2, 1) := by decide +kernel
theorem d22_28 : decode method_5_code 28 = .ok (.castore, 1) := by decide +kernel
theorem d22_634 : decode method_5_code 634 = .ok (.dup, 1) := by decide +kernel
theorem d22_635 : decode method_5_code 635 = .ok (.bipush 127, 2) := by decide +kernel
theorem d22_637 : decode method_5_code 637 = .ok (.iload_n 3, 1) := by decide +kernel
theorem d22_638 : decode method_5_code 638 = .ok (.castore, 1) := by decide +kernel
theorem d22_639 : decode method_5_code 639 = .ok (.areturn, 1) := by decide +kernel
set_option maxRecDepth 65536 in
set_option maxHeartbeats 40000000 in
theorem rm22 (l : Launch) (Z : State) (a0 : Array Value) (hw : ∀ d ∈ tables_1, d.before a0 Z = true) (ws : List Jvm.Cond) (p0 p1 p2 p3 : Int32) (h0 : Heap) (n0 : Nat) (Z0 : n0 ≤ h0.size) (hp0 : ¬ p0 < 0 ∧ ¬ (65535 : Int32) < p0) (hp1 : ¬ p1 < 0 ∧ ¬ (65535 : Int32) < p1) (hp2 : ¬ p2 < 0 ∧ ¬ (65535 : Int32) < p2) (hp3 : ¬ p3 < 0 ∧ ¬ (65535 : Int32) < p3) :
    MetFree l (⟨"com/example/eslabon/eslabon/CodeChallengeMethodIsWellFormedPinLaw", "len128", "(CCCC)[C"⟩ : MethodName) (head1 (Jvm.Cond.code (⟨"com/example/eslabon/eslabon/CodeChallengeMethodIsWellFormedPinLaw", "len128", "(CCCC)[C"⟩ : MethodName) method_5_code 4 (some (.array .char)) :: ws) ({ frames := 0, cells := 1, slots := 128, locals := 0 } : Room)) (fun aX UX => aX = #[(.int p0), (.int p1), (.int p2), (.int p3)] ∧ Z.Warmed39 UX.vm ∧ UX.heap = h0) (fun _ _ _ _ _ => True) (fun _ UX oX UX' => ∃ vX LX, oX = .returned vX ∧ Q22 Z (own_cs p0 p1 p2 p3 128) h0 n0 vX UX'.heap LX ∧ FrameEnd UX oX UX' LX ({ frames := 0, cells := 1, slots := 128, locals := 0 } : Room).cells ({ frames := 0, cells := 1, slots := 128, locals := 0 } : Room).slots) := by
  refine MetFree.of_bodySF (plainFor_of_name pn_com_example_eslabon_eslabon_CodeChallengeMethodIsWellFormedPinLaw) hisR ?_
  intro p e s m args below meth c s₁ Bd hml0 hP hK
  obtain ⟨rfl, hZ, hh⟩ := hP
  have hx := Bd.exec
  have hby := Bd.bytes
  have hml : c.maxLocals = 4 := hml0
  have hown : s.vm.findClass "com/example/eslabon/eslabon/CodeChallengeMethodIsWellFormedPinLaw" = some m.cls := findClass_of_methodNamed Bd.named
  have hnm := (name_of_methodNamed Bd.named Bd.method).1
  have X0 : Stand p l e ({ frames := 0, cells := 1, slots := 128, locals := 0 } : Room) s m #[(.int p0), (.int p1), (.int p2), (.int p3)] below meth c s₁ [] 0 0 := Stand.of_body Bd
  have e0 : s₁.heap = h0 := by rw [← hh, Bd.state]; rfl
  have N0 := Fr.nil n0
  show own_Comes p e below s ({ frames := 0, cells := 1, slots := 128, locals := 0 } : Room).cells ({ frames := 0, cells := 1, slots := 128, locals := 0 } : Room).slots (Q22 Z (own_cs p0 p1 p2 p3 128) h0 n0) _
  rw [show entryFrame m #[(.int p0), (.int p1), (.int p2), (.int p3)] 4 = mkF m 0 #[.val (.int p0), .val (.int p1), .val (.int p2), .val (.int p3)] [] from ef_rm22 m p0 p1 p2 p3]
  show own_Comes p e below s _ _ _ (s₁.setTop (mkF m 0 #[.val (.int p0), .val (.int p1), .val (.int p2), .val (.int p3)] []))
  refine own_by (fun _ kS => XS.sipush X0.here hx rfl (hb hby d22_0) kS) ?_
  show own_Comes p e below s _ _ _ (s₁.setTop (mkF m 3 #[.val (.int p0), .val (.int p1), .val (.int p2), .val (.int p3)] [(.int (128 : Int32))]))
  obtain ⟨T101, h101, k101, X101, e101, E101, A101, st101⟩ := newP X0 hx hZ (hw _ (List.mem_of_getElem? (i := 11) rfl)) e0 (g := (mkF m 3 #[.val (.int p0), .val (.int p1), .val (.int p2), .val (.int p3)] [(.int (128 : Int32))])) rfl (hb hby d22_3) rfl (by decide) (cap := 128) (by decide) (by decide) (by decide) (by decide)
  obtain ⟨b101, g101⟩ : ∃ z, z = h0.size := ⟨_, rfl⟩
  rw [← g101] at A101 st101
  have g_b101 : n0 ≤ b101 := Nat.le_trans Z0 (Nat.le_of_eq g101.symm)
  refine own_by st101 ?_
  have V_b101 : Arv Z h101 b101 k101 .char (128 : Int32) (List.replicate 128 (.int (0 : Int32))) (.int (0 : Int32)) := (Arv.new A101 (by decide)).pad (pad_rep [] (.int (0 : Int32)) 128)
  show own_Comes p e below s _ _ _ (T101.setTop (mkF m 5 #[.val (.int p0), .val (.int p1), .val (.int p2), .val (.int p3)] [(.ref b101)]))
  have sz_b101 : h0.size ≤ b101 := Nat.le_of_eq g101.symm
  have V0 : Arv Z h101 b101 k101 .char (Int32.ofNat 128) (own_pre p0 p1 p2 128 0) (.int 0) := by rw [← own_p0]; exact V_b101
  refine own_by (fun _ kS => XS.dup X101.here hx rfl (hb hby d22_5) rfl rfl kS) ?_
  show own_Comes p e below s _ _ _ (T101.setTop (mkF m 6 #[.val (.int p0), .val (.int p1), .val (.int p2), .val (.int p3)] [(.ref b101), (.ref b101)]))
  refine own_by (fun _ kS => XS.iconst X101.here hx rfl (hb hby d22_6) kS) ?_
  show own_Comes p e below s _ _ _ (T101.setTop (mkF m 7 #[.val (.int p0), .val (.int p1), .val (.int p2), .val (.int p3)] [(.int (0 : Int32)), (.ref b101), (.ref b101)]))
  refine own_by (fun _ kS => XS.iloadN X101.here hx rfl (hb hby d22_7) rfl kS) ?_
  show own_Comes p e below s _ _ _ (T101.setTop (mkF m 8 #[.val (.int p0), .val (.int p1), .val (.int p2), .val (.int p3)] [(.int p0), (.int (0 : Int32)), (.ref b101), (.ref b101)]))
  have Vo102 := V0
  obtain ⟨cl102, Ar102, qA102, SA102, NA102, HA102, GA102⟩ := Vo102
  have hin102 : ¬ ((0 : Int32) < 0 ∨ cl102.slots.size ≤ ((0 : Int32)).toNatClampNeg) := own_inb (k := 0) SA102 (by decide) (by decide)
  obtain ⟨T103, h103, X103, e103, W103, st103⟩ := stC X101 hx hZ e101 Ar102 (j := (0 : Int32)) hin102 (g := (mkF m 8 #[.val (.int p0), .val (.int p1), .val (.int p2), .val (.int p3)] [(.int p0), (.int (0 : Int32)), (.ref b101), (.ref b101)])) rfl rfl (hb hby d22_8)
  refine own_by st103 ?_
  have V103 : Arv Z h103 b101 k101 .char (Int32.ofNat 128) ((own_pre p0 p1 p2 128 0).set 0 (.int (nar .char p0))) (.int 0) := Arv.set Ar102 qA102 SA102 NA102 HA102 GA102 (by first | rfl | exact fits_nar_char _) W103 0 rfl (by rw [own_plen]; decide)
  have N103 := Fr.snoc X103 N0 g_b101
  show own_Comes p e below s _ _ _ (T103.setTop (mkF m 9 #[.val (.int p0), .val (.int p1), .val (.int p2), .val (.int p3)] [(.ref b101)]))
  rw [own_nar16 hp0, own_pset (by decide) (by simp)] at V103
  refine own_by (fun _ kS => XS.dup X103.here hx rfl (hb hby d22_9) rfl rfl kS) ?_
  show own_Comes p e below s _ _ _ (T103.setTop (mkF m 10 #[.val (.int p0), .val (.int p1), .val (.int p2), .val (.int p3)] [(.ref b101), (.ref b101)]))
  refine own_by (fun _ kS => XS.iconst X103.here hx rfl (hb hby d22_10) kS) ?_
  show own_Comes p e below s _ _ _ (T103.setTop (mkF m 11 #[.val (.int p0), .val (.int p1), .val (.int p2), .val (.int p3)] [(.int (1 : Int32)), (.ref b101), (.ref b101)]))
  refine own_by (fun _ kS => XS.iloadN X103.here hx rfl (hb hby d22_11) rfl kS) ?_
  show own_Comes p e below s _ _ _ (T103.setTop (mkF m 12 #[.val (.int p0), .val (.int p1), .val (.int p2), .val (.int p3)] [(.int p1), (.int (1 : Int32)), (.ref b101), (.ref b101)]))
  have Vo104 := V103
  obtain ⟨cl104, Ar104, qA104, SA104, NA104, HA104, GA104⟩ := Vo104
  have hin104 : ¬ ((1 : Int32) < 0 ∨ cl104.slots.size ≤ ((1 : Int32)).toNatClampNeg) := own_inb (k := 1) SA104 (by decide) (by decide)
  obtain ⟨T105, h105, X105, e105, W105, st105⟩ := stC X103 hx hZ e103 Ar104 (j := (1 : Int32)) hin104 (g := (mkF m 12 #[.val (.int p0), .val (.int p1), .val (.int p2), .val (.int p3)] [(.int p1), (.int (1 : Int32)), (.ref b101), (.ref b101)])) rfl rfl (hb hby d22_12)
  refine own_by st105 ?_
  have V105 : Arv Z h105 b101 k101 .char (Int32.ofNat 128) ((own_pre p0 p1 p2 128 1).set 1 (.int (nar .char p1))) (.int 0) := Arv.set Ar104 qA104 SA104 NA104 HA104 GA104 (by first | rfl | exact fits_nar_char _) W105 1 rfl (by rw [own_plen]; decide)
  have N105 := Fr.snoc X105 N103 g_b101
  show own_Comes p e below s _ _ _ (T105.setTop (mkF m 13 #[.val (.int p0), .val (.int p1), .val (.int p2), .val (.int p3)] [(.ref b101)]))
  rw [own_nar16 hp1, own_pset (by decide) (by simp)] at V105
  refine own_by (fun _ kS => XS.dup X105.here hx rfl (hb hby d22_13) rfl rfl kS) ?_
  show own_Comes p e below s _ _ _ (T105.setTop (mkF m 14 #[.val (.int p0), .val (.int p1), .val (.int p2), .val (.int p3)] [(.ref b101), (.ref b101)]))
  refine own_by (fun _ kS => XS.iconst X105.here hx rfl (hb hby d22_14) kS) ?_
  show own_Comes p e below s _ _ _ (T105.setTop (mkF m 15 #[.val (.int p0), .val (.int p1), .val (.int p2), .val (.int p3)] [(.int (2 : Int32)), (.ref b101), (.ref b101)]))
  refine own_by (fun _ kS => XS.iloadN X105.here hx rfl (hb hby d22_15) rfl kS) ?_
  show own_Comes p e below s _ _ _ (T105.setTop (mkF m 16 #[.val (.int p0), .val (.int p1), .val (.int p2), .val (.int p3)] [(.int p2), (.int (2 : Int32)), (.ref b101), (.ref b101)]))
  have Vo106 := V105
  obtain ⟨cl106, Ar106, qA106, SA106, NA106, HA106, GA106⟩ := Vo106
  have hin106 : ¬ ((2 : Int32) < 0 ∨ cl106.slots.size ≤ ((2 : Int32)).toNatClampNeg) := own_inb (k := 2) SA106 (by decide) (by decide)
  obtain ⟨T107, h107, X107, e107, W107, st107⟩ := stC X105 hx hZ e105 Ar106 (j := (2 : Int32)) hin106 (g := (mkF m 16 #[.val (.int p0), .val (.int p1), .val (.int p2), .val (.int p3)] [(.int p2), (.int (2 : Int32)), (.ref b101), (.ref b101)])) rfl rfl (hb hby d22_16)
  refine own_by st107 ?_
  have V107 : Arv Z h107 b101 k101 .char (Int32.ofNat 128) ((own_pre p0 p1 p2 128 2).set 2 (.int (nar .char p2))) (.int 0) := Arv.set Ar106 qA106 SA106 NA106 HA106 GA106 (by first | rfl | exact fits_nar_char _) W107 2 rfl (by rw [own_plen]; decide)
  have N107 := Fr.snoc X107 N105 g_b101
  show own_Comes p e below s _ _ _ (T107.setTop (mkF m 17 #[.val (.int p0), .val (.int p1), .val (.int p2), .val (.int p3)] [(.ref b101)]))
  rw [own_nar16 hp2, own_pset (by decide) (by simp)] at V107
  refine own_by (fun _ kS => XS.dup X107.here hx rfl (hb hby d22_17) rfl rfl kS) ?_
  show own_Comes p e below s _ _ _ (T107.setTop (mkF m 18 #[.val (.int p0), .val (.int p1), .val (.int p2), .val (.int p3)] [(.ref b101), (.ref b101)]))
  refine own_by (fun _ kS => XS.iconst X107.here hx rfl (hb hby d22_18) kS) ?_
  show own_Comes p e below s _ _ _ (T107.setTop (mkF m 19 #[.val (.int p0), .val (.int p1), .val (.int p2), .val (.int p3)] [(.int (3 : Int32)), (.ref b101), (.ref b101)]))
  refine own_by (fun _ kS => XS.iloadN X107.here hx rfl (hb hby d22_19) rfl kS) ?_
  show own_Comes p e below s _ _ _ (T107.setTop (mkF m 20 #[.val (.int p0), .val (.int p1), .val (.int p2), .val (.int p3)] [(.int p2), (.int (3 : Int32)), (.ref b101), (.ref b101)]))
  have Vo108 := V107
  obtain ⟨cl108, Ar108, qA108, SA108, NA108, HA108, GA108⟩ := Vo108
  have hin108 : ¬ ((3 : Int32) < 0 ∨ cl108.slots.size ≤ ((3 : Int32)).toNatClampNeg) := own_inb (k := 3) SA108 (by decide) (by decide)
  obtain ⟨T109, h109, X109, e109, W109, st109⟩ := stC X107 hx hZ e107 Ar108 (j := (3 : Int32)) hin108 (g := (mkF m 20 #[.val (.int p0), .val (.int p1), .val (.int p2), .val (.int p3)] [(.int p2), (.int (3 : Int32)), (.ref b101), (.ref b101)])) rfl rfl (hb hby d22_20)
  refine own_by st109 ?_
  have V109 : Arv Z h109 b101 k101 .char (Int32.ofNat 128) ((own_pre p0 p1 p2 128 3).set 3 (.int (nar .char p2))) (.int 0) := Arv.set Ar108 qA108 SA108 NA108 HA108 GA108 (by first | rfl | exact fits_nar_char _) W109 3 rfl (by rw [own_plen]; decide)
  have N109 := Fr.snoc X109 N107 g_b101
  show own_Comes p e below s _ _ _ (T109.setTop (mkF m 21 #[.val (.int p0), .val (.int p1), .val (.int p2), .val (.int p3)] [(.ref b101)]))
  rw [own_nar16 hp2, own_pset (by decide) (by simp)] at V109
  refine own_by (fun _ kS => XS.dup X109.here hx rfl (hb hby d22_21) rfl rfl kS) ?_
  show own_Comes p e below s _ _ _ (T109.setTop (mkF m 22 #[.val (.int p0), .val (.int p1), .val (.int p2), .val (.int p3)] [(.ref b101), (.ref b101)]))
  refine own_by (fun _ kS => XS.iconst X109.here hx rfl (hb hby d22_22) kS) ?_
  show own_Comes p e below s _ _ _ (T109.setTop (mkF m 23 #[.val (.int p0), .val (.int p1), .val (.int p2), .val (.int p3)] [(.int (4 : Int32)), (.ref b101), (.ref b101)]))
  refine own_by (fun _ kS => XS.iloadN X109.here hx rfl (hb hby d22_23) rfl kS) ?_
  show own_Comes p e below s _ _ _ (T109.setTop (mkF m 24 #[.val (.int p0), .val (.int p1), .val (.int p2), .val (.int p3)] [(.int p2), (.int (4 : Int32)), (.ref b101), (.ref b101)]))
  have Vo110 := V109
  obtain ⟨cl110, Ar110, qA110, SA110, NA110, HA110, GA110⟩ := Vo110
  have hin110 : ¬ ((4 : Int32) < 0 ∨ cl110.slots.size ≤ ((4 : Int32)).toNatClampNeg) := own_inb (k := 4) SA110 (by decide) (by decide)
  obtain ⟨T111, h111, X111, e111, W111, st111⟩ := stC X109 hx hZ e109 Ar110 (j := (4 : Int32)) hin110 (g := (mkF m 24 #[.val (.int p0), .val (.int p1), .val (.int p2), .val (.int p3)] [(.int p2), (.int (4 : Int32)), (.ref b101), (.ref b101)])) rfl rfl (hb hby d22_24)
  refine own_by st111 ?_
  have V111 : Arv Z h111 b101 k101 .char (Int32.ofNat 128) ((own_pre p0 p1 p2 128 4).set 4 (.int (nar .char p2))) (.int 0) := Arv.set Ar110 qA110 SA110 NA110 HA110 GA110 (by first | rfl | exact fits_nar_char _) W111 4 rfl (by rw [own_plen]; decide)
  have N111 := Fr.snoc X111 N109 g_b101
  show own_Comes p e below s _ _ _ (T111.setTop (mkF m 25 #[.val (.int p0), .val (.int p1), .val (.int p2), .val (.int p3)] [(.ref b101)]))
  rw [own_nar16 hp2, own_pset (by decide) (by simp)] at V111
  refine own_by (fun _ kS => XS.dup X111.here hx rfl (hb hby d22_25) rfl rfl kS) ?_
  show own_Comes p e below s _ _ _ (T111.setTop (mkF m 26 #[.val (.int p0), .val (.int p1), .val (.int p2), .val (.int p3)] [(.ref b101), (.ref b101)]))
  refine own_by (fun _ kS => XS.iconst X111.here hx rfl (hb hby d22_26) kS) ?_
  show own_Comes p e below s _ _ _ (T111.setTop (mkF m 27 #[.val (.int p0), .val (.int p1), .val (.int p2), .val (.int p3)] [(.int (5 : Int32)), (.ref b101), (.ref b101)]))
  refine own_by (fun _ kS => XS.iloadN X111.here hx rfl (hb hby d22_27) rfl kS) ?_
  show own_Comes p e below s _ _ _ (T111.setTop (mkF m 28 #[.val (.int p0), .val (.int p1), .val (.int p2), .val (.int p3)] [(.int p2), (.int (5 : Int32)), (.ref b101), (.ref b101)]))
  have Vo112 := V111
  obtain ⟨cl112, Ar112, qA112, SA112, NA112, HA112, GA112⟩ := Vo112
  have hin112 : ¬ ((5 : Int32) < 0 ∨ cl112.slots.size ≤ ((5 : Int32)).toNatClampNeg) := own_inb (k := 5) SA112 (by decide) (by decide)
  obtain ⟨T113, h113, X113, e113, W113, st113⟩ := stC X111 hx hZ e111 Ar112 (j := (5 : Int32)) hin112 (g := (mkF m 28 #[.val (.int p0), .val (.int p1), .val (.int p2), .val (.int p3)] [(.int p2), (.int (5 : Int32)), (.ref b101), (.ref b101)])) rfl rfl (hb hby d22_28)
  refine own_by st113 ?_
  have V113 : Arv Z h113 b101 k101 .char (Int32.ofNat 128) ((own_pre p0 p1 p2 128 5).set 5 (.int (nar .char p2))) (.int 0) := Arv.set Ar112 qA112 SA112 NA112 HA112 GA112 (by first | rfl | exact fits_nar_char _) W113 5 rfl (by rw [own_plen]; decide)
  have N113 := Fr.snoc X113 N111 g_b101
  show own_Comes p e below s _ _ _ (T113.setTop (mkF m 29 #[.val (.int p0), .val (.int p1), .val (.int p2), .val (.int p3)] [(.ref b101)]))
  rw [own_nar16 hp2, own_pset (by decide) (by simp)] at V113
  refine own_run (B := 29) (M := 127) (n := 128) (h0 := h0) (n0 := n0) hx hZ hp2 (by decide) (by decide) (by decide) (by decide) (fun j hj => by rw [hby]; exact dr_22 j hj) rfl g_b101 sz_b101 ?_ 121 0 (by decide) _ _ _ X113 e113 N113 ((((((((Keep.refl _ _).ext E101).wr W103 (Or.inr sz_b101)).wr W105 (Or.inr sz_b101)).wr W107 (Or.inr sz_b101)).wr W109 (Or.inr sz_b101)).wr W111 (Or.inr sz_b101)).wr W113 (Or.inr sz_b101)) V113
  intro TR hR LR XR eR NR KR VR
  show own_Comes p e below s _ _ _ (TR.setTop (mkF m 634 #[.val (.int p0), .val (.int p1), .val (.int p2), .val (.int p3)] [(.ref b101)]))
  refine own_by (fun _ kS => XS.dup XR.here hx rfl (hb hby d22_634) rfl rfl kS) ?_
  show own_Comes p e below s _ _ _ (TR.setTop (mkF m 635 #[.val (.int p0), .val (.int p1), .val (.int p2), .val (.int p3)] [(.ref b101), (.ref b101)]))
  refine own_by (fun _ kS => XS.bipush XR.here hx rfl (hb hby d22_635) kS) ?_
  show own_Comes p e below s _ _ _ (TR.setTop (mkF m 637 #[.val (.int p0), .val (.int p1), .val (.int p2), .val (.int p3)] [(.int (127 : Int32)), (.ref b101), (.ref b101)]))
  refine own_by (fun _ kS => XS.iloadN XR.here hx rfl (hb hby d22_637) rfl kS) ?_
  show own_Comes p e below s _ _ _ (TR.setTop (mkF m 638 #[.val (.int p0), .val (.int p1), .val (.int p2), .val (.int p3)] [(.int p3), (.int (127 : Int32)), (.ref b101), (.ref b101)]))
  have Vo114 := VR
  obtain ⟨cl114, Ar114, qA114, SA114, NA114, HA114, GA114⟩ := Vo114
  have hin114 : ¬ ((127 : Int32) < 0 ∨ cl114.slots.size ≤ ((127 : Int32)).toNatClampNeg) := own_inb (k := 127) SA114 (by decide) (by decide)
  obtain ⟨T115, h115, X115, e115, W115, st115⟩ := stC XR hx hZ eR Ar114 (j := (127 : Int32)) hin114 (g := (mkF m 638 #[.val (.int p0), .val (.int p1), .val (.int p2), .val (.int p3)] [(.int p3), (.int (127 : Int32)), (.ref b101), (.ref b101)])) rfl rfl (hb hby d22_638)
  refine own_by st115 ?_
  have V115 : Arv Z h115 b101 k101 .char (Int32.ofNat 128) ((own_pre p0 p1 p2 128 127).set 127 (.int (nar .char p3))) (.int 0) := Arv.set Ar114 qA114 SA114 NA114 HA114 GA114 (by first | rfl | exact fits_nar_char _) W115 127 rfl (by rw [own_plen]; decide)
  have N115 := Fr.snoc X115 NR g_b101
  show own_Comes p e below s _ _ _ (T115.setTop (mkF m 639 #[.val (.int p0), .val (.int p1), .val (.int p2), .val (.int p3)] [(.ref b101)]))
  rw [own_nar16 hp3, own_pfin (by decide)] at V115
  refine own_ret X115 (v := some (.ref b101)) (fun h => by rw [Bd.returns] at h; cases h) Bd.notSynchronized (by decide) (by decide) ?_ (fun fs hr => own_reta X115 hx Bd.returns rfl rfl (hb hby d22_639) hr)
  rw [e115]; exact ⟨_, _, rfl, N115, own_ext (KR.wr W115 (Or.inr sz_b101)), g_b101, sz_b101, by rw [own_clen]; exact V115⟩
theorem dr_11 : ∀ j, j < 122 → decode method_6_code (29 + 5 * j) = .ok (.dup, 1) ∧ decode method_6_code (29 + 5 * j + 1) = .ok (.bipush ((j + 6 : Nat) : Int), 2) ∧ decode method_6_code (29 + 5 * j + 3) = .ok (.iload_n 2, 1) ∧ decode method_6_code (29 + 5 * j + 4) = .ok (.castore, 1) := by decide +kernel
def Q11 (Z : State) (cs : List Int32) (h0 : Heap) (n0 : Nat) (v : Option Value) (h : Heap) (L : List Loc) : Prop := ∃ (a : Addr) (kc : ClassId), v = some (.ref a) ∧ Fr n0 L ∧ Ext h0 h ∧ n0 ≤ a ∧ h0.size ≤ a ∧ Arv Z h a kc .char (Int32.ofNat cs.length) (cs.map Value.int) (.int 0)
theorem ef_rm11 (m : MethodId) (x0 : Int32) (x1 : Int32) (x2 : Int32) (x3 : Int32) : entryFrame m #[(.int x0), (.int x1), (.int x2), (.int x3)] 4 = mkF m 0 #[.val (.int x0), .val (.int x1), .val (.int x2), .val (.int x3)] [] := by first | (simp [entryFrame, mkF, argsToLocals, Value.category]; done) | rfl
theorem d11_0 : decode method_6_code 0 = .ok (.sipush 129, 3) := by decide +kernel
theorem d11_3 : decode method_6_code 3 = .ok (.newarray .char, 2) := by decide +kernel
theorem d11_5 : decode method_6_code 5 = .ok (.dup, 1) := by decide +kernel
theorem d11_6 : decode method_6_code 6 = .ok (.iconst 0, 1) := by decide +kernel
theorem d11_7 : decode method_6_code 7 = .ok (.iload_n 0, 1) := by decide +kernel
theorem d11_8 : decode method_6_code 8 = .ok (.castore, 1) := by decide +kernel
theorem d11_9 : decode method_6_code 9 = .ok (.dup, 1) := by decide +kernel
theorem d11_10 : decode method_6_code 10 = .ok (.iconst 1, 1) := by decide +kernel
theorem d11_11 : decode method_6_code 11 = .ok (.iload_n 1, 1) := by decide +kernel
theorem d11_12 : decode method_6_code 12 = .ok (.castore, 1) := by decide +kernel
theorem d11_13 : decode method_6_code 13 = .ok (.dup, 1) := by decide +kernel
theorem d11_14 : decode method_6_code 14 = .ok (.iconst 2, 1) := by decide +kernel
theorem d11_15 : decode method_6_code 15 = .ok (.iload_n 2, 1) := by decide +kernel
theorem d11_16 : decode method_6_code 16 = .ok (.castore, 1) := by decide +kernel
theorem d11_17 : decode method_6_code 17 = .ok (.dup, 1) := by decide +kernel
theorem d11_18 : decode method_6_code 18 = .ok (.iconst 3, 1) := by decide +kernel
theorem d11_19 : decode method_6_code 19 = .ok (.iload_n 2, 1) := by decide +kernel
theorem d11_20 : decode method_6_code 20 = .ok (.castore, 1) := by decide +kernel
theorem d11_21 : decode method_6_code 21 = .ok (.dup, 1) := by decide +kernel
theorem d11_22 : decode method_6_code 22 = .ok (.iconst 4, 1) := by decide +kernel
theorem d11_23 : decode method_6_code 23 = .ok (.iload_n 2, 1) := by decide +kernel
theorem d11_24 : decode method_6_code 24 = .ok (.castore, 1) := by decide +kernel
theorem d11_25 : decode method_6_code 25 = .ok (.dup, 1) := by decide +kernel
theorem d11_26 : decode method_6_code 26 = .ok (.iconst 5, 1) := by decide +kernel
theorem d11_27 : decode method_6_code 27 = .ok (.iload_n 2, 1) := by decide +kernel
theorem d11_28 : decode method_6_code 28 = .ok (.castore, 1) := by decide +kernel
theorem d11_639 : decode method_6_code 639 = .ok (.dup, 1) := by decide +kernel
theorem d11_640 : decode method_6_code 640 = .ok (.sipush 128, 3) := by decide +kernel
theorem d11_643 : decode method_6_code 643 = .ok (.iload_n 3, 1) := by decide +kernel
theorem d11_644 : decode method_6_code 644 = .ok (.castore, 1) := by decide +kernel
theorem d11_645 : decode method_6_code 645 = .ok (.areturn, 1) := by decide +kernel
set_option maxRecDepth 65536 in
set_option maxHeartbeats 40000000 in
theorem rm11 (l : Launch) (Z : State) (a0 : Array Value) (hw : ∀ d ∈ tables_1, d.before a0 Z = true) (ws : List Jvm.Cond) (p0 p1 p2 p3 : Int32) (h0 : Heap) (n0 : Nat) (Z0 : n0 ≤ h0.size) (hp0 : ¬ p0 < 0 ∧ ¬ (65535 : Int32) < p0) (hp1 : ¬ p1 < 0 ∧ ¬ (65535 : Int32) < p1) (hp2 : ¬ p2 < 0 ∧ ¬ (65535 : Int32) < p2) (hp3 : ¬ p3 < 0 ∧ ¬ (65535 : Int32) < p3) :
    MetFree l (⟨"com/example/eslabon/eslabon/CodeChallengeMethodIsWellFormedPinLaw", "len129", "(CCCC)[C"⟩ : MethodName) (head1 (Jvm.Cond.code (⟨"com/example/eslabon/eslabon/CodeChallengeMethodIsWellFormedPinLaw", "len129", "(CCCC)[C"⟩ : MethodName) method_6_code 4 (some (.array .char)) :: ws) ({ frames := 0, cells := 1, slots := 129, locals := 0 } : Room)) (fun aX UX => aX = #[(.int p0), (.int p1), (.int p2), (.int p3)] ∧ Z.Warmed39 UX.vm ∧ UX.heap = h0) (fun _ _ _ _ _ => True) (fun _ UX oX UX' => ∃ vX LX, oX = .returned vX ∧ Q11 Z (own_cs p0 p1 p2 p3 129) h0 n0 vX UX'.heap LX ∧ FrameEnd UX oX UX' LX ({ frames := 0, cells := 1, slots := 129, locals := 0 } : Room).cells ({ frames := 0, cells := 1, slots := 129, locals := 0 } : Room).slots) := by
  refine MetFree.of_bodySF (plainFor_of_name pn_com_example_eslabon_eslabon_CodeChallengeMethodIsWellFormedPinLaw) hisR ?_
  intro p e s m args below meth c s₁ Bd hml0 hP hK
  obtain ⟨rfl, hZ, hh⟩ := hP
  have hx := Bd.exec
  have hby := Bd.bytes
  have hml : c.maxLocals = 4 := hml0
  have hown : s.vm.findClass "com/example/eslabon/eslabon/CodeChallengeMethodIsWellFormedPinLaw" = some m.cls := findClass_of_methodNamed Bd.named
  have hnm := (name_of_methodNamed Bd.named Bd.method).1
  have X0 : Stand p l e ({ frames := 0, cells := 1, slots := 129, locals := 0 } : Room) s m #[(.int p0), (.int p1), (.int p2), (.int p3)] below meth c s₁ [] 0 0 := Stand.of_body Bd
  have e0 : s₁.heap = h0 := by rw [← hh, Bd.state]; rfl
  have N0 := Fr.nil n0
  show own_Comes p e below s ({ frames := 0, cells := 1, slots := 129, locals := 0 } : Room).cells ({ frames := 0, cells := 1, slots := 129, locals := 0 } : Room).slots (Q11 Z (own_cs p0 p1 p2 p3 129) h0 n0) _
  rw [show entryFrame m #[(.int p0), (.int p1), (.int p2), (.int p3)] 4 = mkF m 0 #[.val (.int p0), .val (.int p1), .val (.int p2), .val (.int p3)] [] from ef_rm11 m p0 p1 p2 p3]
  show own_Comes p e below s _ _ _ (s₁.setTop (mkF m 0 #[.val (.int p0), .val (.int p1), .val (.int p2), .val (.int p3)] []))
  refine own_by (fun _ kS => XS.sipush X0.here hx rfl (hb hby d11_0) kS) ?_
  show own_Comes p e below s _ _ _ (s₁.setTop (mkF m 3 #[.val (.int p0), .val (.int p1), .val (.int p2), .val (.int p3)] [(.int (129 : Int32))]))
  obtain ⟨T116, h116, k116, X116, e116, E116, A116, st116⟩ := newP X0 hx hZ (hw _ (List.mem_of_getElem? (i := 11) rfl)) e0 (g := (mkF m 3 #[.val (.int p0), .val (.int p1), .val (.int p2), .val (.int p3)] [(.int (129 : Int32))])) rfl (hb hby d11_3) rfl (by decide) (cap := 129) (by decide) (by decide) (by decide) (by decide)
  obtain ⟨b116, g116⟩ : ∃ z, z = h0.size := ⟨_, rfl⟩
  rw [← g116] at A116 st116
  have g_b116 : n0 ≤ b116 := Nat.le_trans Z0 (Nat.le_of_eq g116.symm)
  refine own_by st116 ?_
  have V_b116 : Arv Z h116 b116 k116 .char (129 : Int32) (List.replicate 129 (.int (0 : Int32))) (.int (0 : Int32)) := (Arv.new A116 (by decide)).pad (pad_rep [] (.int (0 : Int32)) 129)
  show own_Comes p e below s _ _ _ (T116.setTop (mkF m 5 #[.val (.int p0), .val (.int p1), .val (.int p2), .val (.int p3)] [(.ref b116)]))
  have sz_b116 : h0.size ≤ b116 := Nat.le_of_eq g116.symm
  have V0 : Arv Z h116 b116 k116 .char (Int32.ofNat 129) (own_pre p0 p1 p2 129 0) (.int 0) := by rw [← own_p0]; exact V_b116
  refine own_by (fun _ kS => XS.dup X116.here hx rfl (hb hby d11_5) rfl rfl kS) ?_
  show own_Comes p e below s _ _ _ (T116.setTop (mkF m 6 #[.val (.int p0), .val (.int p1), .val (.int p2), .val (.int p3)] [(.ref b116), (.ref b116)]))
  refine own_by (fun _ kS => XS.iconst X116.here hx rfl (hb hby d11_6) kS) ?_
  show own_Comes p e below s _ _ _ (T116.setTop (mkF m 7 #[.val (.int p0), .val (.int p1), .val (.int p2), .val (.int p3)] [(.int (0 : Int32)), (.ref b116), (.ref b116)]))
  refine own_by (fun _ kS => XS.iloadN X116.here hx rfl (hb hby d11_7) rfl kS) ?_
  show own_Comes p e below s _ _ _ (T116.setTop (mkF m 8 #[.val (.int p0), .val (.int p1), .val (.int p2), .val (.int p3)] [(.int p0), (.int (0 : Int32)), (.ref b116), (.ref b116)]))
  have Vo117 := V0
  obtain ⟨cl117, Ar117, qA117, SA117, NA117, HA117, GA117⟩ := Vo117
  have hin117 : ¬ ((0 : Int32) < 0 ∨ cl117.slots.size ≤ ((0 : Int32)).toNatClampNeg) := own_inb (k := 0) SA117 (by decide) (by decide)
  obtain ⟨T118, h118, X118, e118, W118, st118⟩ := stC X116 hx hZ e116 Ar117 (j := (0 : Int32)) hin117 (g := (mkF m 8 #[.val (.int p0), .val (.int p1), .val (.int p2), .val (.int p3)] [(.int p0), (.int (0 : Int32)), (.ref b116), (.ref b116)])) rfl rfl (hb hby d11_8)
  refine own_by st118 ?_
  have V118 : Arv Z h118 b116 k116 .char (Int32.ofNat 129) ((own_pre p0 p1 p2 129 0).set 0 (.int (nar .char p0))) (.int 0) := Arv.set Ar117 qA117 SA117 NA117 HA117 GA117 (by first | rfl | exact fits_nar_char _) W118 0 rfl (by rw [own_plen]; decide)
  have N118 := Fr.snoc X118 N0 g_b116
  show own_Comes p e below s _ _ _ (T118.setTop (mkF m 9 #[.val (.int p0), .val (.int p1), .val (.int p2), .val (.int p3)] [(.ref b116)]))
  rw [own_nar16 hp0, own_pset (by decide) (by simp)] at V118
  refine own_by (fun _ kS => XS.dup X118.here hx rfl (hb hby d11_9) rfl rfl kS) ?_
  show own_Comes p e below s _ _ _ (T118.setTop (mkF m 10 #[.val (.int p0), .val (.int p1), .val (.int p2), .val (.int p3)] [(.ref b116), (.ref b116)]))
  refine own_by (fun _ kS => XS.iconst X118.here hx rfl (hb hby d11_10) kS) ?_
  show own_Comes p e below s _ _ _ (T118.setTop (mkF m 11 #[.val (.int p0), .val (.int p1), .val (.int p2), .val (.int p3)] [(.int (1 : Int32)), (.ref b116), (.ref b116)]))
  refine own_by (fun _ kS => XS.iloadN X118.here hx rfl (hb hby d11_11) rfl kS) ?_
  show own_Comes p e below s _ _ _ (T118.setTop (mkF m 12 #[.val (.int p0), .val (.int p1), .val (.int p2), .val (.int p3)] [(.int p1), (.int (1 : Int32)), (.ref b116), (.ref b116)]))
  have Vo119 := V118
  obtain ⟨cl119, Ar119, qA119, SA119, NA119, HA119, GA119⟩ := Vo119
  have hin119 : ¬ ((1 : Int32) < 0 ∨ cl119.slots.size ≤ ((1 : Int32)).toNatClampNeg) := own_inb (k := 1) SA119 (by decide) (by decide)
  obtain ⟨T120, h120, X120, e120, W120, st120⟩ := stC X118 hx hZ e118 Ar119 (j := (1 : Int32)) hin119 (g := (mkF m 12 #[.val (.int p0), .val (.int p1), .val (.int p2), .val (.int p3)] [(.int p1), (.int (1 : Int32)), (.ref b116), (.ref b116)])) rfl rfl (hb hby d11_12)
  refine own_by st120 ?_
  have V120 : Arv Z h120 b116 k116 .char (Int32.ofNat 129) ((own_pre p0 p1 p2 129 1).set 1 (.int (nar .char p1))) (.int 0) := Arv.set Ar119 qA119 SA119 NA119 HA119 GA119 (by first | rfl | exact fits_nar_char _) W120 1 rfl (by rw [own_plen]; decide)
  have N120 := Fr.snoc X120 N118 g_b116
  show own_Comes p e below s _ _ _ (T120.setTop (mkF m 13 #[.val (.int p0), .val (.int p1), .val (.int p2), .val (.int p3)] [(.ref b116)]))
  rw [own_nar16 hp1, own_pset (by decide) (by simp)] at V120
  refine own_by (fun _ kS => XS.dup X120.here hx rfl (hb hby d11_13) rfl rfl kS) ?_
  show own_Comes p e below s _ _ _ (T120.setTop (mkF m 14 #[.val (.int p0), .val (.int p1), .val (.int p2), .val (.int p3)] [(.ref b116), (.ref b116)]))
  refine own_by (fun _ kS => XS.iconst X120.here hx rfl (hb hby d11_14) kS) ?_
  show own_Comes p e below s _ _ _ (T120.setTop (mkF m 15 #[.val (.int p0), .val (.int p1), .val (.int p2), .val (.int p3)] [(.int (2 : Int32)), (.ref b116), (.ref b116)]))
  refine own_by (fun _ kS => XS.iloadN X120.here hx rfl (hb hby d11_15) rfl kS) ?_
  show own_Comes p e below s _ _ _ (T120.setTop (mkF m 16 #[.val (.int p0), .val (.int p1), .val (.int p2), .val (.int p3)] [(.int p2), (.int (2 : Int32)), (.ref b116), (.ref b116)]))
  have Vo121 := V120
  obtain ⟨cl121, Ar121, qA121, SA121, NA121, HA121, GA121⟩ := Vo121
  have hin121 : ¬ ((2 : Int32) < 0 ∨ cl121.slots.size ≤ ((2 : Int32)).toNatClampNeg) := own_inb (k := 2) SA121 (by decide) (by decide)
  obtain ⟨T122, h122, X122, e122, W122, st122⟩ := stC X120 hx hZ e120 Ar121 (j := (2 : Int32)) hin121 (g := (mkF m 16 #[.val (.int p0), .val (.int p1), .val (.int p2), .val (.int p3)] [(.int p2), (.int (2 : Int32)), (.ref b116), (.ref b116)])) rfl rfl (hb hby d11_16)
  refine own_by st122 ?_
  have V122 : Arv Z h122 b116 k116 .char (Int32.ofNat 129) ((own_pre p0 p1 p2 129 2).set 2 (.int (nar .char p2))) (.int 0) := Arv.set Ar121 qA121 SA121 NA121 HA121 GA121 (by first | rfl | exact fits_nar_char _) W122 2 rfl (by rw [own_plen]; decide)
  have N122 := Fr.snoc X122 N120 g_b116
  show own_Comes p e below s _ _ _ (T122.setTop (mkF m 17 #[.val (.int p0), .val (.int p1), .val (.int p2), .val (.int p3)] [(.ref b116)]))
  rw [own_nar16 hp2, own_pset (by decide) (by simp)] at V122
  refine own_by (fun _ kS => XS.dup X122.here hx rfl (hb hby d11_17) rfl rfl kS) ?_
  show own_Comes p e below s _ _ _ (T122.setTop (mkF m 18 #[.val (.int p0), .val (.int p1), .val (.int p2), .val (.int p3)] [(.ref b116), (.ref b116)]))
  refine own_by (fun _ kS => XS.iconst X122.here hx rfl (hb hby d11_18) kS) ?_
  show own_Comes p e below s _ _ _ (T122.setTop (mkF m 19 #[.val (.int p0), .val (.int p1), .val (.int p2), .val (.int p3)] [(.int (3 : Int32)), (.ref b116), (.ref b116)]))
  refine own_by (fun _ kS => XS.iloadN X122.here hx rfl (hb hby d11_19) rfl kS) ?_
  show own_Comes p e below s _ _ _ (T122.setTop (mkF m 20 #[.val (.int p0), .val (.int p1), .val (.int p2), .val (.int p3)] [(.int p2), (.int (3 : Int32)), (.ref b116), (.ref b116)]))
  have Vo123 := V122
  obtain ⟨cl123, Ar123, qA123, SA123, NA123, HA123, GA123⟩ := Vo123
  have hin123 : ¬ ((3 : Int32) < 0 ∨ cl123.slots.size ≤ ((3 : Int32)).toNatClampNeg) := own_inb (k := 3) SA123 (by decide) (by decide)
  obtain ⟨T124, h124, X124, e124, W124, st124⟩ := stC X122 hx hZ e122 Ar123 (j := (3 : Int32)) hin123 (g := (mkF m 20 #[.val (.int p0), .val (.int p1), .val (.int p2), .val (.int p3)] [(.int p2), (.int (3 : Int32)), (.ref b116), (.ref b116)])) rfl rfl (hb hby d11_20)
  refine own_by st124 ?_
  have V124 : Arv Z h124 b116 k116 .char (Int32.ofNat 129) ((own_pre p0 p1 p2 129 3).set 3 (.int (nar .char p2))) (.int 0) := Arv.set Ar123 qA123 SA123 NA123 HA123 GA123 (by first | rfl | exact fits_nar_char _) W124 3 rfl (by rw [own_plen]; decide)
  have N124 := Fr.snoc X124 N122 g_b116
  show own_Comes p e below s _ _ _ (T124.setTop (mkF m 21 #[.val (.int p0), .val (.int p1), .val (.int p2), .val (.int p3)] [(.ref b116)]))
  rw [own_nar16 hp2, own_pset (by decide) (by simp)] at V124
  refine own_by (fun _ kS => XS.dup X124.here hx rfl (hb hby d11_21) rfl rfl kS) ?_
  show own_Comes p e below s _ _ _ (T124.setTop (mkF m 22 #[.val (.int p0), .val (.int p1), .val (.int p2), .val (.int p3)] [(.ref b116), (.ref b116)]))
  refine own_by (fun _ kS => XS.iconst X124.here hx rfl (hb hby d11_22) kS) ?_
  show own_Comes p e below s _ _ _ (T124.setTop (mkF m 23 #[.val (.int p0), .val (.int p1), .val (.int p2), .val (.int p3)] [(.int (4 : Int32)), (.ref b116), (.ref b116)]))
  refine own_by (fun _ kS => XS.iloadN X124.here hx rfl (hb hby d11_23) rfl kS) ?_
  show own_Comes p e below s _ _ _ (T124.setTop (mkF m 24 #[.val (.int p0), .val (.int p1), .val (.int p2), .val (.int p3)] [(.int p2), (.int (4 : Int32)), (.ref b116), (.ref b116)]))
  have Vo125 := V124
  obtain ⟨cl125, Ar125, qA125, SA125, NA125, HA125, GA125⟩ := Vo125
  have hin125 : ¬ ((4 : Int32) < 0 ∨ cl125.slots.size ≤ ((4 : Int32)).toNatClampNeg) := own_inb (k := 4) SA125 (by decide) (by decide)
  obtain ⟨T126, h126, X126, e126, W126, st126⟩ := stC X124 hx hZ e124 Ar125 (j := (4 : Int32)) hin125 (g := (mkF m 24 #[.val (.int p0), .val (.int p1), .val (.int p2), .val (.int p3)] [(.int p2), (.int (4 : Int32)), (.ref b116), (.ref b116)])) rfl rfl (hb hby d11_24)
  refine own_by st126 ?_
  have V126 : Arv Z h126 b116 k116 .char (Int32.ofNat 129) ((own_pre p0 p1 p2 129 4).set 4 (.int (nar .char p2))) (.int 0) := Arv.set Ar125 qA125 SA125 NA125 HA125 GA125 (by first | rfl | exact fits_nar_char _) W126 4 rfl (by rw [own_plen]; decide)
  have N126 := Fr.snoc X126 N124 g_b116
  show own_Comes p e below s _ _ _ (T126.setTop (mkF m 25 #[.val (.int p0), .val (.int p1), .val (.int p2), .val (.int p3)] [(.ref b116)]))
  rw [own_nar16 hp2, own_pset (by decide) (by simp)] at V126
  refine own_by (fun _ kS => XS.dup X126.here hx rfl (hb hby d11_25) rfl rfl kS) ?_
  show own_Comes p e below s _ _ _ (T126.setTop (mkF m 26 #[.val (.int p0), .val (.int p1), .val (.int p2), .val (.int p3)] [(.ref b116), (.ref b116)]))
  refine own_by (fun _ kS => XS.iconst X126.here hx rfl (hb hby d11_26) kS) ?_
  show own_Comes p e below s _ _ _ (T126.setTop (mkF m 27 #[.val (.int p0), .val (.int p1), .val (.int p2), .val (.int p3)] [(.int (5 : Int32)), (.ref b116), (.ref b116)]))
  refine own_by (fun _ kS => XS.iloadN X126.here hx rfl (hb hby d11_27) rfl kS) ?_
  show own_Comes p e below s _ _ _ (T126.setTop (mkF m 28 #[.val (.int p0), .val (.int p1), .val (.int p2), .val (.int p3)] [(.int p2), (.int (5 : Int32)), (.ref b116), (.ref b116)]))
  have Vo127 := V126
  obtain ⟨cl127, Ar127, qA127, SA127, NA127, HA127, GA127⟩ := Vo127
  have hin127 : ¬ ((5 : Int32) < 0 ∨ cl127.slots.size ≤ ((5 : Int32)).toNatClampNeg) := own_inb (k := 5) SA127 (by decide) (by decide)
  obtain ⟨T128, h128, X128, e128, W128, st128⟩ := stC X126 hx hZ e126 Ar127 (j := (5 : Int32)) hin127 (g := (mkF m 28 #[.val (.int p0), .val (.int p1), .val (.int p2), .val (.int p3)] [(.int p2), (.int (5 : Int32)), (.ref b116), (.ref b116)])) rfl rfl (hb hby d11_28)
  refine own_by st128 ?_
  have V128 : Arv Z h128 b116 k116 .char (Int32.ofNat 129) ((own_pre p0 p1 p2 129 5).set 5 (.int (nar .char p2))) (.int 0) := Arv.set Ar127 qA127 SA127 NA127 HA127 GA127 (by first | rfl | exact fits_nar_char _) W128 5 rfl (by rw [own_plen]; decide)
  have N128 := Fr.snoc X128 N126 g_b116
  show own_Comes p e below s _ _ _ (T128.setTop (mkF m 29 #[.val (.int p0), .val (.int p1), .val (.int p2), .val (.int p3)] [(.ref b116)]))
  rw [own_nar16 hp2, own_pset (by decide) (by simp)] at V128
  refine own_run (B := 29) (M := 128) (n := 129) (h0 := h0) (n0 := n0) hx hZ hp2 (by decide) (by decide) (by decide) (by decide) (fun j hj => by rw [hby]; exact dr_11 j hj) rfl g_b116 sz_b116 ?_ 122 0 (by decide) _ _ _ X128 e128 N128 ((((((((Keep.refl _ _).ext E116).wr W118 (Or.inr sz_b116)).wr W120 (Or.inr sz_b116)).wr W122 (Or.inr sz_b116)).wr W124 (Or.inr sz_b116)).wr W126 (Or.inr sz_b116)).wr W128 (Or.inr sz_b116)) V128
  intro TR hR LR XR eR NR KR VR
  show own_Comes p e below s _ _ _ (TR.setTop (mkF m 639 #[.val (.int p0), .val (.int p1), .val (.int p2), .val (.int p3)] [(.ref b116)]))
  refine own_by (fun _ kS => XS.dup XR.here hx rfl (hb hby d11_639) rfl rfl kS) ?_
  show own_Comes p e below s _ _ _ (TR.setTop (mkF m 640 #[.val (.int p0), .val (.int p1), .val (.int p2), .val (.int p3)] [(.ref b116), (.ref b116)]))
  refine own_by (fun _ kS => XS.sipush XR.here hx rfl (hb hby d11_640) kS) ?_
  show own_Comes p e below s _ _ _ (TR.setTop (mkF m 643 #[.val (.int p0), .val (.int p1), .val (.int p2), .val (.int p3)] [(.int (128 : Int32)), (.ref b116), (.ref b116)]))
  refine own_by (fun _ kS => XS.iloadN XR.here hx rfl (hb hby d11_643) rfl kS) ?_
  show own_Comes p e below s _ _ _ (TR.setTop (mkF m 644 #[.val (.int p0), .val (.int p1), .val (.int p2), .val (.int p3)] [(.int p3), (.int (128 : Int32)), (.ref b116), (.ref b116)]))
  have Vo129 := VR
  obtain ⟨cl129, Ar129, qA129, SA129, NA129, HA129, GA129⟩ := Vo129
  have hin129 : ¬ ((128 : Int32) < 0 ∨ cl129.slots.size ≤ ((128 : Int32)).toNatClampNeg) := own_inb (k := 128) SA129 (by decide) (by decide)
  obtain ⟨T130, h130, X130, e130, W130, st130⟩ := stC XR hx hZ eR Ar129 (j := (128 : Int32)) hin129 (g := (mkF m 644 #[.val (.int p0), .val (.int p1), .val (.int p2), .val (.int p3)] [(.int p3), (.int (128 : Int32)), (.ref b116), (.ref b116)])) rfl rfl (hb hby d11_644)
  refine own_by st130 ?_
  have V130 : Arv Z h130 b116 k116 .char (Int32.ofNat 129) ((own_pre p0 p1 p2 129 128).set 128 (.int (nar .char p3))) (.int 0) := Arv.set Ar129 qA129 SA129 NA129 HA129 GA129 (by first | rfl | exact fits_nar_char _) W130 128 rfl (by rw [own_plen]; decide)
  have N130 := Fr.snoc X130 NR g_b116
  show own_Comes p e below s _ _ _ (T130.setTop (mkF m 645 #[.val (.int p0), .val (.int p1), .val (.int p2), .val (.int p3)] [(.ref b116)]))
  rw [own_nar16 hp3, own_pfin (by decide)] at V130
  refine own_ret X130 (v := some (.ref b116)) (fun h => by rw [Bd.returns] at h; cases h) Bd.notSynchronized (by decide) (by decide) ?_ (fun fs hr => own_reta X130 hx Bd.returns rfl rfl (hb hby d11_645) hr)
  rw [e130]; exact ⟨_, _, rfl, N130, own_ext (KR.wr W130 (Or.inr sz_b116)), g_b116, sz_b116, by rw [own_clen]; exact V130⟩
def Q20 (Z : State) (r0 r1 : Addr) (cd : Int32) (h0 : Heap) (n0 : Nat) (v : Option Value) (h : Heap) (L : List Loc) : Prop := v = none ∧ Fr n0 L ∧ Keep h0 h [r0] ∧ Fld Z h r0 "java/lang/String" "value" "[B" (.ref r1) ∧ Fld Z h r0 "java/lang/String" "coder" "B" (.int cd)
theorem ef_rm20l (m : MethodId) (x0 : Addr) (x1 : Addr) (x2 : Int32) : entryFrame m #[(.ref x0), (.ref x1), (.int x2)] 3 = mkF m 0 #[.val (.ref x0), .val (.ref x1), .val (.int x2)] [] := by first | (simp [entryFrame, mkF, argsToLocals, Value.category]; done) | rfl
theorem d20_0 : decode jdk_42_method_151_code 0 = .ok (.aload_n 0, 1) := by decide +kernel
theorem d20_1 : decode jdk_42_method_151_code 1 = .ok (.invokespecial 1, 3) := by decide +kernel
theorem d20_4 : decode jdk_42_method_151_code 4 = .ok (.aload_n 0, 1) := by decide +kernel
theorem d20_5 : decode jdk_42_method_151_code 5 = .ok (.aload_n 1, 1) := by decide +kernel
theorem d20_6 : decode jdk_42_method_151_code 6 = .ok (.putfield 9, 3) := by decide +kernel
theorem d20_9 : decode jdk_42_method_151_code 9 = .ok (.aload_n 0, 1) := by decide +kernel
theorem d20_10 : decode jdk_42_method_151_code 10 = .ok (.iload_n 2, 1) := by decide +kernel
theorem d20_11 : decode jdk_42_method_151_code 11 = .ok (.putfield 15, 3) := by decide +kernel
theorem d20_14 : decode jdk_42_method_151_code 14 = .ok (.return_, 1) := by decide +kernel
set_option maxRecDepth 65536 in
set_option maxHeartbeats 40000000 in
theorem rm20l (l : Launch) (Z : State) (a0 : Array Value) (hw : ∀ d ∈ tables_1, d.before a0 Z = true) (ws : List Jvm.Cond) (r0 r1 : Addr) (h0 : Heap) (n0 : Nat) (Z0 : n0 ≤ h0.size) (Et : Exa Z h0 r0 "java/lang/String") (Fv : Fld Z h0 r0 "java/lang/String" "value" "[B" .null) (Fc : Fld Z h0 r0 "java/lang/String" "coder" "B" (.int (0 : Int32))) (g_r0 : n0 ≤ r0) :
    MetFree l (⟨"java/lang/String", "<init>", "([BB)V"⟩ : MethodName) (head1 (Jvm.Cond.code (⟨"java/lang/String", "<init>", "([BB)V"⟩ : MethodName) jdk_42_method_151_code 3 none :: ws) ({ frames := 1, cells := 0, slots := 0, locals := 12 } : Room)) (fun aX UX => aX = #[(.ref r0), (.ref r1), (.int (0 : Int32))] ∧ Z.Warmed39 UX.vm ∧ UX.heap = h0) (fun _ _ _ _ _ => True) (fun _ UX oX UX' => ∃ vX LX, oX = .returned vX ∧ Q20 Z r0 r1 (0 : Int32) h0 n0 vX UX'.heap LX ∧ FrameEnd UX oX UX' LX ({ frames := 1, cells := 0, slots := 0, locals := 12 } : Room).cells ({ frames := 1, cells := 0, slots := 0, locals := 12 } : Room).slots) := by
  refine MetFree.of_bodySF (plainFor_of_name pn_java_lang_String) hisR ?_
  intro p e s m args below meth c s₁ Bd hml0 hP hK
  obtain ⟨rfl, hZ, hh⟩ := hP
  have hx := Bd.exec
  have hby := Bd.bytes
  have hml : c.maxLocals = 3 := hml0
  have hown : s.vm.findClass "java/lang/String" = some m.cls := findClass_of_methodNamed Bd.named
  have hnm := (name_of_methodNamed Bd.named Bd.method).1
  have X0 : Stand p l e ({ frames := 1, cells := 0, slots := 0, locals := 12 } : Room) s m #[(.ref r0), (.ref r1), (.int (0 : Int32))] below meth c s₁ [] 0 0 := Stand.of_body Bd
  have e0 : s₁.heap = h0 := by rw [← hh, Bd.state]; rfl
  have N0 := Fr.nil n0
  show own_Comes p e below s ({ frames := 1, cells := 0, slots := 0, locals := 12 } : Room).cells ({ frames := 1, cells := 0, slots := 0, locals := 12 } : Room).slots (Q20 Z r0 r1 (0 : Int32) h0 n0) _
  rw [show entryFrame m #[(.ref r0), (.ref r1), (.int (0 : Int32))] 3 = mkF m 0 #[.val (.ref r0), .val (.ref r1), .val (.int (0 : Int32))] [] from ef_rm20l m r0 r1 (0 : Int32)]
  show own_Comes p e below s _ _ _ (s₁.setTop (mkF m 0 #[.val (.ref r0), .val (.ref r1), .val (.int (0 : Int32))] []))
  refine own_by (fun _ kS => XS.aloadN X0.here hx rfl (hb hby d20_0) rfl rfl kS) ?_
  show own_Comes p e below s _ _ _ (s₁.setTop (mkF m 1 #[.val (.ref r0), .val (.ref r1), .val (.int (0 : Int32))] [(.ref r0)]))
  obtain ⟨T131, X131, e131, st131⟩ := initO X0 hx hZ hown (hw _ (List.mem_of_getElem? (i := 19) rfl)) (hw _ (List.mem_of_getElem? (i := 20) rfl)) (hw _ (List.mem_of_getElem? (i := 21) rfl)) e0 (g := (mkF m 1 #[.val (.ref r0), .val (.ref r1), .val (.int (0 : Int32))] [(.ref r0)])) rfl (by rw [hml]; rfl) rfl (hb hby d20_1) (by decide) (W := 0) (by show 2 * 0 + _ ≤ _; exact Nat.le_of_eq rfl) (by decide)
  refine own_by st131 ?_
  show own_Comes p e below s _ _ _ (T131.setTop (mkF m 4 #[.val (.ref r0), .val (.ref r1), .val (.int (0 : Int32))] []))
  refine own_by (fun _ kS => XS.aloadN X131.here hx rfl (hb hby d20_4) rfl rfl kS) ?_
  show own_Comes p e below s _ _ _ (T131.setTop (mkF m 5 #[.val (.ref r0), .val (.ref r1), .val (.int (0 : Int32))] [(.ref r0)]))
  refine own_by (fun _ kS => XS.aloadN X131.here hx rfl (hb hby d20_5) rfl rfl kS) ?_
  show own_Comes p e below s _ _ _ (T131.setTop (mkF m 6 #[.val (.ref r0), .val (.ref r1), .val (.int (0 : Int32))] [(.ref r1), (.ref r0)]))
  obtain ⟨T132, h132, X132, e132, W132, st132⟩ := putF X131 hx hZ hown (host := "") (Or.inl (hw _ (List.mem_of_getElem? (i := 36) rfl))) Via.refl e131 Fv Et (Or.inr ⟨(hw _ (List.mem_of_getElem? (i := 37) rfl)), rfl, hnm⟩) (hw _ (List.mem_of_getElem? (i := 9) rfl)) (ty := (.array .byte)) (by decide) rfl rfl (g := (mkF m 6 #[.val (.ref r0), .val (.ref r1), .val (.int (0 : Int32))] [(.ref r1), (.ref r0)])) rfl rfl (hb hby d20_6)
  refine own_by st132 ?_
  have Fw132 := Fv.same W132
  have N132 := Fr.snoc X132 N0 g_r0
  show own_Comes p e below s _ _ _ (T132.setTop (mkF m 9 #[.val (.ref r0), .val (.ref r1), .val (.int (0 : Int32))] []))
  refine own_by (fun _ kS => XS.aloadN X132.here hx rfl (hb hby d20_9) rfl rfl kS) ?_
  show own_Comes p e below s _ _ _ (T132.setTop (mkF m 10 #[.val (.ref r0), .val (.ref r1), .val (.int (0 : Int32))] [(.ref r0)]))
  refine own_by (fun _ kS => XS.iloadN X132.here hx rfl (hb hby d20_10) rfl kS) ?_
  show own_Comes p e below s _ _ _ (T132.setTop (mkF m 11 #[.val (.ref r0), .val (.ref r1), .val (.int (0 : Int32))] [(.int (0 : Int32)), (.ref r0)]))
  have c133 := (Fc.other W132 (Or.inr (slot_ne (Or.inr (hw _ (List.mem_of_getElem? (i := 35) rfl))) (Or.inr (hw _ (List.mem_of_getElem? (i := 37) rfl))) (by decide) (t := .byte) (t' := (.array .byte)) (by decide) (by decide))))
  obtain ⟨T134, h134, X134, e134, W134, st134⟩ := putFN X132 hx hZ hown (hw _ (List.mem_of_getElem? (i := 34) rfl)) Via.refl e132 c133 (Et.wr W132) (Or.inr ⟨(hw _ (List.mem_of_getElem? (i := 35) rfl)), rfl, hnm⟩) (hw _ (List.mem_of_getElem? (i := 9) rfl)) (ty := .byte) (v' := (.int (0 : Int32))) (by decide) rfl (by first | rfl | decide | exact fits_nar_byte _) (g := (mkF m 11 #[.val (.ref r0), .val (.ref r1), .val (.int (0 : Int32))] [(.int (0 : Int32)), (.ref r0)])) rfl rfl (hb hby d20_11)
  refine own_by st134 ?_
  have Fw134 := c133.same W134
  have N134 := Fr.snoc X134 N132 g_r0
  show own_Comes p e below s _ _ _ (T134.setTop (mkF m 14 #[.val (.ref r0), .val (.ref r1), .val (.int (0 : Int32))] []))
  have c135 := (Fw132.other W134 (Or.inr (slot_ne (Or.inr (hw _ (List.mem_of_getElem? (i := 37) rfl))) (Or.inr (hw _ (List.mem_of_getElem? (i := 35) rfl))) (by decide) (t := (.array .byte)) (t' := .byte) (by decide) (by decide))))
  refine own_ret X134 (v := none) (fun _ => rfl) Bd.notSynchronized (by decide) (by decide) ?_ (fun fs hr => X134.returnOut hx Bd.returns (hb hby d20_14) hr)
  rw [e134]; exact ⟨rfl, N134, (((Keep.refl _ _).wr W132 (Or.inl (List.mem_of_getElem? (i := 0) rfl))).wr W134 (Or.inl (List.mem_of_getElem? (i := 0) rfl))), c135, Fw134⟩
theorem ef_rm20u (m : MethodId) (x0 : Addr) (x1 : Addr) (x2 : Int32) : entryFrame m #[(.ref x0), (.ref x1), (.int x2)] 3 = mkF m 0 #[.val (.ref x0), .val (.ref x1), .val (.int x2)] [] := by first | (simp [entryFrame, mkF, argsToLocals, Value.category]; done) | rfl
set_option maxRecDepth 65536 in
set_option maxHeartbeats 40000000 in
theorem rm20u (l : Launch) (Z : State) (a0 : Array Value) (hw : ∀ d ∈ tables_1, d.before a0 Z = true) (ws : List Jvm.Cond) (r0 r1 : Addr) (h0 : Heap) (n0 : Nat) (Z0 : n0 ≤ h0.size) (Et : Exa Z h0 r0 "java/lang/String") (Fv : Fld Z h0 r0 "java/lang/String" "value" "[B" .null) (Fc : Fld Z h0 r0 "java/lang/String" "coder" "B" (.int (0 : Int32))) (g_r0 : n0 ≤ r0) :
    MetFree l (⟨"java/lang/String", "<init>", "([BB)V"⟩ : MethodName) (head1 (Jvm.Cond.code (⟨"java/lang/String", "<init>", "([BB)V"⟩ : MethodName) jdk_42_method_151_code 3 none :: ws) ({ frames := 1, cells := 0, slots := 0, locals := 12 } : Room)) (fun aX UX => aX = #[(.ref r0), (.ref r1), (.int (1 : Int32))] ∧ Z.Warmed39 UX.vm ∧ UX.heap = h0) (fun _ _ _ _ _ => True) (fun _ UX oX UX' => ∃ vX LX, oX = .returned vX ∧ Q20 Z r0 r1 (1 : Int32) h0 n0 vX UX'.heap LX ∧ FrameEnd UX oX UX' LX ({ frames := 1, cells := 0, slots := 0, locals := 12 } : Room).cells ({ frames := 1, cells := 0, slots := 0, locals := 12 } : Room).slots) := by
  refine MetFree.of_bodySF (plainFor_of_name pn_java_lang_String) hisR ?_
  intro p e s m args below meth c s₁ Bd hml0 hP hK
  obtain ⟨rfl, hZ, hh⟩ := hP
  have hx := Bd.exec
  have hby := Bd.bytes
  have hml : c.maxLocals = 3 := hml0
  have hown : s.vm.findClass "java/lang/String" = some m.cls := findClass_of_methodNamed Bd.named
  have hnm := (name_of_methodNamed Bd.named Bd.method).1
  have X0 : Stand p l e ({ frames := 1, cells := 0, slots := 0, locals := 12 } : Room) s m #[(.ref r0), (.ref r1), (.int (1 : Int32))] below meth c s₁ [] 0 0 := Stand.of_body Bd
  have e0 : s₁.heap = h0 := by rw [← hh, Bd.state]; rfl
  have N0 := Fr.nil n0
  show own_Comes p e below s ({ frames := 1, cells := 0, slots := 0, locals := 12 } : Room).cells ({ frames := 1, cells := 0, slots := 0, locals := 12 } : Room).slots (Q20 Z r0 r1 (1 : Int32) h0 n0) _
  rw [show entryFrame m #[(.ref r0), (.ref r1), (.int (1 : Int32))] 3 = mkF m 0 #[.val (.ref r0), .val (.ref r1), .val (.int (1 : Int32))] [] from ef_rm20u m r0 r1 (1 : Int32)]
  show own_Comes p e below s _ _ _ (s₁.setTop (mkF m 0 #[.val (.ref r0), .val (.ref r1), .val (.int (1 : Int32))] []))
  refine own_by (fun _ kS => XS.aloadN X0.here hx rfl (hb hby d20_0) rfl rfl kS) ?_
  show own_Comes p e below s _ _ _ (s₁.setTop (mkF m 1 #[.val (.ref r0), .val (.ref r1), .val (.int (1 : Int32))] [(.ref r0)]))
  obtain ⟨T136, X136, e136, st136⟩ := initO X0 hx hZ hown (hw _ (List.mem_of_getElem? (i := 19) rfl)) (hw _ (List.mem_of_getElem? (i := 20) rfl)) (hw _ (List.mem_of_getElem? (i := 21) rfl)) e0 (g := (mkF m 1 #[.val (.ref r0), .val (.ref r1), .val (.int (1 : Int32))] [(.ref r0)])) rfl (by rw [hml]; rfl) rfl (hb hby d20_1) (by decide) (W := 0) (by show 2 * 0 + _ ≤ _; exact Nat.le_of_eq rfl) (by decide)
  refine own_by st136 ?_
  show own_Comes p e below s _ _ _ (T136.setTop (mkF m 4 #[.val (.ref r0), .val (.ref r1), .val (.int (1 : Int32))] []))
  refine own_by (fun _ kS => XS.aloadN X136.here hx rfl (hb hby d20_4) rfl rfl kS) ?_
  show own_Comes p e below s _ _ _ (T136.setTop (mkF m 5 #[.val (.ref r0), .val (.ref r1), .val (.int (1 : Int32))] [(.ref r0)]))
  refine own_by (fun _ kS => XS.aloadN X136.here hx rfl (hb hby d20_5) rfl rfl kS) ?_
  show own_Comes p e below s _ _ _ (T136.setTop (mkF m 6 #[.val (.ref r0), .val (.ref r1), .val (.int (1 : Int32))] [(.ref r1), (.ref r0)]))
  obtain ⟨T137, h137, X137, e137, W137, st137⟩ := putF X136 hx hZ hown (host := "") (Or.inl (hw _ (List.mem_of_getElem? (i := 36) rfl))) Via.refl e136 Fv Et (Or.inr ⟨(hw _ (List.mem_of_getElem? (i := 37) rfl)), rfl, hnm⟩) (hw _ (List.mem_of_getElem? (i := 9) rfl)) (ty := (.array .byte)) (by decide) rfl rfl (g := (mkF m 6 #[.val (.ref r0), .val (.ref r1), .val (.int (1 : Int32))] [(.ref r1), (.ref r0)])) rfl rfl (hb hby d20_6)
  refine own_by st137 ?_
  have Fw137 := Fv.same W137
  have N137 := Fr.snoc X137 N0 g_r0
  show own_Comes p e below s _ _ _ (T137.setTop (mkF m 9 #[.val (.ref r0), .val (.ref r1), .val (.int (1 : Int32))] []))
  refine own_by (fun _ kS => XS.aloadN X137.here hx rfl (hb hby d20_9) rfl rfl kS) ?_
  show own_Comes p e below s _ _ _ (T137.setTop (mkF m 10 #[.val (.ref r0), .val (.ref r1), .val (.int (1 : Int32))] [(.ref r0)]))
  refine own_by (fun _ kS => XS.iloadN X137.here hx rfl (hb hby d20_10) rfl kS) ?_
  show own_Comes p e below s _ _ _ (T137.setTop (mkF m 11 #[.val (.ref r0), .val (.ref r1), .val (.int (1 : Int32))] [(.int (1 : Int32)), (.ref r0)]))
  have c138 := (Fc.other W137 (Or.inr (slot_ne (Or.inr (hw _ (List.mem_of_getElem? (i := 35) rfl))) (Or.inr (hw _ (List.mem_of_getElem? (i := 37) rfl))) (by decide) (t := .byte) (t' := (.array .byte)) (by decide) (by decide))))
  obtain ⟨T139, h139, X139, e139, W139, st139⟩ := putFN X137 hx hZ hown (hw _ (List.mem_of_getElem? (i := 34) rfl)) Via.refl e137 c138 (Et.wr W137) (Or.inr ⟨(hw _ (List.mem_of_getElem? (i := 35) rfl)), rfl, hnm⟩) (hw _ (List.mem_of_getElem? (i := 9) rfl)) (ty := .byte) (v' := (.int (1 : Int32))) (by decide) rfl (by first | rfl | decide | exact fits_nar_byte _) (g := (mkF m 11 #[.val (.ref r0), .val (.ref r1), .val (.int (1 : Int32))] [(.int (1 : Int32)), (.ref r0)])) rfl rfl (hb hby d20_11)
  refine own_by st139 ?_
  have Fw139 := c138.same W139
  have N139 := Fr.snoc X139 N137 g_r0
  show own_Comes p e below s _ _ _ (T139.setTop (mkF m 14 #[.val (.ref r0), .val (.ref r1), .val (.int (1 : Int32))] []))
  have c140 := (Fw137.other W139 (Or.inr (slot_ne (Or.inr (hw _ (List.mem_of_getElem? (i := 37) rfl))) (Or.inr (hw _ (List.mem_of_getElem? (i := 35) rfl))) (by decide) (t := (.array .byte)) (t' := .byte) (by decide) (by decide))))
  refine own_ret X139 (v := none) (fun _ => rfl) Bd.notSynchronized (by decide) (by decide) ?_ (fun fs hr => X139.returnOut hx Bd.returns (hb hby d20_14) hr)
  rw [e139]; exact ⟨rfl, N139, (((Keep.refl _ _).wr W137 (Or.inl (List.mem_of_getElem? (i := 0) rfl))).wr W139 (Or.inl (List.mem_of_getElem? (i := 0) rfl))), c140, Fw139⟩
def Q18 (Z : State) (p0 : Int32) (h0 : Heap) (n0 : Nat) (v : Option Value) (h : Heap) (L : List Loc) : Prop := ∃ z : Int32, v = some (.int z) ∧ Fr n0 L ∧ h = h0 ∧ ((z = 1 ∧ ¬ (255 : Int32) < p0) ∨ (z = 0 ∧ (255 : Int32) < p0))
theorem ef_rm18 (m : MethodId) (x0 : Int32) : entryFrame m #[(.int x0)] 1 = mkF m 0 #[.val (.int x0)] [] := by first | (simp [entryFrame, mkF, argsToLocals, Value.category]; done) | rfl
theorem d18_0 : decode jdk_43_method_3_code 0 = .ok (.iload_n 0, 1) := by decide +kernel
theorem d18_1 : decode jdk_43_method_3_code 1 = .ok (.sipush 255, 3) := by decide +kernel
theorem d18_4 : decode jdk_43_method_3_code 4 = .ok (.if_icmp .gt 7, 3) := by decide +kernel
theorem d18_11 : decode jdk_43_method_3_code 11 = .ok (.iconst 0, 1) := by decide +kernel
theorem d18_12 : decode jdk_43_method_3_code 12 = .ok (.ireturn, 1) := by decide +kernel
theorem d18_7 : decode jdk_43_method_3_code 7 = .ok (.iconst 1, 1) := by decide +kernel
theorem d18_8 : decode jdk_43_method_3_code 8 = .ok (.goto 4, 3) := by decide +kernel
set_option maxRecDepth 65536 in
set_option maxHeartbeats 40000000 in
theorem rm18 (l : Launch) (Z : State) (a0 : Array Value) (hw : ∀ d ∈ tables_1, d.before a0 Z = true) (ws : List Jvm.Cond) (p0 : Int32) (h0 : Heap) (n0 : Nat) (Z0 : n0 ≤ h0.size) :
    MetFree l (⟨"java/lang/StringLatin1", "canEncode", "(C)Z"⟩ : MethodName) (head1 (Jvm.Cond.code (⟨"java/lang/StringLatin1", "canEncode", "(C)Z"⟩ : MethodName) jdk_43_method_3_code 1 (some .boolean) :: ws) ({ frames := 0, cells := 0, slots := 0, locals := 0 } : Room)) (fun aX UX => aX = #[(.int p0)] ∧ Z.Warmed39 UX.vm ∧ UX.heap = h0) (fun _ _ _ _ _ => True) (fun _ UX oX UX' => ∃ vX LX, oX = .returned vX ∧ Q18 Z p0 h0 n0 vX UX'.heap LX ∧ FrameEnd UX oX UX' LX ({ frames := 0, cells := 0, slots := 0, locals := 0 } : Room).cells ({ frames := 0, cells := 0, slots := 0, locals := 0 } : Room).slots) := by
  refine MetFree.of_bodySF (plainFor_of_name pn_java_lang_StringLatin1) hisR ?_
  intro p e s m args below meth c s₁ Bd hml0 hP hK
  obtain ⟨rfl, hZ, hh⟩ := hP
  have hx := Bd.exec
  have hby := Bd.bytes
  have hml : c.maxLocals = 1 := hml0
  have hown : s.vm.findClass "java/lang/StringLatin1" = some m.cls := findClass_of_methodNamed Bd.named
  have hnm := (name_of_methodNamed Bd.named Bd.method).1
  have X0 : Stand p l e ({ frames := 0, cells := 0, slots := 0, locals := 0 } : Room) s m #[(.int p0)] below meth c s₁ [] 0 0 := Stand.of_body Bd
  have e0 : s₁.heap = h0 := by rw [← hh, Bd.state]; rfl
  have N0 := Fr.nil n0
  show own_Comes p e below s ({ frames := 0, cells := 0, slots := 0, locals := 0 } : Room).cells ({ frames := 0, cells := 0, slots := 0, locals := 0 } : Room).slots (Q18 Z p0 h0 n0) _
  rw [show entryFrame m #[(.int p0)] 1 = mkF m 0 #[.val (.int p0)] [] from ef_rm18 m p0]
  show own_Comes p e below s _ _ _ (s₁.setTop (mkF m 0 #[.val (.int p0)] []))
  refine own_by (fun _ kS => XS.iloadN X0.here hx rfl (hb hby d18_0) rfl kS) ?_
  show own_Comes p e below s _ _ _ (s₁.setTop (mkF m 1 #[.val (.int p0)] [(.int p0)]))
  refine own_by (fun _ kS => XS.sipush X0.here hx rfl (hb hby d18_1) kS) ?_
  show own_Comes p e below s _ _ _ (s₁.setTop (mkF m 4 #[.val (.int p0)] [(.int (255 : Int32)), (.int p0)]))
  by_cases h1 : (255 : Int32) < p0
  · refine own_by (fun _ kS => XS.icmpYes X0.here hx rfl (pc0 := 4) (pc' := 11) rfl (hb hby d18_4) rfl (tlt h1).2.2.1 (by decide) (by decide) kS) ?_
    show own_Comes p e below s _ _ _ (s₁.setTop (mkF m 11 #[.val (.int p0)] []))
    refine own_by (fun _ kS => XS.iconst X0.here hx rfl (hb hby d18_11) kS) ?_
    show own_Comes p e below s _ _ _ (s₁.setTop (mkF m 12 #[.val (.int p0)] [(.int (0 : Int32))]))
    refine own_ret X0 (v := some (.int (0 : Int32))) (fun h => by rw [Bd.returns] at h; cases h) Bd.notSynchronized (by decide) (by decide) ?_ (fun fs hr => retN X0 hx (t := .boolean) Bd.returns (by simp) (hb hby d18_12) hr)
    rw [e0]; exact ⟨_, rfl, N0, rfl, Or.inr ⟨rfl, h1⟩⟩
  · refine own_by (fun _ kS => XS.icmpNo X0.here hx rfl (hb hby d18_4) rfl (flt h1).2.2.1 kS) ?_
    show own_Comes p e below s _ _ _ (s₁.setTop (mkF m 7 #[.val (.int p0)] []))
    refine own_by (fun _ kS => XS.iconst X0.here hx rfl (hb hby d18_7) kS) ?_
    show own_Comes p e below s _ _ _ (s₁.setTop (mkF m 8 #[.val (.int p0)] [(.int (1 : Int32))]))
    refine own_by (fun _ kS => XS.goto X0.here hx rfl (pc0 := 8) (pc' := 12) rfl (hb hby d18_8) (by decide) (by decide) kS) ?_
    show own_Comes p e below s _ _ _ (s₁.setTop (mkF m 12 #[.val (.int p0)] [(.int (1 : Int32))]))
    refine own_ret X0 (v := some (.int (1 : Int32))) (fun h => by rw [Bd.returns] at h; cases h) Bd.notSynchronized (by decide) (by decide) ?_ (fun fs hr => retN X0 hx (t := .boolean) Bd.returns (by simp) (hb hby d18_12) hr)
    rw [e0]; exact ⟨_, rfl, N0, rfl, Or.inl ⟨rfl, h1⟩⟩
def Q21 (Z : State) (p0 : Int32) (h0 : Heap) (n0 : Nat) (v : Option Value) (h : Heap) (L : List Loc) : Prop := ∃ (a : Addr) (kb : ClassId), v = some (.ref a) ∧ Fr n0 L ∧ Ext h0 h ∧ h0.size ≤ a ∧ Arv Z h a kb .byte (Int32.ofNat [p0].length) ([p0].map fun c => Value.int (StrChars.lo8 c)) (.int 0)
theorem ef_rm21 (m : MethodId) (x0 : Int32) : entryFrame m #[(.int x0)] 1 = mkF m 0 #[.val (.int x0)] [] := by first | (simp [entryFrame, mkF, argsToLocals, Value.category]; done) | rfl
theorem d21_0 : decode jdk_43_method_46_code 0 = .ok (.iconst 1, 1) := by decide +kernel
theorem d21_1 : decode jdk_43_method_46_code 1 = .ok (.newarray .byte, 2) := by decide +kernel
theorem d21_3 : decode jdk_43_method_46_code 3 = .ok (.dup, 1) := by decide +kernel
theorem d21_4 : decode jdk_43_method_46_code 4 = .ok (.iconst 0, 1) := by decide +kernel
theorem d21_5 : decode jdk_43_method_46_code 5 = .ok (.iload_n 0, 1) := by decide +kernel
theorem d21_6 : decode jdk_43_method_46_code 6 = .ok (.i2b, 1) := by decide +kernel
theorem d21_7 : decode jdk_43_method_46_code 7 = .ok (.bastore, 1) := by decide +kernel
theorem d21_8 : decode jdk_43_method_46_code 8 = .ok (.areturn, 1) := by decide +kernel
set_option maxRecDepth 65536 in
set_option maxHeartbeats 40000000 in
theorem rm21 (l : Launch) (Z : State) (a0 : Array Value) (hw : ∀ d ∈ tables_1, d.before a0 Z = true) (ws : List Jvm.Cond) (p0 : Int32) (h0 : Heap) (n0 : Nat) (Z0 : n0 ≤ h0.size) :
    MetFree l (⟨"java/lang/StringLatin1", "toBytes", "(C)[B"⟩ : MethodName) (head1 (Jvm.Cond.code (⟨"java/lang/StringLatin1", "toBytes", "(C)[B"⟩ : MethodName) jdk_43_method_46_code 1 (some (.array .byte)) :: ws) ({ frames := 0, cells := 1, slots := 1, locals := 0 } : Room)) (fun aX UX => aX = #[(.int p0)] ∧ Z.Warmed39 UX.vm ∧ UX.heap = h0) (fun _ _ _ _ _ => True) (fun _ UX oX UX' => ∃ vX LX, oX = .returned vX ∧ Q21 Z p0 h0 n0 vX UX'.heap LX ∧ FrameEnd UX oX UX' LX ({ frames := 0, cells := 1, slots := 1, locals := 0 } : Room).cells ({ frames := 0, cells := 1, slots := 1, locals := 0 } : Room).slots) := by
  refine MetFree.of_bodySF (plainFor_of_name pn_java_lang_StringLatin1) hisR ?_
  intro p e s m args below meth c s₁ Bd hml0 hP hK
  obtain ⟨rfl, hZ, hh⟩ := hP
  have hx := Bd.exec
  have hby := Bd.bytes
  have hml : c.maxLocals = 1 := hml0
  have hown : s.vm.findClass "java/lang/StringLatin1" = some m.cls := findClass_of_methodNamed Bd.named
  have hnm := (name_of_methodNamed Bd.named Bd.method).1
  have X0 : Stand p l e ({ frames := 0, cells := 1, slots := 1, locals := 0 } : Room) s m #[(.int p0)] below meth c s₁ [] 0 0 := Stand.of_body Bd
  have e0 : s₁.heap = h0 := by rw [← hh, Bd.state]; rfl
  have N0 := Fr.nil n0
  show own_Comes p e below s ({ frames := 0, cells := 1, slots := 1, locals := 0 } : Room).cells ({ frames := 0, cells := 1, slots := 1, locals := 0 } : Room).slots (Q21 Z p0 h0 n0) _
  rw [show entryFrame m #[(.int p0)] 1 = mkF m 0 #[.val (.int p0)] [] from ef_rm21 m p0]
  show own_Comes p e below s _ _ _ (s₁.setTop (mkF m 0 #[.val (.int p0)] []))
  refine own_by (fun _ kS => XS.iconst X0.here hx rfl (hb hby d21_0) kS) ?_
  show own_Comes p e below s _ _ _ (s₁.setTop (mkF m 1 #[.val (.int p0)] [(.int (1 : Int32))]))
  obtain ⟨T141, h141, k141, X141, e141, E141, A141, st141⟩ := newP X0 hx hZ (hw _ (List.mem_of_getElem? (i := 27) rfl)) e0 (g := (mkF m 1 #[.val (.int p0)] [(.int (1 : Int32))])) rfl (hb hby d21_1) rfl (by decide) (cap := 1) (by decide) (by decide) (by decide) (by decide)
  obtain ⟨b141, g141⟩ : ∃ z, z = h0.size := ⟨_, rfl⟩
  rw [← g141] at A141 st141
  have g_b141 : n0 ≤ b141 := Nat.le_trans Z0 (Nat.le_of_eq g141.symm)
  refine own_by st141 ?_
  have V_b141 : Arv Z h141 b141 k141 .byte (1 : Int32) [(.int (0 : Int32))] (.int (0 : Int32)) := (Arv.new A141 (by decide)).pad (pad_rep [] (.int (0 : Int32)) 1)
  show own_Comes p e below s _ _ _ (T141.setTop (mkF m 3 #[.val (.int p0)] [(.ref b141)]))
  have sz_b141 : h0.size ≤ b141 := Nat.le_of_eq g141.symm
  refine own_by (fun _ kS => XS.dup X141.here hx rfl (hb hby d21_3) rfl rfl kS) ?_
  show own_Comes p e below s _ _ _ (T141.setTop (mkF m 4 #[.val (.int p0)] [(.ref b141), (.ref b141)]))
  refine own_by (fun _ kS => XS.iconst X141.here hx rfl (hb hby d21_4) kS) ?_
  show own_Comes p e below s _ _ _ (T141.setTop (mkF m 5 #[.val (.int p0)] [(.int (0 : Int32)), (.ref b141), (.ref b141)]))
  refine own_by (fun _ kS => XS.iloadN X141.here hx rfl (hb hby d21_5) rfl kS) ?_
  show own_Comes p e below s _ _ _ (T141.setTop (mkF m 6 #[.val (.int p0)] [(.int p0), (.int (0 : Int32)), (.ref b141), (.ref b141)]))
  refine own_by (fun _ kS => XS.i2b X141.here hx rfl (hb hby d21_6) rfl kS) ?_
  show own_Comes p e below s _ _ _ (T141.setTop (mkF m 7 #[.val (.int p0)] [(.int (p0.toInt8.toInt32)), (.int (0 : Int32)), (.ref b141), (.ref b141)]))
  have Vo142 := V_b141
  obtain ⟨cl142, Ar142, qA142, SA142, NA142, HA142, GA142⟩ := Vo142
  have hin142 : ¬ ((0 : Int32) < 0 ∨ cl142.slots.size ≤ ((0 : Int32)).toNatClampNeg) := inb_of SA142 ⟨by decide, by decide⟩
  obtain ⟨T143, h143, X143, e143, W143, st143⟩ := stB X141 hx hZ e141 Ar142 (j := (0 : Int32)) hin142 (g := (mkF m 7 #[.val (.int p0)] [(.int (p0.toInt8.toInt32)), (.int (0 : Int32)), (.ref b141), (.ref b141)])) rfl rfl (hb hby d21_7)
  refine own_by st143 ?_
  have V143 : Arv Z h143 b141 k141 .byte (1 : Int32) [(.int (p0.toInt8.toInt32.toInt8.toInt32))] (.int (0 : Int32)) := Arv.set Ar142 qA142 SA142 NA142 HA142 GA142 (by first | rfl | exact fits_nar_byte _) W143 0 rfl (Nat.le_of_ble_eq_true rfl)
  have N143 := Fr.snoc X143 N0 g_b141
  show own_Comes p e below s _ _ _ (T143.setTop (mkF m 8 #[.val (.int p0)] [(.ref b141)]))
  rw [own_sfx] at V143
  refine own_ret X143 (v := some (.ref b141)) (fun h => by rw [Bd.returns] at h; cases h) Bd.notSynchronized (by decide) (by decide) ?_ (fun fs hr => own_reta X143 hx Bd.returns rfl rfl (hb hby d21_8) hr)
  rw [e143]; exact ⟨_, _, rfl, N143, own_ext (((Keep.refl _ _).ext E141).wr W143 (Or.inr sz_b141)), sz_b141, V143⟩
def Q19 (Z : State) (p0 : Int32) (h0 : Heap) (n0 : Nat) (v : Option Value) (h : Heap) (L : List Loc) : Prop := ∃ (a : Addr) (kb : ClassId), v = some (.ref a) ∧ Fr n0 L ∧ Ext h0 h ∧ h0.size ≤ a ∧ Arv Z h a kb .byte (Int32.ofNat (2 * [p0].length)) (StrChars.Road.wideBytes [p0]) (.int 0)
theorem ef_rm19 (m : MethodId) (x0 : Int32) : entryFrame m #[(.int x0)] 2 = mkF m 0 #[.val (.int x0), .unset] [] := by first | (simp [entryFrame, mkF, argsToLocals, Value.category]; done) | rfl
theorem d19_0 : decode jdk_52_method_24_code 0 = .ok (.iconst 2, 1) := by decide +kernel
theorem d19_1 : decode jdk_52_method_24_code 1 = .ok (.newarray .byte, 2) := by decide +kernel
theorem d19_3 : decode jdk_52_method_24_code 3 = .ok (.astore_n 1, 1) := by decide +kernel
theorem d19_4 : decode jdk_52_method_24_code 4 = .ok (.aload_n 1, 1) := by decide +kernel
theorem d19_5 : decode jdk_52_method_24_code 5 = .ok (.iconst 0, 1) := by decide +kernel
theorem d19_6 : decode jdk_52_method_24_code 6 = .ok (.iload_n 0, 1) := by decide +kernel
theorem d19_7 : decode jdk_52_method_24_code 7 = .ok (.invokestatic 111, 3) := by decide +kernel
theorem d19_10 : decode jdk_52_method_24_code 10 = .ok (.aload_n 1, 1) := by decide +kernel
theorem d19_11 : decode jdk_52_method_24_code 11 = .ok (.areturn, 1) := by decide +kernel
set_option maxRecDepth 65536 in
set_option maxHeartbeats 40000000 in
theorem rm19 (l : Launch) (Z : State) (a0 : Array Value) (hw : ∀ d ∈ tables_1, d.before a0 Z = true) (ws : List Jvm.Cond) (p0 : Int32) (h0 : Heap) (n0 : Nat) (Z0 : n0 ≤ h0.size) (O0 : Old Z n0 h0) (Sd : Sta Z Z.heap "java/lang/StringUTF16" "$assertionsDisabled" "Z" (.int (1 : Int32))) (Sh : Sta Z Z.heap "java/lang/StringUTF16" "HI_BYTE_SHIFT" "I" (.int (0 : Int32))) (Sl : Sta Z Z.heap "java/lang/StringUTF16" "LO_BYTE_SHIFT" "I" (.int (8 : Int32))) :
    MetFree l (⟨"java/lang/StringUTF16", "toBytes", "(C)[B"⟩ : MethodName) (head1 (Jvm.Cond.code (⟨"java/lang/StringUTF16", "toBytes", "(C)[B"⟩ : MethodName) jdk_52_method_24_code 2 (some (.array .byte)) :: ws) ({ frames := 1, cells := 1, slots := 2, locals := 14 } : Room)) (fun aX UX => aX = #[(.int p0)] ∧ Z.Warmed39 UX.vm ∧ UX.heap = h0) (fun _ _ _ _ _ => True) (fun _ UX oX UX' => ∃ vX LX, oX = .returned vX ∧ Q19 Z p0 h0 n0 vX UX'.heap LX ∧ FrameEnd UX oX UX' LX ({ frames := 1, cells := 1, slots := 2, locals := 14 } : Room).cells ({ frames := 1, cells := 1, slots := 2, locals := 14 } : Room).slots) := by
  refine MetFree.of_bodySF (plainFor_of_name pn_java_lang_StringUTF16) hisR ?_
  intro p e s m args below meth c s₁ Bd hml0 hP hK
  obtain ⟨rfl, hZ, hh⟩ := hP
  have hx := Bd.exec
  have hby := Bd.bytes
  have hml : c.maxLocals = 2 := hml0
  have hown : s.vm.findClass "java/lang/StringUTF16" = some m.cls := findClass_of_methodNamed Bd.named
  have hnm := (name_of_methodNamed Bd.named Bd.method).1
  have X0 : Stand p l e ({ frames := 1, cells := 1, slots := 2, locals := 14 } : Room) s m #[(.int p0)] below meth c s₁ [] 0 0 := Stand.of_body Bd
  have e0 : s₁.heap = h0 := by rw [← hh, Bd.state]; rfl
  have N0 := Fr.nil n0
  show own_Comes p e below s ({ frames := 1, cells := 1, slots := 2, locals := 14 } : Room).cells ({ frames := 1, cells := 1, slots := 2, locals := 14 } : Room).slots (Q19 Z p0 h0 n0) _
  rw [show entryFrame m #[(.int p0)] 2 = mkF m 0 #[.val (.int p0), .unset] [] from ef_rm19 m p0]
  show own_Comes p e below s _ _ _ (s₁.setTop (mkF m 0 #[.val (.int p0), .unset] []))
  refine own_by (fun _ kS => XS.iconst X0.here hx rfl (hb hby d19_0) kS) ?_
  show own_Comes p e below s _ _ _ (s₁.setTop (mkF m 1 #[.val (.int p0), .unset] [(.int (2 : Int32))]))
  obtain ⟨T144, h144, k144, X144, e144, E144, A144, st144⟩ := newP X0 hx hZ (hw _ (List.mem_of_getElem? (i := 27) rfl)) e0 (g := (mkF m 1 #[.val (.int p0), .unset] [(.int (2 : Int32))])) rfl (hb hby d19_1) rfl (by decide) (cap := 2) (by decide) (by decide) (by decide) (by decide)
  obtain ⟨b144, g144⟩ : ∃ z, z = h0.size := ⟨_, rfl⟩
  rw [← g144] at A144 st144
  have g_b144 : n0 ≤ b144 := Nat.le_trans Z0 (Nat.le_of_eq g144.symm)
  refine own_by st144 ?_
  have V_b144 : Arv Z h144 b144 k144 .byte (2 : Int32) [(.int (0 : Int32)), (.int (0 : Int32))] (.int (0 : Int32)) := (Arv.new A144 (by decide)).pad (pad_rep [] (.int (0 : Int32)) 2)
  show own_Comes p e below s _ _ _ (T144.setTop (mkF m 3 #[.val (.int p0), .unset] [(.ref b144)]))
  have sz_b144 : h0.size ≤ b144 := Nat.le_of_eq g144.symm
  refine own_by (fun _ kS => XS.astoreN X144.here hx rfl (hb hby d19_3) rfl rfl (l' := #[.val (.int p0), .val (.ref b144)]) rfl kS) ?_
  show own_Comes p e below s _ _ _ (T144.setTop (mkF m 4 #[.val (.int p0), .val (.ref b144)] []))
  refine own_by (fun _ kS => XS.aloadN X144.here hx rfl (hb hby d19_4) rfl rfl kS) ?_
  show own_Comes p e below s _ _ _ (T144.setTop (mkF m 5 #[.val (.int p0), .val (.ref b144)] [(.ref b144)]))
  refine own_by (fun _ kS => XS.iconst X144.here hx rfl (hb hby d19_5) kS) ?_
  show own_Comes p e below s _ _ _ (T144.setTop (mkF m 6 #[.val (.int p0), .val (.ref b144)] [(.int (0 : Int32)), (.ref b144)]))
  refine own_by (fun _ kS => XS.iloadN X144.here hx rfl (hb hby d19_6) rfl kS) ?_
  show own_Comes p e below s _ _ _ (T144.setTop (mkF m 7 #[.val (.int p0), .val (.ref b144)] [(.int p0), (.int (0 : Int32)), (.ref b144)]))
  obtain ⟨vv145, _, ⟨T145, L145, k145, n145⟩, -, X145, ⟨Lc145, hQ145, l145, y145, z145⟩, st145⟩ := Jvm.LawKit.callS X144 hx (y := (⟨"java/lang/StringUTF16", "putChar", "([BII)V"⟩ : MethodName)) hown (mvT hZ (hw _ (List.mem_of_getElem? (i := 61) rfl))) (mvT hZ (hw _ (List.mem_of_getElem? (i := 62) rfl))) (mvT hZ (hw _ (List.mem_of_getElem? (i := 25) rfl))) (mvT hZ (hw _ (List.mem_of_getElem? (i := 63) rfl))) (by decide) (backOf (W := 0) (rm15 l Z a0 hw [] b144 0 p0 k144 [(.int (0 : Int32)), (.int (0 : Int32))] 1 h144 n0 (Nat.le_trans Z0 E144.1) (O0.ext E144) Sd Sh Sl V_b144 rfl (by decide) (by decide) g_b144) hZ (hw _ (List.mem_of_getElem? (i := 63) rfl)) (hw _ (List.mem_of_getElem? (i := 25) rfl)) (by decide) (by decide)) (g := (mkF m 7 #[.val (.int p0), .val (.ref b144)] [(.int p0), (.int (0 : Int32)), (.ref b144)])) rfl (by rw [hml]; rfl) (argsL := [(.ref b144), (.int (0 : Int32)), (.int p0)]) (rest := []) (lenOf pd___BII_V_470 rfl) rfl (by show 2 * 0 + _ ≤ _; exact Nat.le_of_eq rfl) (hb hby d19_7) (fun _ _ => ⟨rfl, e144, (by decide : 1 + 0 ≤ _), (by decide : 2 + 0 ≤ _)⟩)
  dsimp only [Pt.U, Pt.locs, Pt.cells, Pt.slots] at X145 l145 y145 z145 st145 hQ145
  subst l145 y145 z145
  obtain ⟨rfl, N145q, K145, V145⟩ := hQ145
  have N145 := Fr.app N0 N145q
  refine own_by st145 ?_
  show own_Comes p e below s _ _ _ (T145.setTop (mkF m 10 #[.val (.int p0), .val (.ref b144)] []))
  refine own_by (fun _ kS => XS.aloadN X145.here hx rfl (hb hby d19_10) rfl rfl kS) ?_
  show own_Comes p e below s _ _ _ (T145.setTop (mkF m 11 #[.val (.int p0), .val (.ref b144)] [(.ref b144)]))
  refine own_ret X145 (v := some (.ref b144)) (fun h => by rw [Bd.returns] at h; cases h) Bd.notSynchronized (by decide) (by decide) ?_ (fun fs hr => own_reta X145 hx Bd.returns rfl rfl (hb hby d19_11) hr)
  exact ⟨_, _, rfl, N145, own_ext (((Keep.refl _ _).ext E144).trans K145 (allS (Or.inr sz_b144) all0)), sz_b144, V145⟩
def Q17 (Z : State) (p0 : Int32) (h0 : Heap) (n0 : Nat) (v : Option Value) (h : Heap) (L : List Loc) : Prop := ∃ a : Addr, v = some (.ref a) ∧ Fr n0 L ∧ Ext h0 h ∧ own_Txt Z h a [p0]
theorem ef_rm17 (m : MethodId) (x0 : Int32) : entryFrame m #[(.int x0)] 1 = mkF m 0 #[.val (.int x0)] [] := by first | (simp [entryFrame, mkF, argsToLocals, Value.category]; done) | rfl
theorem d17_0 : decode jdk_42_method_139_code 0 = .ok (.getstatic 38, 3) := by decide +kernel
theorem d17_3 : decode jdk_42_method_139_code 3 = .ok (.ifCond .eq 23, 3) := by decide +kernel
theorem d17_6 : decode jdk_42_method_139_code 6 = .ok (.iload_n 0, 1) := by decide +kernel
theorem pd__C_Z_238 : parseMethodDescriptor "(C)Z" = some ⟨[.char], some .boolean⟩ := by decide +kernel
theorem d17_7 : decode jdk_42_method_139_code 7 = .ok (.invokestatic 1015, 3) := by decide +kernel
theorem d17_10 : decode jdk_42_method_139_code 10 = .ok (.ifCond .eq 16, 3) := by decide +kernel
theorem d17_26 : decode jdk_42_method_139_code 26 = .ok (.new 10, 3) := by decide +kernel
theorem d17_29 : decode jdk_42_method_139_code 29 = .ok (.dup, 1) := by decide +kernel
theorem d17_30 : decode jdk_42_method_139_code 30 = .ok (.iload_n 0, 1) := by decide +kernel
theorem pd__C__B_305 : parseMethodDescriptor "(C)[B" = some ⟨[.char], some (.array .byte)⟩ := by decide +kernel
theorem d17_31 : decode jdk_42_method_139_code 31 = .ok (.invokestatic 1021, 3) := by decide +kernel
theorem d17_34 : decode jdk_42_method_139_code 34 = .ok (.iconst 1, 1) := by decide +kernel
theorem pd___BB_V_390 : parseMethodDescriptor "([BB)V" = some ⟨[(.array .byte), .byte], none⟩ := by decide +kernel
theorem d17_35 : decode jdk_42_method_139_code 35 = .ok (.invokespecial 209, 3) := by decide +kernel
theorem d17_38 : decode jdk_42_method_139_code 38 = .ok (.areturn, 1) := by decide +kernel
theorem d17_13 : decode jdk_42_method_139_code 13 = .ok (.new 10, 3) := by decide +kernel
theorem d17_16 : decode jdk_42_method_139_code 16 = .ok (.dup, 1) := by decide +kernel
theorem d17_17 : decode jdk_42_method_139_code 17 = .ok (.iload_n 0, 1) := by decide +kernel
theorem d17_18 : decode jdk_42_method_139_code 18 = .ok (.invokestatic 1018, 3) := by decide +kernel
theorem d17_21 : decode jdk_42_method_139_code 21 = .ok (.iconst 0, 1) := by decide +kernel
theorem d17_22 : decode jdk_42_method_139_code 22 = .ok (.invokespecial 209, 3) := by decide +kernel
theorem d17_25 : decode jdk_42_method_139_code 25 = .ok (.areturn, 1) := by decide +kernel
set_option maxRecDepth 65536 in
set_option maxHeartbeats 40000000 in
theorem rm17 (l : Launch) (Z : State) (a0 : Array Value) (hw : ∀ d ∈ tables_1, d.before a0 Z = true) (ws : List Jvm.Cond) (p0 zc : Int32) (h0 : Heap) (n0 : Nat) (Z0 : n0 ≤ h0.size) (O0 : Old Z n0 h0) (Sz : Sta Z Z.heap "java/lang/String" "COMPACT_STRINGS" "Z" (.int zc)) (hzc : ¬ zc = 0) (Sd : Sta Z Z.heap "java/lang/StringUTF16" "$assertionsDisabled" "Z" (.int (1 : Int32))) (Sh : Sta Z Z.heap "java/lang/StringUTF16" "HI_BYTE_SHIFT" "I" (.int (0 : Int32))) (Sl : Sta Z Z.heap "java/lang/StringUTF16" "LO_BYTE_SHIFT" "I" (.int (8 : Int32))) (hp : ¬ p0 < 0 ∧ ¬ (65535 : Int32) < p0) :
    MetFree l (⟨"java/lang/String", "valueOf", "(C)Ljava/lang/String;"⟩ : MethodName) (head1 (Jvm.Cond.code (⟨"java/lang/String", "valueOf", "(C)Ljava/lang/String;"⟩ : MethodName) jdk_42_method_139_code 1 (some (.object "java/lang/String")) :: ws) ({ frames := 2, cells := 2, slots := 6, locals := 29 } : Room)) (fun aX UX => aX = #[(.int p0)] ∧ Z.Warmed39 UX.vm ∧ UX.heap = h0) (fun _ _ _ _ _ => True) (fun _ UX oX UX' => ∃ vX LX, oX = .returned vX ∧ Q17 Z p0 h0 n0 vX UX'.heap LX ∧ FrameEnd UX oX UX' LX ({ frames := 2, cells := 2, slots := 6, locals := 29 } : Room).cells ({ frames := 2, cells := 2, slots := 6, locals := 29 } : Room).slots) := by
  refine MetFree.of_bodySF (plainFor_of_name pn_java_lang_String) hisR ?_
  intro p e s m args below meth c s₁ Bd hml0 hP hK
  obtain ⟨rfl, hZ, hh⟩ := hP
  have hx := Bd.exec
  have hby := Bd.bytes
  have hml : c.maxLocals = 1 := hml0
  have hown : s.vm.findClass "java/lang/String" = some m.cls := findClass_of_methodNamed Bd.named
  have hnm := (name_of_methodNamed Bd.named Bd.method).1
  have X0 : Stand p l e ({ frames := 2, cells := 2, slots := 6, locals := 29 } : Room) s m #[(.int p0)] below meth c s₁ [] 0 0 := Stand.of_body Bd
  have e0 : s₁.heap = h0 := by rw [← hh, Bd.state]; rfl
  have N0 := Fr.nil n0
  show own_Comes p e below s ({ frames := 2, cells := 2, slots := 6, locals := 29 } : Room).cells ({ frames := 2, cells := 2, slots := 6, locals := 29 } : Room).slots (Q17 Z p0 h0 n0) _
  rw [show entryFrame m #[(.int p0)] 1 = mkF m 0 #[.val (.int p0)] [] from ef_rm17 m p0]
  show own_Comes p e below s _ _ _ (s₁.setTop (mkF m 0 #[.val (.int p0)] []))
  obtain ⟨T146, X146, e146, st146⟩ := getS2 X0 hx hZ hown (host := "") (Or.inl (hw _ (List.mem_of_getElem? (i := 22) rfl))) Via.refl e0 (Sz.ext O0.2) (g := (mkF m 0 #[.val (.int p0)] [])) rfl (hb hby d17_0)
  refine own_by st146 ?_
  show own_Comes p e below s _ _ _ (T146.setTop (mkF m 3 #[.val (.int p0)] [(.int zc)]))
  refine own_by (fun _ kS => XS.ifNo X146.here hx rfl (hb hby d17_3) rfl ((if0 _ _).trans (feq hzc).1) kS) ?_
  show own_Comes p e below s _ _ _ (T146.setTop (mkF m 6 #[.val (.int p0)] []))
  refine own_by (fun _ kS => XS.iloadN X146.here hx rfl (hb hby d17_6) rfl kS) ?_
  show own_Comes p e below s _ _ _ (T146.setTop (mkF m 7 #[.val (.int p0)] [(.int p0)]))
  obtain ⟨vv147, _, ⟨T147, L147, k147, n147⟩, -, X147, ⟨Lc147, hQ147, l147, y147, z147⟩, st147⟩ := Jvm.LawKit.callS X146 hx (y := (⟨"java/lang/StringLatin1", "canEncode", "(C)Z"⟩ : MethodName)) hown (mvT hZ (hw _ (List.mem_of_getElem? (i := 73) rfl))) (mvT hZ (hw _ (List.mem_of_getElem? (i := 74) rfl))) (mvT hZ (hw _ (List.mem_of_getElem? (i := 75) rfl))) (mvT hZ (hw _ (List.mem_of_getElem? (i := 76) rfl))) (by decide) (backOf (W := 0) (rm18 l Z a0 hw [] p0 h0 n0 Z0) hZ (hw _ (List.mem_of_getElem? (i := 76) rfl)) (hw _ (List.mem_of_getElem? (i := 75) rfl)) (by decide) (by decide)) (g := (mkF m 7 #[.val (.int p0)] [(.int p0)])) rfl (by rw [hml]; rfl) (argsL := [(.int p0)]) (rest := []) (lenOf pd__C_Z_238 rfl) rfl (by show 2 * 0 + _ ≤ _; exact Nat.le_of_eq rfl) (hb hby d17_7) (fun _ _ => ⟨rfl, e146, (by decide : 0 + 0 ≤ _), (by decide : 0 + 0 ≤ _)⟩)
  dsimp only [Pt.U, Pt.locs, Pt.cells, Pt.slots] at X147 l147 y147 z147 st147 hQ147
  subst l147 y147 z147
  obtain ⟨z147, rfl, N147q, e147q, hz147⟩ := hQ147
  have N147 := Fr.app N0 N147q
  refine own_by st147 ?_
  have e147 : T147.heap = h0 := e147q
  show own_Comes p e below s _ _ _ (T147.setTop (mkF m 10 #[.val (.int p0)] [(.int z147)]))
  by_cases hq : z147 = (0 : Int32)
  · refine own_by (fun _ kS => XS.ifYes X147.here hx rfl (pc0 := 10) (pc' := 26) rfl (hb hby d17_10) rfl ((if0 _ _).trans (teq hq).1) (by decide) (by decide) kS) ?_
    show own_Comes p e below s _ _ _ (T147.setTop (mkF m 26 #[.val (.int p0)] []))
    obtain ⟨T148, h148, X148, e148, E148, A148, D148, -, st148⟩ := newO X147 hx hZ hown (hw _ (List.mem_of_getElem? (i := 77) rfl)) (hw _ (List.mem_of_getElem? (i := 9) rfl)) (hw _ (List.mem_of_getElem? (i := 10) rfl)) e147 (g := (mkF m 26 #[.val (.int p0)] [])) rfl (hb hby d17_26) (by decide) (by decide)
    obtain ⟨b148, g148⟩ : ∃ z, z = h0.size := ⟨_, rfl⟩
    rw [← g148] at A148 D148 st148
    have g_b148 : n0 ≤ b148 := Nat.le_trans Z0 (Nat.le_of_eq g148.symm)
    refine own_by st148 ?_
    show own_Comes p e below s _ _ _ (T148.setTop (mkF m 29 #[.val (.int p0)] [(.ref b148)]))
    refine own_by (fun _ kS => XS.dup X148.here hx rfl (hb hby d17_29) rfl rfl kS) ?_
    show own_Comes p e below s _ _ _ (T148.setTop (mkF m 30 #[.val (.int p0)] [(.ref b148), (.ref b148)]))
    refine own_by (fun _ kS => XS.iloadN X148.here hx rfl (hb hby d17_30) rfl kS) ?_
    show own_Comes p e below s _ _ _ (T148.setTop (mkF m 31 #[.val (.int p0)] [(.int p0), (.ref b148), (.ref b148)]))
    have sz_b148 : h0.size ≤ b148 := Nat.le_of_eq g148.symm
    obtain ⟨vv149, _, ⟨T149, L149, k149, n149⟩, -, X149, ⟨Lc149, hQ149, l149, y149, z149⟩, st149⟩ := Jvm.LawKit.callS X148 hx (y := (⟨"java/lang/StringUTF16", "toBytes", "(C)[B"⟩ : MethodName)) hown (mvT hZ (hw _ (List.mem_of_getElem? (i := 78) rfl))) (mvT hZ (hw _ (List.mem_of_getElem? (i := 79) rfl))) (mvT hZ (hw _ (List.mem_of_getElem? (i := 25) rfl))) (mvT hZ (hw _ (List.mem_of_getElem? (i := 80) rfl))) (by decide) (backOf (W := 2) (rm19 l Z a0 hw [] p0 h148 n0 (Nat.le_trans Z0 E148.1) (O0.ext E148) Sd Sh Sl) hZ (hw _ (List.mem_of_getElem? (i := 80) rfl)) (hw _ (List.mem_of_getElem? (i := 25) rfl)) (by decide) (by decide)) (g := (mkF m 31 #[.val (.int p0)] [(.int p0), (.ref b148), (.ref b148)])) rfl (by rw [hml]; rfl) (argsL := [(.int p0)]) (rest := [(.ref b148), (.ref b148)]) (lenOf pd__C__B_305 rfl) rfl (by show 2 * 0 + _ ≤ _; exact Nat.le_of_eq rfl) (hb hby d17_31) (fun _ _ => ⟨rfl, e148, (by decide : 1 + 1 ≤ _), (by decide : 4 + 2 ≤ _)⟩)
    dsimp only [Pt.U, Pt.locs, Pt.cells, Pt.slots] at X149 l149 y149 z149 st149 hQ149
    subst l149 y149 z149
    obtain ⟨a149, kb149, rfl, N149q, E149, sz_a149, V149⟩ := hQ149
    have N149 := Fr.app N147 N149q
    refine own_by st149 ?_
    show own_Comes p e below s _ _ _ (T149.setTop (mkF m 34 #[.val (.int p0)] [(.ref a149), (.ref b148), (.ref b148)]))
    have nT : b148 ≠ a149 := Nat.ne_of_lt (Nat.lt_of_lt_of_le A148.lt sz_a149)
    refine own_by (fun _ kS => XS.iconst X149.here hx rfl (hb hby d17_34) kS) ?_
    show own_Comes p e below s _ _ _ (T149.setTop (mkF m 35 #[.val (.int p0)] [(.int (1 : Int32)), (.ref a149), (.ref b148), (.ref b148)]))
    have c150 := ((D148 (Or.inr (hw _ (List.mem_of_getElem? (i := 37) rfl))) (ty := (.array .byte)) (by decide)).ext E149)
    have c151 := ((D148 (Or.inr (hw _ (List.mem_of_getElem? (i := 35) rfl))) (ty := .byte) (by decide)).ext E149)
    obtain ⟨vv152, _, ⟨T152, L152, k152, n152⟩, -, X152, ⟨Lc152, hQ152, l152, y152, z152⟩, st152⟩ := X149.specialBack hx (y := (⟨"java/lang/String", "<init>", "([BB)V"⟩ : MethodName)) rfl hown (mvT hZ (hw _ (List.mem_of_getElem? (i := 81) rfl))) (mvT hZ (hw _ (List.mem_of_getElem? (i := 82) rfl))) (mvT hZ (hw _ (List.mem_of_getElem? (i := 83) rfl))) (by decide) (backOf (W := 1) (rm20u l Z a0 hw [] b148 a149 T149.heap n0 (Nat.le_trans (Nat.le_trans Z0 E148.1) E149.1) (A148.ext E149) c150 c151 g_b148) hZ (hw _ (List.mem_of_getElem? (i := 83) rfl)) (hw _ (List.mem_of_getElem? (i := 10) rfl)) (by decide) (by decide)) (g := (mkF m 35 #[.val (.int p0)] [(.int (1 : Int32)), (.ref a149), (.ref b148), (.ref b148)])) rfl (by rw [hml]; rfl) (Steps.refl _) (a := b148) (argsL := [(.ref a149), (.int (1 : Int32))]) (rest := [(.ref b148)]) (lenOf pd___BB_V_390 rfl) rfl (by show 2 * 0 + _ ≤ _; exact Nat.le_of_eq rfl) (hb hby d17_35) (fun _ _ => ⟨rfl, rfl, (by decide : 2 + 0 ≤ _), (by decide : 6 + 0 ≤ _)⟩)
    dsimp only [Pt.U, Pt.locs, Pt.cells, Pt.slots] at X152 l152 y152 z152 st152 hQ152
    subst l152 y152 z152
    obtain ⟨rfl, N152q, K152, Fv152, Fc152⟩ := hQ152
    have N152 := Fr.app N149 N152q
    refine own_tr st152 ?_
    show own_Comes p e below s _ _ _ (T152.setTop (mkF m 38 #[.val (.int p0)] [(.ref b148)]))
    have hw5 : (255 : Int32) < p0 := hz147.elim (fun q => absurd (q.1.symm.trans hq) (by decide)) (fun q => q.2)
    refine own_ret X152 (v := some (.ref b148)) (fun h => by rw [Bd.returns] at h; cases h) Bd.notSynchronized (by decide) (by decide) ?_ (fun fs hr => own_reta X152 hx Bd.returns rfl rfl (hb hby d17_38) hr)
    exact ⟨_, rfl, N152, own_ext ((((Keep.refl _ _).ext E148).ext E149).trans K152 (allS (Or.inr sz_b148) all0)), ((A148.ext E149).keep K152), _, _, _, _, _, Fv152, Fc152, (V149.keep K152 (ninS (Ne.symm nT) nin0)), Or.inr ⟨rfl, rfl, rfl, p0, List.mem_singleton.mpr rfl, hw5⟩, own_1 p0 hp, Nat.le_of_ble_eq_true rfl⟩
  · refine own_by (fun _ kS => XS.ifNo X147.here hx rfl (hb hby d17_10) rfl ((if0 _ _).trans (feq hq).1) kS) ?_
    show own_Comes p e below s _ _ _ (T147.setTop (mkF m 13 #[.val (.int p0)] []))
    obtain ⟨T153, h153, X153, e153, E153, A153, D153, -, st153⟩ := newO X147 hx hZ hown (hw _ (List.mem_of_getElem? (i := 77) rfl)) (hw _ (List.mem_of_getElem? (i := 9) rfl)) (hw _ (List.mem_of_getElem? (i := 10) rfl)) e147 (g := (mkF m 13 #[.val (.int p0)] [])) rfl (hb hby d17_13) (by decide) (by decide)
    obtain ⟨b153, g153⟩ : ∃ z, z = h0.size := ⟨_, rfl⟩
    rw [← g153] at A153 D153 st153
    have g_b153 : n0 ≤ b153 := Nat.le_trans Z0 (Nat.le_of_eq g153.symm)
    refine own_by st153 ?_
    show own_Comes p e below s _ _ _ (T153.setTop (mkF m 16 #[.val (.int p0)] [(.ref b153)]))
    refine own_by (fun _ kS => XS.dup X153.here hx rfl (hb hby d17_16) rfl rfl kS) ?_
    show own_Comes p e below s _ _ _ (T153.setTop (mkF m 17 #[.val (.int p0)] [(.ref b153), (.ref b153)]))
    refine own_by (fun _ kS => XS.iloadN X153.here hx rfl (hb hby d17_17) rfl kS) ?_
    show own_Comes p e below s _ _ _ (T153.setTop (mkF m 18 #[.val (.int p0)] [(.int p0), (.ref b153), (.ref b153)]))
    have sz_b153 : h0.size ≤ b153 := Nat.le_of_eq g153.symm
    obtain ⟨vv154, _, ⟨T154, L154, k154, n154⟩, -, X154, ⟨Lc154, hQ154, l154, y154, z154⟩, st154⟩ := Jvm.LawKit.callS X153 hx (y := (⟨"java/lang/StringLatin1", "toBytes", "(C)[B"⟩ : MethodName)) hown (mvT hZ (hw _ (List.mem_of_getElem? (i := 84) rfl))) (mvT hZ (hw _ (List.mem_of_getElem? (i := 85) rfl))) (mvT hZ (hw _ (List.mem_of_getElem? (i := 75) rfl))) (mvT hZ (hw _ (List.mem_of_getElem? (i := 86) rfl))) (by decide) (backOf (W := 2) (rm21 l Z a0 hw [] p0 h153 n0 (Nat.le_trans Z0 E153.1)) hZ (hw _ (List.mem_of_getElem? (i := 86) rfl)) (hw _ (List.mem_of_getElem? (i := 75) rfl)) (by decide) (by decide)) (g := (mkF m 18 #[.val (.int p0)] [(.int p0), (.ref b153), (.ref b153)])) rfl (by rw [hml]; rfl) (argsL := [(.int p0)]) (rest := [(.ref b153), (.ref b153)]) (lenOf pd__C__B_305 rfl) rfl (by show 2 * 0 + _ ≤ _; exact Nat.le_of_eq rfl) (hb hby d17_18) (fun _ _ => ⟨rfl, e153, (by decide : 1 + 1 ≤ _), (by decide : 4 + 1 ≤ _)⟩)
    dsimp only [Pt.U, Pt.locs, Pt.cells, Pt.slots] at X154 l154 y154 z154 st154 hQ154
    subst l154 y154 z154
    obtain ⟨a154, kb154, rfl, N154q, E154, sz_a154, V154⟩ := hQ154
    have N154 := Fr.app N147 N154q
    refine own_by st154 ?_
    show own_Comes p e below s _ _ _ (T154.setTop (mkF m 21 #[.val (.int p0)] [(.ref a154), (.ref b153), (.ref b153)]))
    have nT : b153 ≠ a154 := Nat.ne_of_lt (Nat.lt_of_lt_of_le A153.lt sz_a154)
    refine own_by (fun _ kS => XS.iconst X154.here hx rfl (hb hby d17_21) kS) ?_
    show own_Comes p e below s _ _ _ (T154.setTop (mkF m 22 #[.val (.int p0)] [(.int (0 : Int32)), (.ref a154), (.ref b153), (.ref b153)]))
    have c155 := ((D153 (Or.inr (hw _ (List.mem_of_getElem? (i := 37) rfl))) (ty := (.array .byte)) (by decide)).ext E154)
    have c156 := ((D153 (Or.inr (hw _ (List.mem_of_getElem? (i := 35) rfl))) (ty := .byte) (by decide)).ext E154)
    obtain ⟨vv157, _, ⟨T157, L157, k157, n157⟩, -, X157, ⟨Lc157, hQ157, l157, y157, z157⟩, st157⟩ := X154.specialBack hx (y := (⟨"java/lang/String", "<init>", "([BB)V"⟩ : MethodName)) rfl hown (mvT hZ (hw _ (List.mem_of_getElem? (i := 81) rfl))) (mvT hZ (hw _ (List.mem_of_getElem? (i := 82) rfl))) (mvT hZ (hw _ (List.mem_of_getElem? (i := 83) rfl))) (by decide) (backOf (W := 1) (rm20l l Z a0 hw [] b153 a154 T154.heap n0 (Nat.le_trans (Nat.le_trans Z0 E153.1) E154.1) (A153.ext E154) c155 c156 g_b153) hZ (hw _ (List.mem_of_getElem? (i := 83) rfl)) (hw _ (List.mem_of_getElem? (i := 10) rfl)) (by decide) (by decide)) (g := (mkF m 22 #[.val (.int p0)] [(.int (0 : Int32)), (.ref a154), (.ref b153), (.ref b153)])) rfl (by rw [hml]; rfl) (Steps.refl _) (a := b153) (argsL := [(.ref a154), (.int (0 : Int32))]) (rest := [(.ref b153)]) (lenOf pd___BB_V_390 rfl) rfl (by show 2 * 0 + _ ≤ _; exact Nat.le_of_eq rfl) (hb hby d17_22) (fun _ _ => ⟨rfl, rfl, (by decide : 2 + 0 ≤ _), (by decide : 5 + 0 ≤ _)⟩)
    dsimp only [Pt.U, Pt.locs, Pt.cells, Pt.slots] at X157 l157 y157 z157 st157 hQ157
    subst l157 y157 z157
    obtain ⟨rfl, N157q, K157, Fv157, Fc157⟩ := hQ157
    have N157 := Fr.app N154 N157q
    refine own_tr st157 ?_
    show own_Comes p e below s _ _ _ (T157.setTop (mkF m 25 #[.val (.int p0)] [(.ref b153)]))
    have hw5 : ¬ (255 : Int32) < p0 := hz147.elim (fun q => q.2) (fun q => absurd q.1 hq)
    refine own_ret X157 (v := some (.ref b153)) (fun h => by rw [Bd.returns] at h; cases h) Bd.notSynchronized (by decide) (by decide) ?_ (fun fs hr => own_reta X157 hx Bd.returns rfl rfl (hb hby d17_25) hr)
    exact ⟨_, rfl, N157, own_ext ((((Keep.refl _ _).ext E153).ext E154).trans K157 (allS (Or.inr sz_b153) all0)), ((A153.ext E154).keep K157), _, _, _, _, _, Fv157, Fc157, (V154.keep K157 (ninS (Ne.symm nT) nin0)), Or.inl ⟨rfl, rfl, rfl, fun c hc => by rw [List.mem_singleton] at hc; subst hc; exact hw5⟩, own_1 p0 hp, Nat.le_of_ble_eq_true rfl⟩
def Q2n (Z : State)  (h0 : Heap) (n0 : Nat) (v : Option Value) (h : Heap) (L : List Loc) : Prop := v = some (.int (0 : Int32)) ∧ Fr n0 L ∧ h = h0
theorem ef_rm2n (m : MethodId)  : entryFrame m #[.null] 2 = mkF m 0 #[.val .null, .unset] [] := by first | (simp [entryFrame, mkF, argsToLocals, Value.category]; done) | rfl
theorem d2_0 : decode prog_3_method_7_code 0 = .ok (.aload_n 0, 1) := by decide +kernel
theorem d2_1 : decode prog_3_method_7_code 1 = .ok (.ifnull 22, 3) := by decide +kernel
theorem d2_23 : decode prog_3_method_7_code 23 = .ok (.iconst 0, 1) := by decide +kernel
theorem d2_24 : decode prog_3_method_7_code 24 = .ok (.ireturn, 1) := by decide +kernel
set_option maxRecDepth 65536 in
set_option maxHeartbeats 40000000 in
theorem rm2n (l : Launch) (Z : State) (a0 : Array Value) (hw : ∀ d ∈ tables_1, d.before a0 Z = true) (ws : List Jvm.Cond)  (h0 : Heap) (n0 : Nat) (Z0 : n0 ≤ h0.size) :
    MetFree l (⟨"com/example/eslabon/eslabon/CodeChallengeMethod", "isWellFormed", "(Ljava/lang/String;)Z"⟩ : MethodName) (head1 (Jvm.Cond.code (⟨"com/example/eslabon/eslabon/CodeChallengeMethod", "isWellFormed", "(Ljava/lang/String;)Z"⟩ : MethodName) prog_3_method_7_code 2 (some .boolean) :: ws) ({ frames := 0, cells := 0, slots := 0, locals := 0 } : Room)) (fun aX UX => aX = #[.null] ∧ Z.Warmed39 UX.vm ∧ UX.heap = h0) (fun _ _ _ _ _ => True) (fun _ UX oX UX' => ∃ vX LX, oX = .returned vX ∧ Q2n Z  h0 n0 vX UX'.heap LX ∧ FrameEnd UX oX UX' LX ({ frames := 0, cells := 0, slots := 0, locals := 0 } : Room).cells ({ frames := 0, cells := 0, slots := 0, locals := 0 } : Room).slots) := by
  refine MetFree.of_bodySF (plainFor_of_name pn_com_example_eslabon_eslabon_CodeChallengeMethod) hisR ?_
  intro p e s m args below meth c s₁ Bd hml0 hP hK
  obtain ⟨rfl, hZ, hh⟩ := hP
  have hx := Bd.exec
  have hby := Bd.bytes
  have hml : c.maxLocals = 2 := hml0
  have hown : s.vm.findClass "com/example/eslabon/eslabon/CodeChallengeMethod" = some m.cls := findClass_of_methodNamed Bd.named
  have hnm := (name_of_methodNamed Bd.named Bd.method).1
  have X0 : Stand p l e ({ frames := 0, cells := 0, slots := 0, locals := 0 } : Room) s m #[.null] below meth c s₁ [] 0 0 := Stand.of_body Bd
  have e0 : s₁.heap = h0 := by rw [← hh, Bd.state]; rfl
  have N0 := Fr.nil n0
  show own_Comes p e below s ({ frames := 0, cells := 0, slots := 0, locals := 0 } : Room).cells ({ frames := 0, cells := 0, slots := 0, locals := 0 } : Room).slots (Q2n Z  h0 n0) _
  rw [show entryFrame m #[.null] 2 = mkF m 0 #[.val .null, .unset] [] from ef_rm2n m ]
  show own_Comes p e below s _ _ _ (s₁.setTop (mkF m 0 #[.val .null, .unset] []))
  refine own_by (fun _ kS => XS.aloadN X0.here hx rfl (hb hby d2_0) rfl rfl kS) ?_
  show own_Comes p e below s _ _ _ (s₁.setTop (mkF m 1 #[.val .null, .unset] [.null]))
  refine own_by (fun _ kS => XS.ifnullYes X0.here hx rfl (pc0 := 1) (pc' := 23) rfl (hb hby d2_1) rfl (by decide) (by decide) kS) ?_
  show own_Comes p e below s _ _ _ (s₁.setTop (mkF m 23 #[.val .null, .unset] []))
  refine own_by (fun _ kS => XS.iconst X0.here hx rfl (hb hby d2_23) kS) ?_
  show own_Comes p e below s _ _ _ (s₁.setTop (mkF m 24 #[.val .null, .unset] [(.int (0 : Int32))]))
  refine own_ret X0 (v := some (.int (0 : Int32))) (fun h => by rw [Bd.returns] at h; cases h) Bd.notSynchronized (by decide) (by decide) ?_ (fun fs hr => retN X0 hx (t := .boolean) Bd.returns (by simp) (hb hby d2_24) hr)
  rw [e0]; exact ⟨rfl, N0, rfl⟩
def Q2 (Z : State) (cs : List Int32) (h0 : Heap) (n0 : Nat) (v : Option Value) (h : Heap) (L : List Loc) : Prop := ∃ z : Int32, v = some (.int z) ∧ Fr n0 L ∧ h = h0 ∧ ((z = 1 ∧ own_WF cs) ∨ (z = 0 ∧ ¬ own_WF cs))
theorem ef_rm2 (m : MethodId) (x0 : Addr) : entryFrame m #[(.ref x0)] 2 = mkF m 0 #[.val (.ref x0), .unset] [] := by first | (simp [entryFrame, mkF, argsToLocals, Value.category]; done) | rfl
theorem d2_27 : decode prog_3_method_7_code 27 = .ok (.iload_n 1, 1) := by decide +kernel
theorem d2_28 : decode prog_3_method_7_code 28 = .ok (.aload_n 0, 1) := by decide +kernel
theorem pd___I_154 : parseMethodDescriptor "()I" = some ⟨[], some .int⟩ := by decide +kernel
theorem d2_29 : decode prog_3_method_7_code 29 = .ok (.invokevirtual 63, 3) := by decide +kernel
theorem d2_32 : decode prog_3_method_7_code 32 = .ok (.if_icmp .ge 22, 3) := by decide +kernel
theorem d2_35 : decode prog_3_method_7_code 35 = .ok (.aload_n 0, 1) := by decide +kernel
theorem d2_36 : decode prog_3_method_7_code 36 = .ok (.iload_n 1, 1) := by decide +kernel
theorem pd__I_C_221 : parseMethodDescriptor "(I)C" = some ⟨[.int], some .char⟩ := by decide +kernel
theorem d2_37 : decode prog_3_method_7_code 37 = .ok (.invokevirtual 67, 3) := by decide +kernel
theorem d2_40 : decode prog_3_method_7_code 40 = .ok (.invokestatic 71, 3) := by decide +kernel
theorem d2_43 : decode prog_3_method_7_code 43 = .ok (.ifCond .ne 5, 3) := by decide +kernel
theorem d2_46 : decode prog_3_method_7_code 46 = .ok (.iconst 0, 1) := by decide +kernel
theorem d2_47 : decode prog_3_method_7_code 47 = .ok (.ireturn, 1) := by decide +kernel
theorem d2_48 : decode prog_3_method_7_code 48 = .ok (.iinc 1 1, 3) := by decide +kernel
theorem d2_51 : decode prog_3_method_7_code 51 = .ok (.goto (-24), 3) := by decide +kernel
theorem d2_54 : decode prog_3_method_7_code 54 = .ok (.iconst 1, 1) := by decide +kernel
theorem d2_55 : decode prog_3_method_7_code 55 = .ok (.ireturn, 1) := by decide +kernel
theorem d2_4 : decode prog_3_method_7_code 4 = .ok (.aload_n 0, 1) := by decide +kernel
theorem d2_5 : decode prog_3_method_7_code 5 = .ok (.invokevirtual 63, 3) := by decide +kernel
theorem d2_8 : decode prog_3_method_7_code 8 = .ok (.bipush 43, 2) := by decide +kernel
theorem d2_10 : decode prog_3_method_7_code 10 = .ok (.if_icmp .lt 13, 3) := by decide +kernel
theorem d2_13 : decode prog_3_method_7_code 13 = .ok (.aload_n 0, 1) := by decide +kernel
theorem d2_14 : decode prog_3_method_7_code 14 = .ok (.invokevirtual 63, 3) := by decide +kernel
theorem d2_17 : decode prog_3_method_7_code 17 = .ok (.sipush 128, 3) := by decide +kernel
theorem d2_20 : decode prog_3_method_7_code 20 = .ok (.if_icmp .le 5, 3) := by decide +kernel
theorem d2_25 : decode prog_3_method_7_code 25 = .ok (.iconst 0, 1) := by decide +kernel
theorem d2_26 : decode prog_3_method_7_code 26 = .ok (.istore_n 1, 1) := by decide +kernel
set_option maxRecDepth 65536 in
set_option maxHeartbeats 40000000 in
theorem rm2 (l : Launch) (Z : State) (a0 : Array Value) (hw : ∀ d ∈ tables_1, d.before a0 Z = true) (ws : List Jvm.Cond) (r0 : Addr) (cs : List Int32) (zc : Int32) (fm : Value) (h0 : Heap) (n0 : Nat) (Z0 : n0 ≤ h0.size) (O0 : Old Z n0 h0) (Sz : Sta Z Z.heap "java/lang/String" "COMPACT_STRINGS" "Z" (.int zc)) (hzc : ¬ zc = 0) (Sf : Sta Z Z.heap "jdk/internal/util/Preconditions" "SIOOBE_FORMATTER" "Ljava/util/function/BiFunction;" fm) (i_fm : fm.isRef = true) (Sd : Sta Z Z.heap "java/lang/StringUTF16" "$assertionsDisabled" "Z" (.int (1 : Int32))) (Sh : Sta Z Z.heap "java/lang/StringUTF16" "HI_BYTE_SHIFT" "I" (.int (0 : Int32))) (Sl : Sta Z Z.heap "java/lang/StringUTF16" "LO_BYTE_SHIFT" "I" (.int (8 : Int32))) (hY : own_Txt Z h0 r0 cs) :
    MetFree l (⟨"com/example/eslabon/eslabon/CodeChallengeMethod", "isWellFormed", "(Ljava/lang/String;)Z"⟩ : MethodName) (head1 (Jvm.Cond.code (⟨"com/example/eslabon/eslabon/CodeChallengeMethod", "isWellFormed", "(Ljava/lang/String;)Z"⟩ : MethodName) prog_3_method_7_code 2 (some .boolean) :: ws) ({ frames := 5, cells := 0, slots := 0, locals := 66 } : Room)) (fun aX UX => aX = #[(.ref r0)] ∧ Z.Warmed39 UX.vm ∧ UX.heap = h0) (fun _ _ _ _ _ => True) (fun _ UX oX UX' => ∃ vX LX, oX = .returned vX ∧ Q2 Z cs h0 n0 vX UX'.heap LX ∧ FrameEnd UX oX UX' LX ({ frames := 5, cells := 0, slots := 0, locals := 66 } : Room).cells ({ frames := 5, cells := 0, slots := 0, locals := 66 } : Room).slots) := by
  refine MetFree.of_bodySF (plainFor_of_name pn_com_example_eslabon_eslabon_CodeChallengeMethod) hisR ?_
  intro p e s m args below meth c s₁ Bd hml0 hP hK
  obtain ⟨rfl, hZ, hh⟩ := hP
  have hx := Bd.exec
  have hby := Bd.bytes
  have hml : c.maxLocals = 2 := hml0
  have hown : s.vm.findClass "com/example/eslabon/eslabon/CodeChallengeMethod" = some m.cls := findClass_of_methodNamed Bd.named
  have hnm := (name_of_methodNamed Bd.named Bd.method).1
  have X0 : Stand p l e ({ frames := 5, cells := 0, slots := 0, locals := 66 } : Room) s m #[(.ref r0)] below meth c s₁ [] 0 0 := Stand.of_body Bd
  have e0 : s₁.heap = h0 := by rw [← hh, Bd.state]; rfl
  have N0 := Fr.nil n0
  show own_Comes p e below s ({ frames := 5, cells := 0, slots := 0, locals := 66 } : Room).cells ({ frames := 5, cells := 0, slots := 0, locals := 66 } : Room).slots (Q2 Z cs h0 n0) _
  rw [show entryFrame m #[(.ref r0)] 2 = mkF m 0 #[.val (.ref r0), .unset] [] from ef_rm2 m r0]
  show own_Comes p e below s _ _ _ (s₁.setTop (mkF m 0 #[.val (.ref r0), .unset] []))
  have hYo := hY
  obtain ⟨Eo, tO, ko, cdo, No, vo, Vo, Co, Ao, Ho, Bo, Lo⟩ := hYo
  have hwl : ∀ d ∈ StrChars.Road.wordsLen, d.before a0 Z = true := fun d hd => hw d ((by decide +kernel : ∀ d ∈ StrChars.Road.wordsLen, d ∈ tables_1) d hd)
  have J27 : ∀ (r : Nat) (i : Nat) (TJ27 : State) (hJ27 : Heap) (LJ27 : List Loc), (cs.length < i + r) → (i ≤ cs.length) → (43 ≤ cs.length) → (cs.length ≤ 128) → (∀ j, j < i → own_un (cs.getD j 0)) → (hJ27 = h0) → Stand p l e ({ frames := 5, cells := 0, slots := 0, locals := 66 } : Room) s m #[(.ref r0)] below meth c TJ27 LJ27 0 0 → TJ27.heap = hJ27 → Fr n0 LJ27 → Old Z n0 hJ27 → n0 ≤ hJ27.size → own_Comes p e below s ({ frames := 5, cells := 0, slots := 0, locals := 66 } : Room).cells ({ frames := 5, cells := 0, slots := 0, locals := 66 } : Room).slots (Q2 Z cs h0 n0) (TJ27.setTop (mkF m 27 #[.val (.ref r0), .val (.int (Int32.ofNat i))] [])) := by
    intro r
    induction r with
    | zero => intro i TJ27 hJ27 LJ27 hrJ27 hiL h43 h128 hj hh0 XJ27 eJ27 NJ27 OJ27 ZJ27; omega
    | succ r ih =>
      intro i TJ27 hJ27 LJ27 hrJ27 hiL h43 h128 hj hh0 XJ27 eJ27 NJ27 OJ27 ZJ27
      show own_Comes p e below s _ _ _ (TJ27.setTop (mkF m 27 #[.val (.ref r0), .val (.int (Int32.ofNat i))] []))
      subst hh0
      refine own_by (fun _ kS => XS.iloadN XJ27.here hx rfl (hb hby d2_27) rfl kS) ?_
      show own_Comes p e below s _ _ _ (TJ27.setTop (mkF m 28 #[.val (.ref r0), .val (.int (Int32.ofNat i))] [(.int (Int32.ofNat i))]))
      refine own_by (fun _ kS => XS.aloadN XJ27.here hx rfl (hb hby d2_28) rfl rfl kS) ?_
      show own_Comes p e below s _ _ _ (TJ27.setTop (mkF m 29 #[.val (.ref r0), .val (.int (Int32.ofNat i))] [(.ref r0), (.int (Int32.ofNat i))]))
      obtain ⟨cq158, kq158, q158a, q158b, q158c⟩ := isOf hZ eJ27 Eo
      obtain ⟨vv158, _, ⟨T158, L158, k158, n158⟩, -, X158, ⟨Lc158, hQ158, l158, y158, z158⟩, st158⟩ := XJ27.virtualBack hx (y := (⟨"java/lang/String", "length", "()I"⟩ : MethodName)) (z := (⟨"java/lang/String", "length", "()I"⟩ : MethodName)) hown (mvT hZ (hw _ (List.mem_of_getElem? (i := 38) rfl))) (mvT hZ (hw _ (List.mem_of_getElem? (i := 39) rfl))) (notFace_of_selects (args := #[]) (mvT hZ (hw _ (List.mem_of_getElem? (i := 41) rfl)))) (mvT hZ (hw _ (List.mem_of_getElem? (i := 41) rfl))) (mvT hZ (hw _ (List.mem_of_getElem? (i := 40) rfl))) (by decide) (StrChars.Road.lenW (W := 1) hZ hwl (kI := 4) (hw _ (List.mem_of_getElem? (i := 9) rfl)) (cs := cs) Eo Vo Co Ao Ho Bo (Sz.ext OJ27.2) hzc Lo (by decide) (by decide)) q158a q158c (g := (mkF m 29 #[.val (.ref r0), .val (.int (Int32.ofNat i))] [(.ref r0), (.int (Int32.ofNat i))])) rfl (by rw [hml]; rfl) (Steps.refl _) (argsL := []) (rest := [(.int (Int32.ofNat i))]) (lenOf pd___I_154 rfl) rfl (by show 2 * 0 + _ ≤ _; exact Nat.le_of_eq rfl) (hb hby d2_29) (fun _ _ => ⟨rfl, eJ27, (by decide : 0 + 0 ≤ _), (by decide : 0 + 0 ≤ _)⟩)
      dsimp only [Pt.U, Pt.locs, Pt.cells, Pt.slots] at X158 l158 y158 z158 st158 hQ158
      subst l158 y158 z158
      obtain ⟨rfl, rfl, e158q⟩ := hQ158
      have N158q := Fr.nil n0
      have N158 := Fr.app NJ27 N158q
      refine own_tr st158 ?_
      have e158 : T158.heap = hJ27 := e158q
      show own_Comes p e below s _ _ _ (T158.setTop (mkF m 32 #[.val (.ref r0), .val (.int (Int32.ofNat i))] [(.int (Int32.ofNat cs.length)), (.int (Int32.ofNat i))]))
      by_cases hi : i < cs.length
      · have hb159 : (Int32.ofNat i) < (Int32.ofNat cs.length) := (own_lt (by omega) (by omega)).mpr hi
        refine own_by (fun _ kS => XS.icmpNo X158.here hx rfl (hb hby d2_32) rfl (tlt hb159).2.1 kS) ?_
        show own_Comes p e below s _ _ _ (T158.setTop (mkF m 35 #[.val (.ref r0), .val (.int (Int32.ofNat i))] []))
        refine own_by (fun _ kS => XS.aloadN X158.here hx rfl (hb hby d2_35) rfl rfl kS) ?_
        show own_Comes p e below s _ _ _ (T158.setTop (mkF m 36 #[.val (.ref r0), .val (.int (Int32.ofNat i))] [(.ref r0)]))
        refine own_by (fun _ kS => XS.iloadN X158.here hx rfl (hb hby d2_36) rfl kS) ?_
        show own_Comes p e below s _ _ _ (T158.setTop (mkF m 37 #[.val (.ref r0), .val (.int (Int32.ofNat i))] [(.int (Int32.ofNat i)), (.ref r0)]))
        obtain ⟨cq160, kq160, q160a, q160b, q160c⟩ := isOf hZ e158 Eo
        obtain ⟨vv160, _, ⟨T160, L160, k160, n160⟩, -, X160, ⟨Lc160, hQ160, l160, y160, z160⟩, st160⟩ := X158.virtualBack hx (y := (⟨"java/lang/String", "charAt", "(I)C"⟩ : MethodName)) (z := (⟨"java/lang/String", "charAt", "(I)C"⟩ : MethodName)) hown (mvT hZ (hw _ (List.mem_of_getElem? (i := 90) rfl))) (mvT hZ (hw _ (List.mem_of_getElem? (i := 91) rfl))) (notFace_of_selects (args := #[]) (mvT hZ (hw _ (List.mem_of_getElem? (i := 93) rfl)))) (mvT hZ (hw _ (List.mem_of_getElem? (i := 93) rfl))) (mvT hZ (hw _ (List.mem_of_getElem? (i := 92) rfl))) (by decide) (backOf (W := 0) (rm23 l Z a0 hw [] r0 i cs zc fm hJ27 n0 ZJ27 OJ27 Sz hzc Sf i_fm Sd Sh Sl hY hi) hZ (hw _ (List.mem_of_getElem? (i := 94) rfl)) (hw _ (List.mem_of_getElem? (i := 10) rfl)) (by decide) (by decide)) q160a q160c (g := (mkF m 37 #[.val (.ref r0), .val (.int (Int32.ofNat i))] [(.int (Int32.ofNat i)), (.ref r0)])) rfl (by rw [hml]; rfl) (Steps.refl _) (argsL := [(.int (Int32.ofNat i))]) (rest := []) (lenOf pd__I_C_221 rfl) rfl (by show 2 * 0 + _ ≤ _; exact Nat.le_of_eq rfl) (hb hby d2_37) (fun _ _ => ⟨rfl, e158, (by decide : 0 + 0 ≤ _), (by decide : 0 + 0 ≤ _)⟩)
        dsimp only [Pt.U, Pt.locs, Pt.cells, Pt.slots] at X160 l160 y160 z160 st160 hQ160
        subst l160 y160 z160
        obtain ⟨rfl, N160q, e160q⟩ := hQ160
        have N160 := Fr.app N158 N160q
        refine own_tr st160 ?_
        have e160 : T160.heap = hJ27 := e160q
        show own_Comes p e below s _ _ _ (T160.setTop (mkF m 40 #[.val (.ref r0), .val (.int (Int32.ofNat i))] [(.int (cs.getD i 0))]))
        obtain ⟨vv161, _, ⟨T161, L161, k161, n161⟩, -, X161, ⟨Lc161, hQ161, l161, y161, z161⟩, st161⟩ := Jvm.LawKit.callS X160 hx (y := (⟨"com/example/eslabon/eslabon/CodeChallengeMethod", "isUnreserved", "(C)Z"⟩ : MethodName)) hown (mvT hZ (hw _ (List.mem_of_getElem? (i := 117) rfl))) (mvT hZ (hw _ (List.mem_of_getElem? (i := 118) rfl))) (mvT hZ (hw _ (List.mem_of_getElem? (i := 6) rfl))) (mvT hZ (hw _ (List.mem_of_getElem? (i := 119) rfl))) (by decide) (backOf (W := 0) (rm30 l Z a0 hw [] (cs.getD i 0) hJ27 n0 ZJ27) hZ (hw _ (List.mem_of_getElem? (i := 119) rfl)) (hw _ (List.mem_of_getElem? (i := 6) rfl)) (by decide) (by decide)) (g := (mkF m 40 #[.val (.ref r0), .val (.int (Int32.ofNat i))] [(.int (cs.getD i 0))])) rfl (by rw [hml]; rfl) (argsL := [(.int (cs.getD i 0))]) (rest := []) (lenOf pd__C_Z_238 rfl) rfl (by show 2 * 0 + _ ≤ _; exact Nat.le_of_eq rfl) (hb hby d2_40) (fun _ _ => ⟨rfl, e160, (by decide : 0 + 0 ≤ _), (by decide : 0 + 0 ≤ _)⟩)
        dsimp only [Pt.U, Pt.locs, Pt.cells, Pt.slots] at X161 l161 y161 z161 st161 hQ161
        subst l161 y161 z161
        obtain ⟨z161, rfl, N161q, e161q, hz161⟩ := hQ161
        have N161 := Fr.app N160 N161q
        refine own_by st161 ?_
        have e161 : T161.heap = hJ27 := e161q
        show own_Comes p e below s _ _ _ (T161.setTop (mkF m 43 #[.val (.ref r0), .val (.int (Int32.ofNat i))] [(.int z161)]))
        by_cases hq : z161 = (0 : Int32)
        · refine own_by (fun _ kS => XS.ifNo X161.here hx rfl (hb hby d2_43) rfl ((if0 _ _).trans (teq hq).2) kS) ?_
          show own_Comes p e below s _ _ _ (T161.setTop (mkF m 46 #[.val (.ref r0), .val (.int (Int32.ofNat i))] []))
          refine own_by (fun _ kS => XS.iconst X161.here hx rfl (hb hby d2_46) kS) ?_
          show own_Comes p e below s _ _ _ (T161.setTop (mkF m 47 #[.val (.ref r0), .val (.int (Int32.ofNat i))] [(.int (0 : Int32))]))
          refine own_ret X161 (v := some (.int (0 : Int32))) (fun h => by rw [Bd.returns] at h; cases h) Bd.notSynchronized (by decide) (by decide) ?_ (fun fs hr => retN X161 hx (t := .boolean) Bd.returns (by simp) (hb hby d2_47) hr)
          rw [e161]; exact ⟨_, rfl, N161, rfl, Or.inr ⟨rfl, fun q => (hz161.elim (fun q => absurd (q.1.symm.trans hq) (by decide)) (fun q => q.2)) (q.2.2 _ (own_mem hi))⟩⟩
        · refine own_by (fun _ kS => XS.ifYes X161.here hx rfl (pc0 := 43) (pc' := 48) rfl (hb hby d2_43) rfl ((if0 _ _).trans (feq hq).2) (by decide) (by decide) kS) ?_
          show own_Comes p e below s _ _ _ (T161.setTop (mkF m 48 #[.val (.ref r0), .val (.int (Int32.ofNat i))] []))
          refine own_by (fun _ kS => XS.iinc X161.here hx rfl (hb hby d2_48) rfl (l' := #[.val (.ref r0), .val (.int ((Int32.ofNat i) + (1 : Int32)))]) rfl kS) ?_
          show own_Comes p e below s _ _ _ (T161.setTop (mkF m 51 #[.val (.ref r0), .val (.int ((Int32.ofNat i) + (1 : Int32)))] []))
          rw [show ((Int32.ofNat i) + (1 : Int32)) = (Int32.ofNat (i + 1)) from own_succ (by omega)]
          show own_Comes p e below s _ _ _ (T161.setTop (mkF m 51 #[.val (.ref r0), .val (.int (Int32.ofNat (i + 1)))] []))
          have hun : own_un (cs.getD i 0) := hz161.elim (fun q => q.2) (fun q => absurd q.1 hq)
          refine own_by (fun _ kS => XS.goto X161.here hx rfl (pc0 := 51) (pc' := 27) rfl (hb hby d2_51) (by decide) (by decide) kS) ?_
          show own_Comes p e below s _ _ _ (T161.setTop (mkF m 27 #[.val (.ref r0), .val (.int (Int32.ofNat (i + 1)))] []))
          exact ih (i + 1) _ _ _ (by omega) (by omega) h43 h128 (fun j hj' => by by_cases q : j = i; (subst q; exact hun); exact hj j (by omega)) rfl (X161.more (by decide) (by decide)) e161 N161 OJ27 ZJ27
      · have hb162 : ¬ ((Int32.ofNat i) < (Int32.ofNat cs.length)) := fun q => hi ((own_lt (by omega) (by omega)).mp q)
        refine own_by (fun _ kS => XS.icmpYes X158.here hx rfl (pc0 := 32) (pc' := 54) rfl (hb hby d2_32) rfl (flt hb162).2.1 (by decide) (by decide) kS) ?_
        show own_Comes p e below s _ _ _ (T158.setTop (mkF m 54 #[.val (.ref r0), .val (.int (Int32.ofNat i))] []))
        refine own_by (fun _ kS => XS.iconst X158.here hx rfl (hb hby d2_54) kS) ?_
        show own_Comes p e below s _ _ _ (T158.setTop (mkF m 55 #[.val (.ref r0), .val (.int (Int32.ofNat i))] [(.int (1 : Int32))]))
        have hall : ∀ c ∈ cs, own_un c := fun c hc => by
          obtain ⟨j, hj', rfl⟩ := List.getElem_of_mem hc
          have q := hj j (by omega)
          rw [List.getD_eq_getElem?_getD, List.getElem?_eq_getElem hj'] at q
          exact q
        refine own_ret X158 (v := some (.int (1 : Int32))) (fun h => by rw [Bd.returns] at h; cases h) Bd.notSynchronized (by decide) (by decide) ?_ (fun fs hr => retN X158 hx (t := .boolean) Bd.returns (by simp) (hb hby d2_55) hr)
        rw [e158]; exact ⟨_, rfl, N158, rfl, Or.inl ⟨rfl, h43, h128, hall⟩⟩
  refine own_by (fun _ kS => XS.aloadN X0.here hx rfl (hb hby d2_0) rfl rfl kS) ?_
  show own_Comes p e below s _ _ _ (s₁.setTop (mkF m 1 #[.val (.ref r0), .unset] [(.ref r0)]))
  refine own_by (fun _ kS => XS.ifnullNo X0.here hx rfl (hb hby d2_1) rfl kS) ?_
  show own_Comes p e below s _ _ _ (s₁.setTop (mkF m 4 #[.val (.ref r0), .unset] []))
  refine own_by (fun _ kS => XS.aloadN X0.here hx rfl (hb hby d2_4) rfl rfl kS) ?_
  show own_Comes p e below s _ _ _ (s₁.setTop (mkF m 5 #[.val (.ref r0), .unset] [(.ref r0)]))
  obtain ⟨cq163, kq163, q163a, q163b, q163c⟩ := isOf hZ e0 Eo
  obtain ⟨vv163, _, ⟨T163, L163, k163, n163⟩, -, X163, ⟨Lc163, hQ163, l163, y163, z163⟩, st163⟩ := X0.virtualBack hx (y := (⟨"java/lang/String", "length", "()I"⟩ : MethodName)) (z := (⟨"java/lang/String", "length", "()I"⟩ : MethodName)) hown (mvT hZ (hw _ (List.mem_of_getElem? (i := 38) rfl))) (mvT hZ (hw _ (List.mem_of_getElem? (i := 39) rfl))) (notFace_of_selects (args := #[]) (mvT hZ (hw _ (List.mem_of_getElem? (i := 41) rfl)))) (mvT hZ (hw _ (List.mem_of_getElem? (i := 41) rfl))) (mvT hZ (hw _ (List.mem_of_getElem? (i := 40) rfl))) (by decide) (StrChars.Road.lenW (W := 0) hZ hwl (kI := 4) (hw _ (List.mem_of_getElem? (i := 9) rfl)) (cs := cs) Eo Vo Co Ao Ho Bo (Sz.ext O0.2) hzc Lo (by decide) (by decide)) q163a q163c (g := (mkF m 5 #[.val (.ref r0), .unset] [(.ref r0)])) rfl (by rw [hml]; rfl) (Steps.refl _) (argsL := []) (rest := []) (lenOf pd___I_154 rfl) rfl (by show 2 * 0 + _ ≤ _; exact Nat.le_of_eq rfl) (hb hby d2_5) (fun _ _ => ⟨rfl, e0, (by decide : 0 + 0 ≤ _), (by decide : 0 + 0 ≤ _)⟩)
  dsimp only [Pt.U, Pt.locs, Pt.cells, Pt.slots] at X163 l163 y163 z163 st163 hQ163
  subst l163 y163 z163
  obtain ⟨rfl, rfl, e163q⟩ := hQ163
  have N163q := Fr.nil n0
  have N163 := Fr.app N0 N163q
  refine own_tr st163 ?_
  have e163 : T163.heap = h0 := e163q
  show own_Comes p e below s _ _ _ (T163.setTop (mkF m 8 #[.val (.ref r0), .unset] [(.int (Int32.ofNat cs.length))]))
  refine own_by (fun _ kS => XS.bipush X163.here hx rfl (hb hby d2_8) kS) ?_
  show own_Comes p e below s _ _ _ (T163.setTop (mkF m 10 #[.val (.ref r0), .unset] [(.int (43 : Int32)), (.int (Int32.ofNat cs.length))]))
  by_cases hs1 : (Int32.ofNat cs.length) < (43 : Int32)
  · refine own_by (fun _ kS => XS.icmpYes X163.here hx rfl (pc0 := 10) (pc' := 23) rfl (hb hby d2_10) rfl (tlt hs1).1 (by decide) (by decide) kS) ?_
    show own_Comes p e below s _ _ _ (T163.setTop (mkF m 23 #[.val (.ref r0), .unset] []))
    refine own_by (fun _ kS => XS.iconst X163.here hx rfl (hb hby d2_23) kS) ?_
    show own_Comes p e below s _ _ _ (T163.setTop (mkF m 24 #[.val (.ref r0), .unset] [(.int (0 : Int32))]))
    refine own_ret X163 (v := some (.int (0 : Int32))) (fun h => by rw [Bd.returns] at h; cases h) Bd.notSynchronized (by decide) (by decide) ?_ (fun fs hr => retN X163 hx (t := .boolean) Bd.returns (by simp) (hb hby d2_24) hr)
    rw [e163]; exact ⟨_, rfl, N163, rfl, Or.inr ⟨rfl, own_short (Or.inl ((own_43 (by omega)).mp hs1))⟩⟩
  · refine own_by (fun _ kS => XS.icmpNo X163.here hx rfl (hb hby d2_10) rfl (flt hs1).1 kS) ?_
    show own_Comes p e below s _ _ _ (T163.setTop (mkF m 13 #[.val (.ref r0), .unset] []))
    refine own_by (fun _ kS => XS.aloadN X163.here hx rfl (hb hby d2_13) rfl rfl kS) ?_
    show own_Comes p e below s _ _ _ (T163.setTop (mkF m 14 #[.val (.ref r0), .unset] [(.ref r0)]))
    obtain ⟨cq164, kq164, q164a, q164b, q164c⟩ := isOf hZ e163 Eo
    obtain ⟨vv164, _, ⟨T164, L164, k164, n164⟩, -, X164, ⟨Lc164, hQ164, l164, y164, z164⟩, st164⟩ := X163.virtualBack hx (y := (⟨"java/lang/String", "length", "()I"⟩ : MethodName)) (z := (⟨"java/lang/String", "length", "()I"⟩ : MethodName)) hown (mvT hZ (hw _ (List.mem_of_getElem? (i := 38) rfl))) (mvT hZ (hw _ (List.mem_of_getElem? (i := 39) rfl))) (notFace_of_selects (args := #[]) (mvT hZ (hw _ (List.mem_of_getElem? (i := 41) rfl)))) (mvT hZ (hw _ (List.mem_of_getElem? (i := 41) rfl))) (mvT hZ (hw _ (List.mem_of_getElem? (i := 40) rfl))) (by decide) (StrChars.Road.lenW (W := 0) hZ hwl (kI := 4) (hw _ (List.mem_of_getElem? (i := 9) rfl)) (cs := cs) Eo Vo Co Ao Ho Bo (Sz.ext O0.2) hzc Lo (by decide) (by decide)) q164a q164c (g := (mkF m 14 #[.val (.ref r0), .unset] [(.ref r0)])) rfl (by rw [hml]; rfl) (Steps.refl _) (argsL := []) (rest := []) (lenOf pd___I_154 rfl) rfl (by show 2 * 0 + _ ≤ _; exact Nat.le_of_eq rfl) (hb hby d2_14) (fun _ _ => ⟨rfl, e163, (by decide : 0 + 0 ≤ _), (by decide : 0 + 0 ≤ _)⟩)
    dsimp only [Pt.U, Pt.locs, Pt.cells, Pt.slots] at X164 l164 y164 z164 st164 hQ164
    subst l164 y164 z164
    obtain ⟨rfl, rfl, e164q⟩ := hQ164
    have N164q := Fr.nil n0
    have N164 := Fr.app N163 N164q
    refine own_tr st164 ?_
    have e164 : T164.heap = h0 := e164q
    show own_Comes p e below s _ _ _ (T164.setTop (mkF m 17 #[.val (.ref r0), .unset] [(.int (Int32.ofNat cs.length))]))
    refine own_by (fun _ kS => XS.sipush X164.here hx rfl (hb hby d2_17) kS) ?_
    show own_Comes p e below s _ _ _ (T164.setTop (mkF m 20 #[.val (.ref r0), .unset] [(.int (128 : Int32)), (.int (Int32.ofNat cs.length))]))
    by_cases hs2 : (128 : Int32) < (Int32.ofNat cs.length)
    · refine own_by (fun _ kS => XS.icmpNo X164.here hx rfl (hb hby d2_20) rfl (tlt hs2).2.2.2 kS) ?_
      show own_Comes p e below s _ _ _ (T164.setTop (mkF m 23 #[.val (.ref r0), .unset] []))
      refine own_by (fun _ kS => XS.iconst X164.here hx rfl (hb hby d2_23) kS) ?_
      show own_Comes p e below s _ _ _ (T164.setTop (mkF m 24 #[.val (.ref r0), .unset] [(.int (0 : Int32))]))
      refine own_ret X164 (v := some (.int (0 : Int32))) (fun h => by rw [Bd.returns] at h; cases h) Bd.notSynchronized (by decide) (by decide) ?_ (fun fs hr => retN X164 hx (t := .boolean) Bd.returns (by simp) (hb hby d2_24) hr)
      rw [e164]; exact ⟨_, rfl, N164, rfl, Or.inr ⟨rfl, own_short (Or.inr ((own_128 (by omega)).mp hs2))⟩⟩
    · refine own_by (fun _ kS => XS.icmpYes X164.here hx rfl (pc0 := 20) (pc' := 25) rfl (hb hby d2_20) rfl (flt hs2).2.2.2 (by decide) (by decide) kS) ?_
      show own_Comes p e below s _ _ _ (T164.setTop (mkF m 25 #[.val (.ref r0), .unset] []))
      have h43 : 43 ≤ cs.length := Nat.le_of_not_lt fun q => hs1 ((own_43 (by omega)).mpr q)
      have h128 : cs.length ≤ 128 := Nat.le_of_not_lt fun q => hs2 ((own_128 (by omega)).mpr q)
      refine own_by (fun _ kS => XS.iconst X164.here hx rfl (hb hby d2_25) kS) ?_
      show own_Comes p e below s _ _ _ (T164.setTop (mkF m 26 #[.val (.ref r0), .unset] [(.int (0 : Int32))]))
      refine own_by (fun _ kS => XS.istoreN X164.here hx rfl (hb hby d2_26) rfl (l' := #[.val (.ref r0), .val (.int (0 : Int32))]) rfl kS) ?_
      show own_Comes p e below s _ _ _ (T164.setTop (mkF m 27 #[.val (.ref r0), .val (.int (0 : Int32))] []))
      exact J27 (cs.length + 1) 0 _ _ _ (by omega) (by omega) h43 h128 (fun j hj => absurd hj (by omega)) rfl (X164.more (by decide) (by decide)) e164 N164 O0 Z0
def Q0 (Z : State) (h0 : Heap) (n0 : Nat) (v : Option Value) (h : Heap) (L : List Loc) : Prop := v = some (.int (1 : Int32)) ∧ Fr n0 L
theorem ef_rm0 (m : MethodId) (x0 : Int32) (x1 : Int32) (x2 : Int32) (x3 : Int32) (x4 : Int32) : entryFrame m #[(.int x0), (.int x1), (.int x2), (.int x3), (.int x4)] maxLocals = mkF m 0 #[.val (.int x0), .val (.int x1), .val (.int x2), .val (.int x3), .val (.int x4), .unset, .unset, .unset, .unset, .unset, .unset, .unset, .unset] [] := by first | (simp [entryFrame, mkF, argsToLocals, Value.category, maxLocals]; done) | rfl
theorem pd__Ljava_lang_String__Z_870 : parseMethodDescriptor "(Ljava/lang/String;)Z" = some ⟨[(.object "java/lang/String")], some .boolean⟩ := by decide +kernel
theorem pd__C_Ljava_lang_String__847 : parseMethodDescriptor "(C)Ljava/lang/String;" = some ⟨[.char], some (.object "java/lang/String")⟩ := by decide +kernel
theorem pd___C_V_325 : parseMethodDescriptor "([C)V" = some ⟨[(.array .char)], none⟩ := by decide +kernel
theorem pd__CCCC__C_507 : parseMethodDescriptor "(CCCC)[C" = some ⟨[.char, .char, .char, .char], some (.array .char)⟩ := by decide +kernel
set_option maxRecDepth 65536 in
set_option maxHeartbeats 40000000 in
theorem rm0 (l : Launch) (Z : State) (a0 : Array Value) (hw : ∀ d ∈ tables_1, d.before a0 Z = true) (ws : List Jvm.Cond) (p0 p1 p2 p3 p4 zc : Int32) (fm : Value) (h0 : Heap) (n0 : Nat) (Z0 : n0 ≤ h0.size) (O0 : Old Z n0 h0) (Sz : Sta Z Z.heap "java/lang/String" "COMPACT_STRINGS" "Z" (.int zc)) (hzc : ¬ zc = 0) (Sf : Sta Z Z.heap "jdk/internal/util/Preconditions" "SIOOBE_FORMATTER" "Ljava/util/function/BiFunction;" fm) (i_fm : fm.isRef = true) (Sd : Sta Z Z.heap "java/lang/StringUTF16" "$assertionsDisabled" "Z" (.int (1 : Int32))) (Sh : Sta Z Z.heap "java/lang/StringUTF16" "HI_BYTE_SHIFT" "I" (.int (0 : Int32))) (Sl : Sta Z Z.heap "java/lang/StringUTF16" "LO_BYTE_SHIFT" "I" (.int (8 : Int32))) :
    MetFree l x (head1 (Jvm.Cond.code x code maxLocals ret :: ws) room_1) (fun aX UX => aX = #[(.int p0), (.int p1), (.int p2), (.int p3), (.int p4)] ∧ Z.Warmed39 UX.vm ∧ UX.heap = h0 ∧ CHv Z own_EL UX.vm h0) (fun _ _ _ _ _ => True) (fun _ UX oX UX' => ∃ vX LX, oX = .returned vX ∧ Q0 Z  h0 n0 vX UX'.heap LX ∧ CHr Z own_EL UX.vm UX.heap UX'.vm UX'.heap ∧ ReturnedEndW UX oX UX' LX room_1.cells room_1.slots) := by
  refine MetFree.of_bodySF (plainFor_of_name pn_com_example_eslabon_eslabon_CodeChallengeMethodIsWellFormedPinLaw) hisR ?_
  intro p e s m args below meth c s₁ Bd hml0 hP hK
  obtain ⟨rfl, hZ, hh, hCH0⟩ := hP
  have hx := Bd.exec
  have hby := Bd.bytes
  have hml : c.maxLocals = 13 := hml0
  have hown : s.vm.findClass "com/example/eslabon/eslabon/CodeChallengeMethodIsWellFormedPinLaw" = some m.cls := findClass_of_methodNamed Bd.named
  have hnm := (name_of_methodNamed Bd.named Bd.method).1
  have X0 : Stand p l e room_1 (s.setVm s.vm) m #[(.int p0), (.int p1), (.int p2), (.int p3), (.int p4)] below meth c s₁ [] 0 0 := Stand.of_body Bd
  have hS : s.Since s.vm 0 := (State.WarmedH.refl s).since 0
  have hk : 0 ≤ h0.size := Nat.zero_le _
  have hZ : Z.Warmed39 (s.setVm s.vm).vm := hZ
  have hown : (s.setVm s.vm).vm.findClass "com/example/eslabon/eslabon/CodeChallengeMethodIsWellFormedPinLaw" = some m.cls := hown
  have hEL := own_EW hw
  have CH : CHr Z own_EL (s.setVm s.vm).vm h0 (s.setVm s.vm).vm h0 := CHr.refl hCH0
  have e0 : s₁.heap = h0 := by rw [← hh, Bd.state]; rfl
  have N0 := Fr.nil n0
  show own_ComesH Z p e below s room_1.cells room_1.slots (Q0 Z  h0 n0) _
  rw [show entryFrame m #[(.int p0), (.int p1), (.int p2), (.int p3), (.int p4)] maxLocals = mkF m 0 #[.val (.int p0), .val (.int p1), .val (.int p2), .val (.int p3), .val (.int p4), .unset, .unset, .unset, .unset, .unset, .unset, .unset, .unset] [] from ef_rm0 m p0 p1 p2 p3 p4]
  show own_ComesH Z p e below s _ _ _ (s₁.setTop (mkF m 0 #[.val (.int p0), .val (.int p1), .val (.int p2), .val (.int p3), .val (.int p4), .unset, .unset, .unset, .unset, .unset, .unset, .unset, .unset] []))
  have hws : ∀ d ∈ StrChars.Road.words, d.before a0 Z = true := fun d hd => hw d ((by decide +kernel : ∀ d ∈ StrChars.Road.words, d ∈ tables_1) d hd)
  have J267 : ∀ (vJ267 : Vm) (TJ267 : State) (hJ267 : Heap) (LJ267 : List Loc) (kJ267 : Nat) (z9 : Int32) (w11 : Value) (z12 : Int32), Stand p l e room_1 (s.setVm vJ267) m #[(.int p0), (.int p1), (.int p2), (.int p3), (.int p4)] below meth c TJ267 LJ267 6 600 → TJ267.heap = hJ267 → Z.Warmed39 (s.setVm vJ267).vm → (s.setVm vJ267).vm.findClass "com/example/eslabon/eslabon/CodeChallengeMethodIsWellFormedPinLaw" = some m.cls → s.Since vJ267 kJ267 → kJ267 ≤ hJ267.size → CHr Z own_EL (s.setVm s.vm).vm h0 (s.setVm vJ267).vm hJ267 → Fr n0 LJ267 → Old Z n0 hJ267 → n0 ≤ hJ267.size → (own_val Z hJ267 w11 z12) → own_ComesH Z p e below s room_1.cells room_1.slots (Q0 Z h0 n0) (TJ267.setTop (mkF m 267 #[.val (.int p0), .val (.int p1), .val (.int p2), .val (.int p3), .val (.int p4), .val (.int (p1.toUInt32.toUInt16.toUInt32.toInt32)), .val (.int (p2.toUInt32.toUInt16.toUInt32.toInt32)), .val (.int (p3.toUInt32.toUInt16.toUInt32.toInt32)), .val (.int (p4.toUInt32.toUInt16.toUInt32.toInt32)), .val (.int z9), .val (.int (p0 &&& (7 : Int32))), .val w11, .val (.int z12)] [])) := by
    intro vJ267 TJ267 hJ267 LJ267 kJ267 z9 w11 z12 XJ267 eJ267 hZJ267 hownJ267 hSJ267 hkJ267 CHJ267 NJ267 OJ267 ZJ267 hV
    show own_ComesH Z p e below s _ _ _ (TJ267.setTop (mkF m 267 #[.val (.int p0), .val (.int p1), .val (.int p2), .val (.int p3), .val (.int p4), .val (.int (p1.toUInt32.toUInt16.toUInt32.toInt32)), .val (.int (p2.toUInt32.toUInt16.toUInt32.toInt32)), .val (.int (p3.toUInt32.toUInt16.toUInt32.toInt32)), .val (.int (p4.toUInt32.toUInt16.toUInt32.toInt32)), .val (.int z9), .val (.int (p0 &&& (7 : Int32))), .val w11, .val (.int z12)] []))
    rcases hV with ⟨rfl, rfl⟩ | ⟨xx, cs, rfl, hYx, hz12⟩
    · show own_ComesH Z p e below s _ _ _ (TJ267.setTop (mkF m 267 #[.val (.int p0), .val (.int p1), .val (.int p2), .val (.int p3), .val (.int p4), .val (.int (p1.toUInt32.toUInt16.toUInt32.toInt32)), .val (.int (p2.toUInt32.toUInt16.toUInt32.toInt32)), .val (.int (p3.toUInt32.toUInt16.toUInt32.toInt32)), .val (.int (p4.toUInt32.toUInt16.toUInt32.toInt32)), .val (.int z9), .val (.int (p0 &&& (7 : Int32))), .val .null, .val (.int (0 : Int32))] []))
      refine own_byH (fun _ kS => XS.aload XJ267.here hx rfl (hb hby at_267) rfl rfl kS) ?_
      show own_ComesH Z p e below s _ _ _ (TJ267.setTop (mkF m 269 #[.val (.int p0), .val (.int p1), .val (.int p2), .val (.int p3), .val (.int p4), .val (.int (p1.toUInt32.toUInt16.toUInt32.toInt32)), .val (.int (p2.toUInt32.toUInt16.toUInt32.toInt32)), .val (.int (p3.toUInt32.toUInt16.toUInt32.toInt32)), .val (.int (p4.toUInt32.toUInt16.toUInt32.toInt32)), .val (.int z9), .val (.int (p0 &&& (7 : Int32))), .val .null, .val (.int (0 : Int32))] [.null]))
      obtain ⟨vv165, _, ⟨T165, L165, k165, n165⟩, -, X165, ⟨Lc165, hQ165, l165, y165, z165⟩, st165⟩ := Jvm.LawKit.callS XJ267 hx (y := (⟨"com/example/eslabon/eslabon/CodeChallengeMethod", "isWellFormed", "(Ljava/lang/String;)Z"⟩ : MethodName)) hownJ267 (mvT hZJ267 (hw _ (List.mem_of_getElem? (i := 4) rfl))) (mvT hZJ267 (hw _ (List.mem_of_getElem? (i := 5) rfl))) (mvT hZJ267 (hw _ (List.mem_of_getElem? (i := 6) rfl))) (mvT hZJ267 (hw _ (List.mem_of_getElem? (i := 7) rfl))) (by decide) (backOf (W := 0) (rm2n l Z a0 hw []  hJ267 n0 ZJ267) hZJ267 (hw _ (List.mem_of_getElem? (i := 7) rfl)) (hw _ (List.mem_of_getElem? (i := 6) rfl)) (by decide) (by decide)) (g := (mkF m 269 #[.val (.int p0), .val (.int p1), .val (.int p2), .val (.int p3), .val (.int p4), .val (.int (p1.toUInt32.toUInt16.toUInt32.toInt32)), .val (.int (p2.toUInt32.toUInt16.toUInt32.toInt32)), .val (.int (p3.toUInt32.toUInt16.toUInt32.toInt32)), .val (.int (p4.toUInt32.toUInt16.toUInt32.toInt32)), .val (.int z9), .val (.int (p0 &&& (7 : Int32))), .val .null, .val (.int (0 : Int32))] [.null])) rfl (by rw [hml]; rfl) (argsL := [.null]) (rest := []) (lenOf pd__Ljava_lang_String__Z_870 rfl) rfl (by show 2 * 0 + _ ≤ _; exact Nat.le_of_eq rfl) (hb hby at_269) (fun _ _ => ⟨rfl, eJ267, (by decide : 6 + 0 ≤ _), (by decide : 600 + 0 ≤ _)⟩)
      dsimp only [Pt.U, Pt.locs, Pt.cells, Pt.slots] at X165 l165 y165 z165 st165 hQ165
      subst l165 y165 z165
      obtain ⟨rfl, N165q, e165q⟩ := hQ165
      have N165 := Fr.app NJ267 N165q
      refine own_byH st165 ?_
      have e165 : T165.heap = hJ267 := e165q
      show own_ComesH Z p e below s _ _ _ (T165.setTop (mkF m 272 #[.val (.int p0), .val (.int p1), .val (.int p2), .val (.int p3), .val (.int p4), .val (.int (p1.toUInt32.toUInt16.toUInt32.toInt32)), .val (.int (p2.toUInt32.toUInt16.toUInt32.toInt32)), .val (.int (p3.toUInt32.toUInt16.toUInt32.toInt32)), .val (.int (p4.toUInt32.toUInt16.toUInt32.toInt32)), .val (.int z9), .val (.int (p0 &&& (7 : Int32))), .val .null, .val (.int (0 : Int32))] [(.int (0 : Int32))]))
      refine own_byH (fun _ kS => XS.iload X165.here hx rfl (hb hby at_272) rfl kS) ?_
      show own_ComesH Z p e below s _ _ _ (T165.setTop (mkF m 274 #[.val (.int p0), .val (.int p1), .val (.int p2), .val (.int p3), .val (.int p4), .val (.int (p1.toUInt32.toUInt16.toUInt32.toInt32)), .val (.int (p2.toUInt32.toUInt16.toUInt32.toInt32)), .val (.int (p3.toUInt32.toUInt16.toUInt32.toInt32)), .val (.int (p4.toUInt32.toUInt16.toUInt32.toInt32)), .val (.int z9), .val (.int (p0 &&& (7 : Int32))), .val .null, .val (.int (0 : Int32))] [(.int (0 : Int32)), (.int (0 : Int32))]))
      have hb166 : (0 : Int32) = (0 : Int32) := by decide
      refine own_byH (fun _ kS => XS.icmpNo X165.here hx rfl (hb hby at_274) rfl (teq hb166).2 kS) ?_
      show own_ComesH Z p e below s _ _ _ (T165.setTop (mkF m 277 #[.val (.int p0), .val (.int p1), .val (.int p2), .val (.int p3), .val (.int p4), .val (.int (p1.toUInt32.toUInt16.toUInt32.toInt32)), .val (.int (p2.toUInt32.toUInt16.toUInt32.toInt32)), .val (.int (p3.toUInt32.toUInt16.toUInt32.toInt32)), .val (.int (p4.toUInt32.toUInt16.toUInt32.toInt32)), .val (.int z9), .val (.int (p0 &&& (7 : Int32))), .val .null, .val (.int (0 : Int32))] []))
      refine own_byH (fun _ kS => XS.iconst X165.here hx rfl (hb hby at_277) kS) ?_
      show own_ComesH Z p e below s _ _ _ (T165.setTop (mkF m 278 #[.val (.int p0), .val (.int p1), .val (.int p2), .val (.int p3), .val (.int p4), .val (.int (p1.toUInt32.toUInt16.toUInt32.toInt32)), .val (.int (p2.toUInt32.toUInt16.toUInt32.toInt32)), .val (.int (p3.toUInt32.toUInt16.toUInt32.toInt32)), .val (.int (p4.toUInt32.toUInt16.toUInt32.toInt32)), .val (.int z9), .val (.int (p0 &&& (7 : Int32))), .val .null, .val (.int (0 : Int32))] [(.int (1 : Int32))]))
      refine own_byH (fun _ kS => XS.goto X165.here hx rfl (pc0 := 278) (pc' := 282) rfl (hb hby at_278) (by decide) (by decide) kS) ?_
      show own_ComesH Z p e below s _ _ _ (T165.setTop (mkF m 282 #[.val (.int p0), .val (.int p1), .val (.int p2), .val (.int p3), .val (.int p4), .val (.int (p1.toUInt32.toUInt16.toUInt32.toInt32)), .val (.int (p2.toUInt32.toUInt16.toUInt32.toInt32)), .val (.int (p3.toUInt32.toUInt16.toUInt32.toInt32)), .val (.int (p4.toUInt32.toUInt16.toUInt32.toInt32)), .val (.int z9), .val (.int (p0 &&& (7 : Int32))), .val .null, .val (.int (0 : Int32))] [(.int (1 : Int32))]))
      have hkr167 := hkJ267
      have hcr167 := CHJ267.trans (CHv.at X165 hZJ267 hEL CHJ267.1)
      refine own_retH X165 hSJ267 (by rw [e165]; exact hkr167) (by rw [hh]; rw [e165]; exact hcr167) (v := some (.int (1 : Int32))) (fun h => by rw [Bd.returns] at h; cases h) Bd.notSynchronized (by decide) (by decide) ?_ (fun fs hr => retN X165 hx (t := .boolean) Bd.returns (by simp) (hb hby at_282) hr)
      rw [e165]; exact ⟨rfl, N165⟩
    · show own_ComesH Z p e below s _ _ _ (TJ267.setTop (mkF m 267 #[.val (.int p0), .val (.int p1), .val (.int p2), .val (.int p3), .val (.int p4), .val (.int (p1.toUInt32.toUInt16.toUInt32.toInt32)), .val (.int (p2.toUInt32.toUInt16.toUInt32.toInt32)), .val (.int (p3.toUInt32.toUInt16.toUInt32.toInt32)), .val (.int (p4.toUInt32.toUInt16.toUInt32.toInt32)), .val (.int z9), .val (.int (p0 &&& (7 : Int32))), .val (.ref xx), .val (.int z12)] []))
      refine own_byH (fun _ kS => XS.aload XJ267.here hx rfl (hb hby at_267) rfl rfl kS) ?_
      show own_ComesH Z p e below s _ _ _ (TJ267.setTop (mkF m 269 #[.val (.int p0), .val (.int p1), .val (.int p2), .val (.int p3), .val (.int p4), .val (.int (p1.toUInt32.toUInt16.toUInt32.toInt32)), .val (.int (p2.toUInt32.toUInt16.toUInt32.toInt32)), .val (.int (p3.toUInt32.toUInt16.toUInt32.toInt32)), .val (.int (p4.toUInt32.toUInt16.toUInt32.toInt32)), .val (.int z9), .val (.int (p0 &&& (7 : Int32))), .val (.ref xx), .val (.int z12)] [(.ref xx)]))
      obtain ⟨vv168, _, ⟨T168, L168, k168, n168⟩, -, X168, ⟨Lc168, hQ168, l168, y168, z168⟩, st168⟩ := Jvm.LawKit.callS XJ267 hx (y := (⟨"com/example/eslabon/eslabon/CodeChallengeMethod", "isWellFormed", "(Ljava/lang/String;)Z"⟩ : MethodName)) hownJ267 (mvT hZJ267 (hw _ (List.mem_of_getElem? (i := 4) rfl))) (mvT hZJ267 (hw _ (List.mem_of_getElem? (i := 5) rfl))) (mvT hZJ267 (hw _ (List.mem_of_getElem? (i := 6) rfl))) (mvT hZJ267 (hw _ (List.mem_of_getElem? (i := 7) rfl))) (by decide) (backOf (W := 0) (rm2 l Z a0 hw [] xx cs zc fm hJ267 n0 ZJ267 OJ267 Sz hzc Sf i_fm Sd Sh Sl hYx) hZJ267 (hw _ (List.mem_of_getElem? (i := 7) rfl)) (hw _ (List.mem_of_getElem? (i := 6) rfl)) (by decide) (by decide)) (g := (mkF m 269 #[.val (.int p0), .val (.int p1), .val (.int p2), .val (.int p3), .val (.int p4), .val (.int (p1.toUInt32.toUInt16.toUInt32.toInt32)), .val (.int (p2.toUInt32.toUInt16.toUInt32.toInt32)), .val (.int (p3.toUInt32.toUInt16.toUInt32.toInt32)), .val (.int (p4.toUInt32.toUInt16.toUInt32.toInt32)), .val (.int z9), .val (.int (p0 &&& (7 : Int32))), .val (.ref xx), .val (.int z12)] [(.ref xx)])) rfl (by rw [hml]; rfl) (argsL := [(.ref xx)]) (rest := []) (lenOf pd__Ljava_lang_String__Z_870 rfl) rfl (by show 2 * 0 + _ ≤ _; exact Nat.le_of_eq rfl) (hb hby at_269) (fun _ _ => ⟨rfl, eJ267, (by decide : 6 + 0 ≤ _), (by decide : 600 + 0 ≤ _)⟩)
      dsimp only [Pt.U, Pt.locs, Pt.cells, Pt.slots] at X168 l168 y168 z168 st168 hQ168
      subst l168 y168 z168
      obtain ⟨z168, rfl, N168q, e168q, hz168⟩ := hQ168
      have N168 := Fr.app NJ267 N168q
      refine own_byH st168 ?_
      have e168 : T168.heap = hJ267 := e168q
      show own_ComesH Z p e below s _ _ _ (T168.setTop (mkF m 272 #[.val (.int p0), .val (.int p1), .val (.int p2), .val (.int p3), .val (.int p4), .val (.int (p1.toUInt32.toUInt16.toUInt32.toInt32)), .val (.int (p2.toUInt32.toUInt16.toUInt32.toInt32)), .val (.int (p3.toUInt32.toUInt16.toUInt32.toInt32)), .val (.int (p4.toUInt32.toUInt16.toUInt32.toInt32)), .val (.int z9), .val (.int (p0 &&& (7 : Int32))), .val (.ref xx), .val (.int z12)] [(.int z168)]))
      refine own_byH (fun _ kS => XS.iload X168.here hx rfl (hb hby at_272) rfl kS) ?_
      show own_ComesH Z p e below s _ _ _ (T168.setTop (mkF m 274 #[.val (.int p0), .val (.int p1), .val (.int p2), .val (.int p3), .val (.int p4), .val (.int (p1.toUInt32.toUInt16.toUInt32.toInt32)), .val (.int (p2.toUInt32.toUInt16.toUInt32.toInt32)), .val (.int (p3.toUInt32.toUInt16.toUInt32.toInt32)), .val (.int (p4.toUInt32.toUInt16.toUInt32.toInt32)), .val (.int z9), .val (.int (p0 &&& (7 : Int32))), .val (.ref xx), .val (.int z12)] [(.int z12), (.int z168)]))
      have heq : z168 = z12 := by
        rcases hz168 with ⟨q1, q2⟩ | ⟨q1, q2⟩ <;> rcases hz12 with ⟨q3, q4⟩ | ⟨q3, q4⟩
        · exact q1.trans q3.symm
        · exact absurd q2 q4
        · exact absurd q4 q2
        · exact q1.trans q3.symm
      refine own_byH (fun _ kS => XS.icmpNo X168.here hx rfl (hb hby at_274) rfl (teq heq).2 kS) ?_
      show own_ComesH Z p e below s _ _ _ (T168.setTop (mkF m 277 #[.val (.int p0), .val (.int p1), .val (.int p2), .val (.int p3), .val (.int p4), .val (.int (p1.toUInt32.toUInt16.toUInt32.toInt32)), .val (.int (p2.toUInt32.toUInt16.toUInt32.toInt32)), .val (.int (p3.toUInt32.toUInt16.toUInt32.toInt32)), .val (.int (p4.toUInt32.toUInt16.toUInt32.toInt32)), .val (.int z9), .val (.int (p0 &&& (7 : Int32))), .val (.ref xx), .val (.int z12)] []))
      refine own_byH (fun _ kS => XS.iconst X168.here hx rfl (hb hby at_277) kS) ?_
      show own_ComesH Z p e below s _ _ _ (T168.setTop (mkF m 278 #[.val (.int p0), .val (.int p1), .val (.int p2), .val (.int p3), .val (.int p4), .val (.int (p1.toUInt32.toUInt16.toUInt32.toInt32)), .val (.int (p2.toUInt32.toUInt16.toUInt32.toInt32)), .val (.int (p3.toUInt32.toUInt16.toUInt32.toInt32)), .val (.int (p4.toUInt32.toUInt16.toUInt32.toInt32)), .val (.int z9), .val (.int (p0 &&& (7 : Int32))), .val (.ref xx), .val (.int z12)] [(.int (1 : Int32))]))
      refine own_byH (fun _ kS => XS.goto X168.here hx rfl (pc0 := 278) (pc' := 282) rfl (hb hby at_278) (by decide) (by decide) kS) ?_
      show own_ComesH Z p e below s _ _ _ (T168.setTop (mkF m 282 #[.val (.int p0), .val (.int p1), .val (.int p2), .val (.int p3), .val (.int p4), .val (.int (p1.toUInt32.toUInt16.toUInt32.toInt32)), .val (.int (p2.toUInt32.toUInt16.toUInt32.toInt32)), .val (.int (p3.toUInt32.toUInt16.toUInt32.toInt32)), .val (.int (p4.toUInt32.toUInt16.toUInt32.toInt32)), .val (.int z9), .val (.int (p0 &&& (7 : Int32))), .val (.ref xx), .val (.int z12)] [(.int (1 : Int32))]))
      have hkr169 := hkJ267
      have hcr169 := CHJ267.trans (CHv.at X168 hZJ267 hEL CHJ267.1)
      refine own_retH X168 hSJ267 (by rw [e168]; exact hkr169) (by rw [hh]; rw [e168]; exact hcr169) (v := some (.int (1 : Int32))) (fun h => by rw [Bd.returns] at h; cases h) Bd.notSynchronized (by decide) (by decide) ?_ (fun fs hr => retN X168 hx (t := .boolean) Bd.returns (by simp) (hb hby at_282) hr)
      rw [e168]; exact ⟨rfl, N168⟩
  have J56 : ∀ (vJ56 : Vm) (TJ56 : State) (hJ56 : Heap) (LJ56 : List Loc) (kJ56 : Nat) (z9 : Int32), Stand p l e room_1 (s.setVm vJ56) m #[(.int p0), (.int p1), (.int p2), (.int p3), (.int p4)] below meth c TJ56 LJ56 0 0 → TJ56.heap = hJ56 → Z.Warmed39 (s.setVm vJ56).vm → (s.setVm vJ56).vm.findClass "com/example/eslabon/eslabon/CodeChallengeMethodIsWellFormedPinLaw" = some m.cls → s.Since vJ56 kJ56 → kJ56 ≤ hJ56.size → CHr Z own_EL (s.setVm s.vm).vm h0 (s.setVm vJ56).vm hJ56 → Fr n0 LJ56 → Old Z n0 hJ56 → n0 ≤ hJ56.size → ((z9 = 1 ∧ (own_un (p2.toUInt32.toUInt16.toUInt32.toInt32) ∧ own_un (p3.toUInt32.toUInt16.toUInt32.toInt32) ∧ own_un (p1.toUInt32.toUInt16.toUInt32.toInt32) ∧ own_un (p4.toUInt32.toUInt16.toUInt32.toInt32))) ∨ (z9 = 0 ∧ ¬ (own_un (p2.toUInt32.toUInt16.toUInt32.toInt32) ∧ own_un (p3.toUInt32.toUInt16.toUInt32.toInt32) ∧ own_un (p1.toUInt32.toUInt16.toUInt32.toInt32) ∧ own_un (p4.toUInt32.toUInt16.toUInt32.toInt32)))) → own_ComesH Z p e below s room_1.cells room_1.slots (Q0 Z h0 n0) (TJ56.setTop (mkF m 56 #[.val (.int p0), .val (.int p1), .val (.int p2), .val (.int p3), .val (.int p4), .val (.int (p1.toUInt32.toUInt16.toUInt32.toInt32)), .val (.int (p2.toUInt32.toUInt16.toUInt32.toInt32)), .val (.int (p3.toUInt32.toUInt16.toUInt32.toInt32)), .val (.int (p4.toUInt32.toUInt16.toUInt32.toInt32)), .val (.int z9), .unset, .unset, .unset] [])) := by
    intro vJ56 TJ56 hJ56 LJ56 kJ56 z9 XJ56 eJ56 hZJ56 hownJ56 hSJ56 hkJ56 CHJ56 NJ56 OJ56 ZJ56 hA
    show own_ComesH Z p e below s _ _ _ (TJ56.setTop (mkF m 56 #[.val (.int p0), .val (.int p1), .val (.int p2), .val (.int p3), .val (.int p4), .val (.int (p1.toUInt32.toUInt16.toUInt32.toInt32)), .val (.int (p2.toUInt32.toUInt16.toUInt32.toInt32)), .val (.int (p3.toUInt32.toUInt16.toUInt32.toInt32)), .val (.int (p4.toUInt32.toUInt16.toUInt32.toInt32)), .val (.int z9), .unset, .unset, .unset] []))
    refine own_byH (fun _ kS => XS.iloadN XJ56.here hx rfl (hb hby at_56) rfl kS) ?_
    show own_ComesH Z p e below s _ _ _ (TJ56.setTop (mkF m 57 #[.val (.int p0), .val (.int p1), .val (.int p2), .val (.int p3), .val (.int p4), .val (.int (p1.toUInt32.toUInt16.toUInt32.toInt32)), .val (.int (p2.toUInt32.toUInt16.toUInt32.toInt32)), .val (.int (p3.toUInt32.toUInt16.toUInt32.toInt32)), .val (.int (p4.toUInt32.toUInt16.toUInt32.toInt32)), .val (.int z9), .unset, .unset, .unset] [(.int p0)]))
    refine own_byH (fun _ kS => XS.bipush XJ56.here hx rfl (hb hby at_57) kS) ?_
    show own_ComesH Z p e below s _ _ _ (TJ56.setTop (mkF m 59 #[.val (.int p0), .val (.int p1), .val (.int p2), .val (.int p3), .val (.int p4), .val (.int (p1.toUInt32.toUInt16.toUInt32.toInt32)), .val (.int (p2.toUInt32.toUInt16.toUInt32.toInt32)), .val (.int (p3.toUInt32.toUInt16.toUInt32.toInt32)), .val (.int (p4.toUInt32.toUInt16.toUInt32.toInt32)), .val (.int z9), .unset, .unset, .unset] [(.int (7 : Int32)), (.int p0)]))
    refine own_byH (fun _ kS => XS.iand XJ56.here hx rfl (hb hby at_59) rfl kS) ?_
    show own_ComesH Z p e below s _ _ _ (TJ56.setTop (mkF m 60 #[.val (.int p0), .val (.int p1), .val (.int p2), .val (.int p3), .val (.int p4), .val (.int (p1.toUInt32.toUInt16.toUInt32.toInt32)), .val (.int (p2.toUInt32.toUInt16.toUInt32.toInt32)), .val (.int (p3.toUInt32.toUInt16.toUInt32.toInt32)), .val (.int (p4.toUInt32.toUInt16.toUInt32.toInt32)), .val (.int z9), .unset, .unset, .unset] [(.int (p0 &&& (7 : Int32)))]))
    refine own_byH (fun _ kS => XS.istore XJ56.here hx rfl (hb hby at_60) rfl (l' := #[.val (.int p0), .val (.int p1), .val (.int p2), .val (.int p3), .val (.int p4), .val (.int (p1.toUInt32.toUInt16.toUInt32.toInt32)), .val (.int (p2.toUInt32.toUInt16.toUInt32.toInt32)), .val (.int (p3.toUInt32.toUInt16.toUInt32.toInt32)), .val (.int (p4.toUInt32.toUInt16.toUInt32.toInt32)), .val (.int z9), .val (.int (p0 &&& (7 : Int32))), .unset, .unset]) rfl kS) ?_
    show own_ComesH Z p e below s _ _ _ (TJ56.setTop (mkF m 62 #[.val (.int p0), .val (.int p1), .val (.int p2), .val (.int p3), .val (.int p4), .val (.int (p1.toUInt32.toUInt16.toUInt32.toInt32)), .val (.int (p2.toUInt32.toUInt16.toUInt32.toInt32)), .val (.int (p3.toUInt32.toUInt16.toUInt32.toInt32)), .val (.int (p4.toUInt32.toUInt16.toUInt32.toInt32)), .val (.int z9), .val (.int (p0 &&& (7 : Int32))), .unset, .unset] []))
    refine own_byH (fun _ kS => XS.iload XJ56.here hx rfl (hb hby at_62) rfl kS) ?_
    show own_ComesH Z p e below s _ _ _ (TJ56.setTop (mkF m 64 #[.val (.int p0), .val (.int p1), .val (.int p2), .val (.int p3), .val (.int p4), .val (.int (p1.toUInt32.toUInt16.toUInt32.toInt32)), .val (.int (p2.toUInt32.toUInt16.toUInt32.toInt32)), .val (.int (p3.toUInt32.toUInt16.toUInt32.toInt32)), .val (.int (p4.toUInt32.toUInt16.toUInt32.toInt32)), .val (.int z9), .val (.int (p0 &&& (7 : Int32))), .unset, .unset] [(.int (p0 &&& (7 : Int32)))]))
    by_cases hm0 : (p0 &&& (7 : Int32)) = (0 : Int32)
    · refine own_byH (fun _ kS => XS.ifNo XJ56.here hx rfl (hb hby at_64) rfl ((if0 _ _).trans (teq hm0).2) kS) ?_
      show own_ComesH Z p e below s _ _ _ (TJ56.setTop (mkF m 67 #[.val (.int p0), .val (.int p1), .val (.int p2), .val (.int p3), .val (.int p4), .val (.int (p1.toUInt32.toUInt16.toUInt32.toInt32)), .val (.int (p2.toUInt32.toUInt16.toUInt32.toInt32)), .val (.int (p3.toUInt32.toUInt16.toUInt32.toInt32)), .val (.int (p4.toUInt32.toUInt16.toUInt32.toInt32)), .val (.int z9), .val (.int (p0 &&& (7 : Int32))), .unset, .unset] []))
      refine own_byH (fun _ kS => XS.aconstNull XJ56.here hx rfl (hb hby at_67) kS) ?_
      show own_ComesH Z p e below s _ _ _ (TJ56.setTop (mkF m 68 #[.val (.int p0), .val (.int p1), .val (.int p2), .val (.int p3), .val (.int p4), .val (.int (p1.toUInt32.toUInt16.toUInt32.toInt32)), .val (.int (p2.toUInt32.toUInt16.toUInt32.toInt32)), .val (.int (p3.toUInt32.toUInt16.toUInt32.toInt32)), .val (.int (p4.toUInt32.toUInt16.toUInt32.toInt32)), .val (.int z9), .val (.int (p0 &&& (7 : Int32))), .unset, .unset] [.null]))
      refine own_byH (fun _ kS => XS.astore XJ56.here hx rfl (hb hby at_68) rfl rfl (l' := #[.val (.int p0), .val (.int p1), .val (.int p2), .val (.int p3), .val (.int p4), .val (.int (p1.toUInt32.toUInt16.toUInt32.toInt32)), .val (.int (p2.toUInt32.toUInt16.toUInt32.toInt32)), .val (.int (p3.toUInt32.toUInt16.toUInt32.toInt32)), .val (.int (p4.toUInt32.toUInt16.toUInt32.toInt32)), .val (.int z9), .val (.int (p0 &&& (7 : Int32))), .val .null, .unset]) rfl kS) ?_
      show own_ComesH Z p e below s _ _ _ (TJ56.setTop (mkF m 70 #[.val (.int p0), .val (.int p1), .val (.int p2), .val (.int p3), .val (.int p4), .val (.int (p1.toUInt32.toUInt16.toUInt32.toInt32)), .val (.int (p2.toUInt32.toUInt16.toUInt32.toInt32)), .val (.int (p3.toUInt32.toUInt16.toUInt32.toInt32)), .val (.int (p4.toUInt32.toUInt16.toUInt32.toInt32)), .val (.int z9), .val (.int (p0 &&& (7 : Int32))), .val .null, .unset] []))
      refine own_byH (fun _ kS => XS.iconst XJ56.here hx rfl (hb hby at_70) kS) ?_
      show own_ComesH Z p e below s _ _ _ (TJ56.setTop (mkF m 71 #[.val (.int p0), .val (.int p1), .val (.int p2), .val (.int p3), .val (.int p4), .val (.int (p1.toUInt32.toUInt16.toUInt32.toInt32)), .val (.int (p2.toUInt32.toUInt16.toUInt32.toInt32)), .val (.int (p3.toUInt32.toUInt16.toUInt32.toInt32)), .val (.int (p4.toUInt32.toUInt16.toUInt32.toInt32)), .val (.int z9), .val (.int (p0 &&& (7 : Int32))), .val .null, .unset] [(.int (0 : Int32))]))
      refine own_byH (fun _ kS => XS.istore XJ56.here hx rfl (hb hby at_71) rfl (l' := #[.val (.int p0), .val (.int p1), .val (.int p2), .val (.int p3), .val (.int p4), .val (.int (p1.toUInt32.toUInt16.toUInt32.toInt32)), .val (.int (p2.toUInt32.toUInt16.toUInt32.toInt32)), .val (.int (p3.toUInt32.toUInt16.toUInt32.toInt32)), .val (.int (p4.toUInt32.toUInt16.toUInt32.toInt32)), .val (.int z9), .val (.int (p0 &&& (7 : Int32))), .val .null, .val (.int (0 : Int32))]) rfl kS) ?_
      show own_ComesH Z p e below s _ _ _ (TJ56.setTop (mkF m 73 #[.val (.int p0), .val (.int p1), .val (.int p2), .val (.int p3), .val (.int p4), .val (.int (p1.toUInt32.toUInt16.toUInt32.toInt32)), .val (.int (p2.toUInt32.toUInt16.toUInt32.toInt32)), .val (.int (p3.toUInt32.toUInt16.toUInt32.toInt32)), .val (.int (p4.toUInt32.toUInt16.toUInt32.toInt32)), .val (.int z9), .val (.int (p0 &&& (7 : Int32))), .val .null, .val (.int (0 : Int32))] []))
      refine own_byH (fun _ kS => XS.goto XJ56.here hx rfl (pc0 := 73) (pc' := 267) rfl (hb hby at_73) (by decide) (by decide) kS) ?_
      show own_ComesH Z p e below s _ _ _ (TJ56.setTop (mkF m 267 #[.val (.int p0), .val (.int p1), .val (.int p2), .val (.int p3), .val (.int p4), .val (.int (p1.toUInt32.toUInt16.toUInt32.toInt32)), .val (.int (p2.toUInt32.toUInt16.toUInt32.toInt32)), .val (.int (p3.toUInt32.toUInt16.toUInt32.toInt32)), .val (.int (p4.toUInt32.toUInt16.toUInt32.toInt32)), .val (.int z9), .val (.int (p0 &&& (7 : Int32))), .val .null, .val (.int (0 : Int32))] []))
      exact J267 _ _ _ _ _ z9 .null (0 : Int32) (XJ56.more (by decide) (by decide)) eJ56 hZJ56 hownJ56 hSJ56 hkJ56 CHJ56 NJ56 OJ56 ZJ56 (Or.inl ⟨rfl, rfl⟩)
    · refine own_byH (fun _ kS => XS.ifYes XJ56.here hx rfl (pc0 := 64) (pc' := 76) rfl (hb hby at_64) rfl ((if0 _ _).trans (feq hm0).2) (by decide) (by decide) kS) ?_
      show own_ComesH Z p e below s _ _ _ (TJ56.setTop (mkF m 76 #[.val (.int p0), .val (.int p1), .val (.int p2), .val (.int p3), .val (.int p4), .val (.int (p1.toUInt32.toUInt16.toUInt32.toInt32)), .val (.int (p2.toUInt32.toUInt16.toUInt32.toInt32)), .val (.int (p3.toUInt32.toUInt16.toUInt32.toInt32)), .val (.int (p4.toUInt32.toUInt16.toUInt32.toInt32)), .val (.int z9), .val (.int (p0 &&& (7 : Int32))), .unset, .unset] []))
      refine own_byH (fun _ kS => XS.iload XJ56.here hx rfl (hb hby at_76) rfl kS) ?_
      show own_ComesH Z p e below s _ _ _ (TJ56.setTop (mkF m 78 #[.val (.int p0), .val (.int p1), .val (.int p2), .val (.int p3), .val (.int p4), .val (.int (p1.toUInt32.toUInt16.toUInt32.toInt32)), .val (.int (p2.toUInt32.toUInt16.toUInt32.toInt32)), .val (.int (p3.toUInt32.toUInt16.toUInt32.toInt32)), .val (.int (p4.toUInt32.toUInt16.toUInt32.toInt32)), .val (.int z9), .val (.int (p0 &&& (7 : Int32))), .unset, .unset] [(.int (p0 &&& (7 : Int32)))]))
      refine own_byH (fun _ kS => XS.iconst XJ56.here hx rfl (hb hby at_78) kS) ?_
      show own_ComesH Z p e below s _ _ _ (TJ56.setTop (mkF m 79 #[.val (.int p0), .val (.int p1), .val (.int p2), .val (.int p3), .val (.int p4), .val (.int (p1.toUInt32.toUInt16.toUInt32.toInt32)), .val (.int (p2.toUInt32.toUInt16.toUInt32.toInt32)), .val (.int (p3.toUInt32.toUInt16.toUInt32.toInt32)), .val (.int (p4.toUInt32.toUInt16.toUInt32.toInt32)), .val (.int z9), .val (.int (p0 &&& (7 : Int32))), .unset, .unset] [(.int (1 : Int32)), (.int (p0 &&& (7 : Int32)))]))
      by_cases hm1 : (p0 &&& (7 : Int32)) = (1 : Int32)
      · refine own_byH (fun _ kS => XS.icmpNo XJ56.here hx rfl (hb hby at_79) rfl (teq hm1).2 kS) ?_
        show own_ComesH Z p e below s _ _ _ (TJ56.setTop (mkF m 82 #[.val (.int p0), .val (.int p1), .val (.int p2), .val (.int p3), .val (.int p4), .val (.int (p1.toUInt32.toUInt16.toUInt32.toInt32)), .val (.int (p2.toUInt32.toUInt16.toUInt32.toInt32)), .val (.int (p3.toUInt32.toUInt16.toUInt32.toInt32)), .val (.int (p4.toUInt32.toUInt16.toUInt32.toInt32)), .val (.int z9), .val (.int (p0 &&& (7 : Int32))), .unset, .unset] []))
        have wS : ∀ a ∈ Bundle.stringAtoms, a.before a0 Z = true := fun d hd => hw d ((by decide +kernel : ∀ d ∈ Bundle.stringAtoms, d ∈ tables_1) d hd)
        obtain ⟨a170, T170, h170, k170, b170, kb170, X170, e170, E170, hS170, hk170, hZ170, hown170, Ea170, Fc170, Fv170, Vb170, la170, lb170, CQ170, Li170, ne170, st170⟩ := ldcCH XJ56 hx hZJ56 hownJ56 (hw _ (List.mem_of_getElem? (i := 126) rfl)) wS eJ56 hSJ56 hkJ56 hEL (List.mem_of_getElem? (i := 0) rfl) CHJ56.1 (vs := []) (z := (0 : Int32)) ⟨by decide, rfl⟩ (by decide) rfl (g := (mkF m 82 #[.val (.int p0), .val (.int p1), .val (.int p2), .val (.int p3), .val (.int p4), .val (.int (p1.toUInt32.toUInt16.toUInt32.toInt32)), .val (.int (p2.toUInt32.toUInt16.toUInt32.toInt32)), .val (.int (p3.toUInt32.toUInt16.toUInt32.toInt32)), .val (.int (p4.toUInt32.toUInt16.toUInt32.toInt32)), .val (.int z9), .val (.int (p0 &&& (7 : Int32))), .unset, .unset] [])) rfl (hb hby at_82) (n := 0) (by decide) (by decide) (by decide) (by decide)
        refine own_byH st170 ?_
        have CR171 := CQ170
        have CH171 := CHJ56.trans CR171
        show own_ComesH Z p e below s _ _ _ (T170.setTop (mkF m 84 #[.val (.int p0), .val (.int p1), .val (.int p2), .val (.int p3), .val (.int p4), .val (.int (p1.toUInt32.toUInt16.toUInt32.toInt32)), .val (.int (p2.toUInt32.toUInt16.toUInt32.toInt32)), .val (.int (p3.toUInt32.toUInt16.toUInt32.toInt32)), .val (.int (p4.toUInt32.toUInt16.toUInt32.toInt32)), .val (.int z9), .val (.int (p0 &&& (7 : Int32))), .unset, .unset] [(.ref a170)]))
        have hYs : own_Txt Z h170 a170 [] := ⟨Ea170, b170, kb170, 0, 0, [], Fv170, Fc170, Vb170, Or.inl ⟨rfl, rfl, rfl, (fun c hc => nomatch hc)⟩, (fun c hc => nomatch hc), Nat.zero_le _⟩
        refine own_byH (fun _ kS => XS.astore X170.here hx rfl (hb hby at_84) rfl rfl (l' := #[.val (.int p0), .val (.int p1), .val (.int p2), .val (.int p3), .val (.int p4), .val (.int (p1.toUInt32.toUInt16.toUInt32.toInt32)), .val (.int (p2.toUInt32.toUInt16.toUInt32.toInt32)), .val (.int (p3.toUInt32.toUInt16.toUInt32.toInt32)), .val (.int (p4.toUInt32.toUInt16.toUInt32.toInt32)), .val (.int z9), .val (.int (p0 &&& (7 : Int32))), .val (.ref a170), .unset]) rfl kS) ?_
        show own_ComesH Z p e below s _ _ _ (T170.setTop (mkF m 86 #[.val (.int p0), .val (.int p1), .val (.int p2), .val (.int p3), .val (.int p4), .val (.int (p1.toUInt32.toUInt16.toUInt32.toInt32)), .val (.int (p2.toUInt32.toUInt16.toUInt32.toInt32)), .val (.int (p3.toUInt32.toUInt16.toUInt32.toInt32)), .val (.int (p4.toUInt32.toUInt16.toUInt32.toInt32)), .val (.int z9), .val (.int (p0 &&& (7 : Int32))), .val (.ref a170), .unset] []))
        refine own_byH (fun _ kS => XS.iconst X170.here hx rfl (hb hby at_86) kS) ?_
        show own_ComesH Z p e below s _ _ _ (T170.setTop (mkF m 87 #[.val (.int p0), .val (.int p1), .val (.int p2), .val (.int p3), .val (.int p4), .val (.int (p1.toUInt32.toUInt16.toUInt32.toInt32)), .val (.int (p2.toUInt32.toUInt16.toUInt32.toInt32)), .val (.int (p3.toUInt32.toUInt16.toUInt32.toInt32)), .val (.int (p4.toUInt32.toUInt16.toUInt32.toInt32)), .val (.int z9), .val (.int (p0 &&& (7 : Int32))), .val (.ref a170), .unset] [(.int (0 : Int32))]))
        refine own_byH (fun _ kS => XS.istore X170.here hx rfl (hb hby at_87) rfl (l' := #[.val (.int p0), .val (.int p1), .val (.int p2), .val (.int p3), .val (.int p4), .val (.int (p1.toUInt32.toUInt16.toUInt32.toInt32)), .val (.int (p2.toUInt32.toUInt16.toUInt32.toInt32)), .val (.int (p3.toUInt32.toUInt16.toUInt32.toInt32)), .val (.int (p4.toUInt32.toUInt16.toUInt32.toInt32)), .val (.int z9), .val (.int (p0 &&& (7 : Int32))), .val (.ref a170), .val (.int (0 : Int32))]) rfl kS) ?_
        show own_ComesH Z p e below s _ _ _ (T170.setTop (mkF m 89 #[.val (.int p0), .val (.int p1), .val (.int p2), .val (.int p3), .val (.int p4), .val (.int (p1.toUInt32.toUInt16.toUInt32.toInt32)), .val (.int (p2.toUInt32.toUInt16.toUInt32.toInt32)), .val (.int (p3.toUInt32.toUInt16.toUInt32.toInt32)), .val (.int (p4.toUInt32.toUInt16.toUInt32.toInt32)), .val (.int z9), .val (.int (p0 &&& (7 : Int32))), .val (.ref a170), .val (.int (0 : Int32))] []))
        refine own_byH (fun _ kS => XS.goto X170.here hx rfl (pc0 := 89) (pc' := 267) rfl (hb hby at_89) (by decide) (by decide) kS) ?_
        show own_ComesH Z p e below s _ _ _ (T170.setTop (mkF m 267 #[.val (.int p0), .val (.int p1), .val (.int p2), .val (.int p3), .val (.int p4), .val (.int (p1.toUInt32.toUInt16.toUInt32.toInt32)), .val (.int (p2.toUInt32.toUInt16.toUInt32.toInt32)), .val (.int (p3.toUInt32.toUInt16.toUInt32.toInt32)), .val (.int (p4.toUInt32.toUInt16.toUInt32.toInt32)), .val (.int z9), .val (.int (p0 &&& (7 : Int32))), .val (.ref a170), .val (.int (0 : Int32))] []))
        exact J267 _ _ _ _ _ z9 (.ref a170) (0 : Int32) (X170.more (by decide) (by decide)) e170 hZ170 hown170 hS170 hk170 CH171 NJ56 (OJ56.ext E170) (Nat.le_trans ZJ56 E170.1) (Or.inr ⟨_, _, rfl, hYs, Or.inr ⟨rfl, own_short (Or.inl (by decide))⟩⟩)
      · refine own_byH (fun _ kS => XS.icmpYes XJ56.here hx rfl (pc0 := 79) (pc' := 92) rfl (hb hby at_79) rfl (feq hm1).2 (by decide) (by decide) kS) ?_
        show own_ComesH Z p e below s _ _ _ (TJ56.setTop (mkF m 92 #[.val (.int p0), .val (.int p1), .val (.int p2), .val (.int p3), .val (.int p4), .val (.int (p1.toUInt32.toUInt16.toUInt32.toInt32)), .val (.int (p2.toUInt32.toUInt16.toUInt32.toInt32)), .val (.int (p3.toUInt32.toUInt16.toUInt32.toInt32)), .val (.int (p4.toUInt32.toUInt16.toUInt32.toInt32)), .val (.int z9), .val (.int (p0 &&& (7 : Int32))), .unset, .unset] []))
        refine own_byH (fun _ kS => XS.iload XJ56.here hx rfl (hb hby at_92) rfl kS) ?_
        show own_ComesH Z p e below s _ _ _ (TJ56.setTop (mkF m 94 #[.val (.int p0), .val (.int p1), .val (.int p2), .val (.int p3), .val (.int p4), .val (.int (p1.toUInt32.toUInt16.toUInt32.toInt32)), .val (.int (p2.toUInt32.toUInt16.toUInt32.toInt32)), .val (.int (p3.toUInt32.toUInt16.toUInt32.toInt32)), .val (.int (p4.toUInt32.toUInt16.toUInt32.toInt32)), .val (.int z9), .val (.int (p0 &&& (7 : Int32))), .unset, .unset] [(.int (p0 &&& (7 : Int32)))]))
        refine own_byH (fun _ kS => XS.iconst XJ56.here hx rfl (hb hby at_94) kS) ?_
        show own_ComesH Z p e below s _ _ _ (TJ56.setTop (mkF m 95 #[.val (.int p0), .val (.int p1), .val (.int p2), .val (.int p3), .val (.int p4), .val (.int (p1.toUInt32.toUInt16.toUInt32.toInt32)), .val (.int (p2.toUInt32.toUInt16.toUInt32.toInt32)), .val (.int (p3.toUInt32.toUInt16.toUInt32.toInt32)), .val (.int (p4.toUInt32.toUInt16.toUInt32.toInt32)), .val (.int z9), .val (.int (p0 &&& (7 : Int32))), .unset, .unset] [(.int (2 : Int32)), (.int (p0 &&& (7 : Int32)))]))
        by_cases hm2 : (p0 &&& (7 : Int32)) = (2 : Int32)
        · refine own_byH (fun _ kS => XS.icmpNo XJ56.here hx rfl (hb hby at_95) rfl (teq hm2).2 kS) ?_
          show own_ComesH Z p e below s _ _ _ (TJ56.setTop (mkF m 98 #[.val (.int p0), .val (.int p1), .val (.int p2), .val (.int p3), .val (.int p4), .val (.int (p1.toUInt32.toUInt16.toUInt32.toInt32)), .val (.int (p2.toUInt32.toUInt16.toUInt32.toInt32)), .val (.int (p3.toUInt32.toUInt16.toUInt32.toInt32)), .val (.int (p4.toUInt32.toUInt16.toUInt32.toInt32)), .val (.int z9), .val (.int (p0 &&& (7 : Int32))), .unset, .unset] []))
          refine own_byH (fun _ kS => XS.iload XJ56.here hx rfl (hb hby at_98) rfl kS) ?_
          show own_ComesH Z p e below s _ _ _ (TJ56.setTop (mkF m 100 #[.val (.int p0), .val (.int p1), .val (.int p2), .val (.int p3), .val (.int p4), .val (.int (p1.toUInt32.toUInt16.toUInt32.toInt32)), .val (.int (p2.toUInt32.toUInt16.toUInt32.toInt32)), .val (.int (p3.toUInt32.toUInt16.toUInt32.toInt32)), .val (.int (p4.toUInt32.toUInt16.toUInt32.toInt32)), .val (.int z9), .val (.int (p0 &&& (7 : Int32))), .unset, .unset] [(.int (p2.toUInt32.toUInt16.toUInt32.toInt32))]))
          obtain ⟨vv172, _, ⟨T172, L172, k172, n172⟩, -, X172, ⟨Lc172, hQ172, l172, y172, z172⟩, st172⟩ := Jvm.LawKit.callS XJ56 hx (y := (⟨"java/lang/String", "valueOf", "(C)Ljava/lang/String;"⟩ : MethodName)) hownJ56 (mvT hZJ56 (hw _ (List.mem_of_getElem? (i := 70) rfl))) (mvT hZJ56 (hw _ (List.mem_of_getElem? (i := 71) rfl))) (mvT hZJ56 (hw _ (List.mem_of_getElem? (i := 10) rfl))) (mvT hZJ56 (hw _ (List.mem_of_getElem? (i := 72) rfl))) (by decide) (backOf (W := 0) (rm17 l Z a0 hw [] (p2.toUInt32.toUInt16.toUInt32.toInt32) zc hJ56 n0 ZJ56 OJ56 Sz hzc Sd Sh Sl (own_nch _)) hZJ56 (hw _ (List.mem_of_getElem? (i := 72) rfl)) (hw _ (List.mem_of_getElem? (i := 10) rfl)) (by decide) (by decide)) (g := (mkF m 100 #[.val (.int p0), .val (.int p1), .val (.int p2), .val (.int p3), .val (.int p4), .val (.int (p1.toUInt32.toUInt16.toUInt32.toInt32)), .val (.int (p2.toUInt32.toUInt16.toUInt32.toInt32)), .val (.int (p3.toUInt32.toUInt16.toUInt32.toInt32)), .val (.int (p4.toUInt32.toUInt16.toUInt32.toInt32)), .val (.int z9), .val (.int (p0 &&& (7 : Int32))), .unset, .unset] [(.int (p2.toUInt32.toUInt16.toUInt32.toInt32))])) rfl (by rw [hml]; rfl) (argsL := [(.int (p2.toUInt32.toUInt16.toUInt32.toInt32))]) (rest := []) (lenOf pd__C_Ljava_lang_String__847 rfl) rfl (by show 2 * 0 + _ ≤ _; exact Nat.le_of_eq rfl) (hb hby at_100) (fun _ _ => ⟨rfl, eJ56, (by decide : 0 + 2 ≤ _), (by decide : 0 + 6 ≤ _)⟩)
          dsimp only [Pt.U, Pt.locs, Pt.cells, Pt.slots] at X172 l172 y172 z172 st172 hQ172
          subst l172 y172 z172
          obtain ⟨a172, rfl, N172q, E172, Y172⟩ := hQ172
          have N172 := Fr.app NJ56 N172q
          refine own_byH st172 ?_
          have CR173 := CHr.ext E172 CHJ56.1
          have CH173 := CHJ56.trans CR173
          show own_ComesH Z p e below s _ _ _ (T172.setTop (mkF m 103 #[.val (.int p0), .val (.int p1), .val (.int p2), .val (.int p3), .val (.int p4), .val (.int (p1.toUInt32.toUInt16.toUInt32.toInt32)), .val (.int (p2.toUInt32.toUInt16.toUInt32.toInt32)), .val (.int (p3.toUInt32.toUInt16.toUInt32.toInt32)), .val (.int (p4.toUInt32.toUInt16.toUInt32.toInt32)), .val (.int z9), .val (.int (p0 &&& (7 : Int32))), .unset, .unset] [(.ref a172)]))
          refine own_byH (fun _ kS => XS.astore X172.here hx rfl (hb hby at_103) rfl rfl (l' := #[.val (.int p0), .val (.int p1), .val (.int p2), .val (.int p3), .val (.int p4), .val (.int (p1.toUInt32.toUInt16.toUInt32.toInt32)), .val (.int (p2.toUInt32.toUInt16.toUInt32.toInt32)), .val (.int (p3.toUInt32.toUInt16.toUInt32.toInt32)), .val (.int (p4.toUInt32.toUInt16.toUInt32.toInt32)), .val (.int z9), .val (.int (p0 &&& (7 : Int32))), .val (.ref a172), .unset]) rfl kS) ?_
          show own_ComesH Z p e below s _ _ _ (T172.setTop (mkF m 105 #[.val (.int p0), .val (.int p1), .val (.int p2), .val (.int p3), .val (.int p4), .val (.int (p1.toUInt32.toUInt16.toUInt32.toInt32)), .val (.int (p2.toUInt32.toUInt16.toUInt32.toInt32)), .val (.int (p3.toUInt32.toUInt16.toUInt32.toInt32)), .val (.int (p4.toUInt32.toUInt16.toUInt32.toInt32)), .val (.int z9), .val (.int (p0 &&& (7 : Int32))), .val (.ref a172), .unset] []))
          refine own_byH (fun _ kS => XS.iconst X172.here hx rfl (hb hby at_105) kS) ?_
          show own_ComesH Z p e below s _ _ _ (T172.setTop (mkF m 106 #[.val (.int p0), .val (.int p1), .val (.int p2), .val (.int p3), .val (.int p4), .val (.int (p1.toUInt32.toUInt16.toUInt32.toInt32)), .val (.int (p2.toUInt32.toUInt16.toUInt32.toInt32)), .val (.int (p3.toUInt32.toUInt16.toUInt32.toInt32)), .val (.int (p4.toUInt32.toUInt16.toUInt32.toInt32)), .val (.int z9), .val (.int (p0 &&& (7 : Int32))), .val (.ref a172), .unset] [(.int (0 : Int32))]))
          refine own_byH (fun _ kS => XS.istore X172.here hx rfl (hb hby at_106) rfl (l' := #[.val (.int p0), .val (.int p1), .val (.int p2), .val (.int p3), .val (.int p4), .val (.int (p1.toUInt32.toUInt16.toUInt32.toInt32)), .val (.int (p2.toUInt32.toUInt16.toUInt32.toInt32)), .val (.int (p3.toUInt32.toUInt16.toUInt32.toInt32)), .val (.int (p4.toUInt32.toUInt16.toUInt32.toInt32)), .val (.int z9), .val (.int (p0 &&& (7 : Int32))), .val (.ref a172), .val (.int (0 : Int32))]) rfl kS) ?_
          show own_ComesH Z p e below s _ _ _ (T172.setTop (mkF m 108 #[.val (.int p0), .val (.int p1), .val (.int p2), .val (.int p3), .val (.int p4), .val (.int (p1.toUInt32.toUInt16.toUInt32.toInt32)), .val (.int (p2.toUInt32.toUInt16.toUInt32.toInt32)), .val (.int (p3.toUInt32.toUInt16.toUInt32.toInt32)), .val (.int (p4.toUInt32.toUInt16.toUInt32.toInt32)), .val (.int z9), .val (.int (p0 &&& (7 : Int32))), .val (.ref a172), .val (.int (0 : Int32))] []))
          refine own_byH (fun _ kS => XS.goto X172.here hx rfl (pc0 := 108) (pc' := 267) rfl (hb hby at_108) (by decide) (by decide) kS) ?_
          show own_ComesH Z p e below s _ _ _ (T172.setTop (mkF m 267 #[.val (.int p0), .val (.int p1), .val (.int p2), .val (.int p3), .val (.int p4), .val (.int (p1.toUInt32.toUInt16.toUInt32.toInt32)), .val (.int (p2.toUInt32.toUInt16.toUInt32.toInt32)), .val (.int (p3.toUInt32.toUInt16.toUInt32.toInt32)), .val (.int (p4.toUInt32.toUInt16.toUInt32.toInt32)), .val (.int z9), .val (.int (p0 &&& (7 : Int32))), .val (.ref a172), .val (.int (0 : Int32))] []))
          exact J267 _ _ _ _ _ z9 (.ref a172) (0 : Int32) (X172.more (by decide) (by decide)) rfl hZJ56 hownJ56 hSJ56 (Nat.le_trans hkJ56 E172.1) CH173 N172 (OJ56.ext E172) (Nat.le_trans ZJ56 E172.1) (Or.inr ⟨_, _, rfl, Y172, Or.inr ⟨rfl, own_short (Or.inl (Nat.le_of_ble_eq_true rfl))⟩⟩)
        · refine own_byH (fun _ kS => XS.icmpYes XJ56.here hx rfl (pc0 := 95) (pc' := 111) rfl (hb hby at_95) rfl (feq hm2).2 (by decide) (by decide) kS) ?_
          show own_ComesH Z p e below s _ _ _ (TJ56.setTop (mkF m 111 #[.val (.int p0), .val (.int p1), .val (.int p2), .val (.int p3), .val (.int p4), .val (.int (p1.toUInt32.toUInt16.toUInt32.toInt32)), .val (.int (p2.toUInt32.toUInt16.toUInt32.toInt32)), .val (.int (p3.toUInt32.toUInt16.toUInt32.toInt32)), .val (.int (p4.toUInt32.toUInt16.toUInt32.toInt32)), .val (.int z9), .val (.int (p0 &&& (7 : Int32))), .unset, .unset] []))
          refine own_byH (fun _ kS => XS.iload XJ56.here hx rfl (hb hby at_111) rfl kS) ?_
          show own_ComesH Z p e below s _ _ _ (TJ56.setTop (mkF m 113 #[.val (.int p0), .val (.int p1), .val (.int p2), .val (.int p3), .val (.int p4), .val (.int (p1.toUInt32.toUInt16.toUInt32.toInt32)), .val (.int (p2.toUInt32.toUInt16.toUInt32.toInt32)), .val (.int (p3.toUInt32.toUInt16.toUInt32.toInt32)), .val (.int (p4.toUInt32.toUInt16.toUInt32.toInt32)), .val (.int z9), .val (.int (p0 &&& (7 : Int32))), .unset, .unset] [(.int (p0 &&& (7 : Int32)))]))
          refine own_byH (fun _ kS => XS.iconst XJ56.here hx rfl (hb hby at_113) kS) ?_
          show own_ComesH Z p e below s _ _ _ (TJ56.setTop (mkF m 114 #[.val (.int p0), .val (.int p1), .val (.int p2), .val (.int p3), .val (.int p4), .val (.int (p1.toUInt32.toUInt16.toUInt32.toInt32)), .val (.int (p2.toUInt32.toUInt16.toUInt32.toInt32)), .val (.int (p3.toUInt32.toUInt16.toUInt32.toInt32)), .val (.int (p4.toUInt32.toUInt16.toUInt32.toInt32)), .val (.int z9), .val (.int (p0 &&& (7 : Int32))), .unset, .unset] [(.int (3 : Int32)), (.int (p0 &&& (7 : Int32)))]))
          by_cases hm3 : (p0 &&& (7 : Int32)) = (3 : Int32)
          · refine own_byH (fun _ kS => XS.icmpNo XJ56.here hx rfl (hb hby at_114) rfl (teq hm3).2 kS) ?_
            show own_ComesH Z p e below s _ _ _ (TJ56.setTop (mkF m 117 #[.val (.int p0), .val (.int p1), .val (.int p2), .val (.int p3), .val (.int p4), .val (.int (p1.toUInt32.toUInt16.toUInt32.toInt32)), .val (.int (p2.toUInt32.toUInt16.toUInt32.toInt32)), .val (.int (p3.toUInt32.toUInt16.toUInt32.toInt32)), .val (.int (p4.toUInt32.toUInt16.toUInt32.toInt32)), .val (.int z9), .val (.int (p0 &&& (7 : Int32))), .unset, .unset] []))
            obtain ⟨T174, h174, X174, e174, E174, A174, D174, -, st174⟩ := newO XJ56 hx hZJ56 hownJ56 (hw _ (List.mem_of_getElem? (i := 8) rfl)) (hw _ (List.mem_of_getElem? (i := 9) rfl)) (hw _ (List.mem_of_getElem? (i := 10) rfl)) eJ56 (g := (mkF m 117 #[.val (.int p0), .val (.int p1), .val (.int p2), .val (.int p3), .val (.int p4), .val (.int (p1.toUInt32.toUInt16.toUInt32.toInt32)), .val (.int (p2.toUInt32.toUInt16.toUInt32.toInt32)), .val (.int (p3.toUInt32.toUInt16.toUInt32.toInt32)), .val (.int (p4.toUInt32.toUInt16.toUInt32.toInt32)), .val (.int z9), .val (.int (p0 &&& (7 : Int32))), .unset, .unset] [])) rfl (hb hby at_117) (by decide) (by decide)
            obtain ⟨b174, g174⟩ : ∃ z, z = hJ56.size := ⟨_, rfl⟩
            rw [← g174] at A174 D174 st174
            have g_b174 : n0 ≤ b174 := Nat.le_trans ZJ56 (Nat.le_of_eq g174.symm)
            refine own_byH st174 ?_
            have CR175 := CHr.ext E174 CHJ56.1
            have CH175 := CHJ56.trans CR175
            have sb174 := Safe.ext E174 CHJ56.1 (Safe.new (Nat.le_of_eq g174.symm))
            show own_ComesH Z p e below s _ _ _ (T174.setTop (mkF m 120 #[.val (.int p0), .val (.int p1), .val (.int p2), .val (.int p3), .val (.int p4), .val (.int (p1.toUInt32.toUInt16.toUInt32.toInt32)), .val (.int (p2.toUInt32.toUInt16.toUInt32.toInt32)), .val (.int (p3.toUInt32.toUInt16.toUInt32.toInt32)), .val (.int (p4.toUInt32.toUInt16.toUInt32.toInt32)), .val (.int z9), .val (.int (p0 &&& (7 : Int32))), .unset, .unset] [(.ref b174)]))
            refine own_byH (fun _ kS => XS.dup X174.here hx rfl (hb hby at_120) rfl rfl kS) ?_
            show own_ComesH Z p e below s _ _ _ (T174.setTop (mkF m 121 #[.val (.int p0), .val (.int p1), .val (.int p2), .val (.int p3), .val (.int p4), .val (.int (p1.toUInt32.toUInt16.toUInt32.toInt32)), .val (.int (p2.toUInt32.toUInt16.toUInt32.toInt32)), .val (.int (p3.toUInt32.toUInt16.toUInt32.toInt32)), .val (.int (p4.toUInt32.toUInt16.toUInt32.toInt32)), .val (.int z9), .val (.int (p0 &&& (7 : Int32))), .unset, .unset] [(.ref b174), (.ref b174)]))
            refine own_byH (fun _ kS => XS.iconst X174.here hx rfl (hb hby at_121) kS) ?_
            show own_ComesH Z p e below s _ _ _ (T174.setTop (mkF m 122 #[.val (.int p0), .val (.int p1), .val (.int p2), .val (.int p3), .val (.int p4), .val (.int (p1.toUInt32.toUInt16.toUInt32.toInt32)), .val (.int (p2.toUInt32.toUInt16.toUInt32.toInt32)), .val (.int (p3.toUInt32.toUInt16.toUInt32.toInt32)), .val (.int (p4.toUInt32.toUInt16.toUInt32.toInt32)), .val (.int z9), .val (.int (p0 &&& (7 : Int32))), .unset, .unset] [(.int (2 : Int32)), (.ref b174), (.ref b174)]))
            obtain ⟨T176, h176, k176, X176, e176, E176, A176, st176⟩ := newP X174 hx hZJ56 (hw _ (List.mem_of_getElem? (i := 11) rfl)) e174 (g := (mkF m 122 #[.val (.int p0), .val (.int p1), .val (.int p2), .val (.int p3), .val (.int p4), .val (.int (p1.toUInt32.toUInt16.toUInt32.toInt32)), .val (.int (p2.toUInt32.toUInt16.toUInt32.toInt32)), .val (.int (p3.toUInt32.toUInt16.toUInt32.toInt32)), .val (.int (p4.toUInt32.toUInt16.toUInt32.toInt32)), .val (.int z9), .val (.int (p0 &&& (7 : Int32))), .unset, .unset] [(.int (2 : Int32)), (.ref b174), (.ref b174)])) rfl (hb hby at_122) rfl (by decide) (cap := 2) (by decide) (by decide) (by decide) (by decide)
            obtain ⟨b176, g176⟩ : ∃ z, z = h174.size := ⟨_, rfl⟩
            rw [← g176] at A176 st176
            have g_b176 : n0 ≤ b176 := Nat.le_trans (Nat.le_trans ZJ56 E174.1) (Nat.le_of_eq g176.symm)
            refine own_byH st176 ?_
            have CR177 := CHr.ext E176 CH175.1
            have CH177 := CH175.trans CR177
            have sb176 := Safe.ext E176 CH175.1 (Safe.new (Nat.le_of_eq g176.symm))
            have V_b176 : Arv Z h176 b176 k176 .char (2 : Int32) [(.int (0 : Int32)), (.int (0 : Int32))] (.int (0 : Int32)) := (Arv.new A176 (by decide)).pad (pad_rep [] (.int (0 : Int32)) 2)
            show own_ComesH Z p e below s _ _ _ (T176.setTop (mkF m 124 #[.val (.int p0), .val (.int p1), .val (.int p2), .val (.int p3), .val (.int p4), .val (.int (p1.toUInt32.toUInt16.toUInt32.toInt32)), .val (.int (p2.toUInt32.toUInt16.toUInt32.toInt32)), .val (.int (p3.toUInt32.toUInt16.toUInt32.toInt32)), .val (.int (p4.toUInt32.toUInt16.toUInt32.toInt32)), .val (.int z9), .val (.int (p0 &&& (7 : Int32))), .unset, .unset] [(.ref b176), (.ref b174), (.ref b174)]))
            have nA : b174 ≠ b176 := Nat.ne_of_lt (Nat.lt_of_lt_of_le A174.lt (Nat.le_of_eq g176.symm))
            refine own_byH (fun _ kS => XS.dup X176.here hx rfl (hb hby at_124) rfl rfl kS) ?_
            show own_ComesH Z p e below s _ _ _ (T176.setTop (mkF m 125 #[.val (.int p0), .val (.int p1), .val (.int p2), .val (.int p3), .val (.int p4), .val (.int (p1.toUInt32.toUInt16.toUInt32.toInt32)), .val (.int (p2.toUInt32.toUInt16.toUInt32.toInt32)), .val (.int (p3.toUInt32.toUInt16.toUInt32.toInt32)), .val (.int (p4.toUInt32.toUInt16.toUInt32.toInt32)), .val (.int z9), .val (.int (p0 &&& (7 : Int32))), .unset, .unset] [(.ref b176), (.ref b176), (.ref b174), (.ref b174)]))
            refine own_byH (fun _ kS => XS.iconst X176.here hx rfl (hb hby at_125) kS) ?_
            show own_ComesH Z p e below s _ _ _ (T176.setTop (mkF m 126 #[.val (.int p0), .val (.int p1), .val (.int p2), .val (.int p3), .val (.int p4), .val (.int (p1.toUInt32.toUInt16.toUInt32.toInt32)), .val (.int (p2.toUInt32.toUInt16.toUInt32.toInt32)), .val (.int (p3.toUInt32.toUInt16.toUInt32.toInt32)), .val (.int (p4.toUInt32.toUInt16.toUInt32.toInt32)), .val (.int z9), .val (.int (p0 &&& (7 : Int32))), .unset, .unset] [(.int (0 : Int32)), (.ref b176), (.ref b176), (.ref b174), (.ref b174)]))
            refine own_byH (fun _ kS => XS.iload X176.here hx rfl (hb hby at_126) rfl kS) ?_
            show own_ComesH Z p e below s _ _ _ (T176.setTop (mkF m 128 #[.val (.int p0), .val (.int p1), .val (.int p2), .val (.int p3), .val (.int p4), .val (.int (p1.toUInt32.toUInt16.toUInt32.toInt32)), .val (.int (p2.toUInt32.toUInt16.toUInt32.toInt32)), .val (.int (p3.toUInt32.toUInt16.toUInt32.toInt32)), .val (.int (p4.toUInt32.toUInt16.toUInt32.toInt32)), .val (.int z9), .val (.int (p0 &&& (7 : Int32))), .unset, .unset] [(.int (p2.toUInt32.toUInt16.toUInt32.toInt32)), (.int (0 : Int32)), (.ref b176), (.ref b176), (.ref b174), (.ref b174)]))
            have Vo178 := V_b176
            obtain ⟨cl178, Ar178, qA178, SA178, NA178, HA178, GA178⟩ := Vo178
            have hin178 : ¬ ((0 : Int32) < 0 ∨ cl178.slots.size ≤ ((0 : Int32)).toNatClampNeg) := inb_of SA178 ⟨by decide, by decide⟩
            obtain ⟨T179, h179, X179, e179, W179, st179⟩ := stC X176 hx hZJ56 e176 Ar178 (j := (0 : Int32)) hin178 (g := (mkF m 128 #[.val (.int p0), .val (.int p1), .val (.int p2), .val (.int p3), .val (.int p4), .val (.int (p1.toUInt32.toUInt16.toUInt32.toInt32)), .val (.int (p2.toUInt32.toUInt16.toUInt32.toInt32)), .val (.int (p3.toUInt32.toUInt16.toUInt32.toInt32)), .val (.int (p4.toUInt32.toUInt16.toUInt32.toInt32)), .val (.int z9), .val (.int (p0 &&& (7 : Int32))), .unset, .unset] [(.int (p2.toUInt32.toUInt16.toUInt32.toInt32)), (.int (0 : Int32)), (.ref b176), (.ref b176), (.ref b174), (.ref b174)])) rfl rfl (hb hby at_128)
            refine own_byH st179 ?_
            have V179 : Arv Z h179 b176 k176 .char (2 : Int32) [(.int (nar .char (p2.toUInt32.toUInt16.toUInt32.toInt32))), (.int (0 : Int32))] (.int (0 : Int32)) := Arv.set Ar178 qA178 SA178 NA178 HA178 GA178 (by first | rfl | exact fits_nar_char _) W179 0 rfl (Nat.le_of_ble_eq_true rfl)
            have CR180 := CHr.wr W179 sb176 CH177.1
            have CH180 := CH177.trans CR180
            have N179 := Fr.snoc X179 NJ56 g_b176
            show own_ComesH Z p e below s _ _ _ (T179.setTop (mkF m 129 #[.val (.int p0), .val (.int p1), .val (.int p2), .val (.int p3), .val (.int p4), .val (.int (p1.toUInt32.toUInt16.toUInt32.toInt32)), .val (.int (p2.toUInt32.toUInt16.toUInt32.toInt32)), .val (.int (p3.toUInt32.toUInt16.toUInt32.toInt32)), .val (.int (p4.toUInt32.toUInt16.toUInt32.toInt32)), .val (.int z9), .val (.int (p0 &&& (7 : Int32))), .unset, .unset] [(.ref b176), (.ref b174), (.ref b174)]))
            refine own_byH (fun _ kS => XS.dup X179.here hx rfl (hb hby at_129) rfl rfl kS) ?_
            show own_ComesH Z p e below s _ _ _ (T179.setTop (mkF m 130 #[.val (.int p0), .val (.int p1), .val (.int p2), .val (.int p3), .val (.int p4), .val (.int (p1.toUInt32.toUInt16.toUInt32.toInt32)), .val (.int (p2.toUInt32.toUInt16.toUInt32.toInt32)), .val (.int (p3.toUInt32.toUInt16.toUInt32.toInt32)), .val (.int (p4.toUInt32.toUInt16.toUInt32.toInt32)), .val (.int z9), .val (.int (p0 &&& (7 : Int32))), .unset, .unset] [(.ref b176), (.ref b176), (.ref b174), (.ref b174)]))
            refine own_byH (fun _ kS => XS.iconst X179.here hx rfl (hb hby at_130) kS) ?_
            show own_ComesH Z p e below s _ _ _ (T179.setTop (mkF m 131 #[.val (.int p0), .val (.int p1), .val (.int p2), .val (.int p3), .val (.int p4), .val (.int (p1.toUInt32.toUInt16.toUInt32.toInt32)), .val (.int (p2.toUInt32.toUInt16.toUInt32.toInt32)), .val (.int (p3.toUInt32.toUInt16.toUInt32.toInt32)), .val (.int (p4.toUInt32.toUInt16.toUInt32.toInt32)), .val (.int z9), .val (.int (p0 &&& (7 : Int32))), .unset, .unset] [(.int (1 : Int32)), (.ref b176), (.ref b176), (.ref b174), (.ref b174)]))
            refine own_byH (fun _ kS => XS.iload X179.here hx rfl (hb hby at_131) rfl kS) ?_
            show own_ComesH Z p e below s _ _ _ (T179.setTop (mkF m 133 #[.val (.int p0), .val (.int p1), .val (.int p2), .val (.int p3), .val (.int p4), .val (.int (p1.toUInt32.toUInt16.toUInt32.toInt32)), .val (.int (p2.toUInt32.toUInt16.toUInt32.toInt32)), .val (.int (p3.toUInt32.toUInt16.toUInt32.toInt32)), .val (.int (p4.toUInt32.toUInt16.toUInt32.toInt32)), .val (.int z9), .val (.int (p0 &&& (7 : Int32))), .unset, .unset] [(.int (p4.toUInt32.toUInt16.toUInt32.toInt32)), (.int (1 : Int32)), (.ref b176), (.ref b176), (.ref b174), (.ref b174)]))
            have Vo181 := V179
            obtain ⟨cl181, Ar181, qA181, SA181, NA181, HA181, GA181⟩ := Vo181
            have hin181 : ¬ ((1 : Int32) < 0 ∨ cl181.slots.size ≤ ((1 : Int32)).toNatClampNeg) := inb_of SA181 ⟨by decide, by decide⟩
            obtain ⟨T182, h182, X182, e182, W182, st182⟩ := stC X179 hx hZJ56 e179 Ar181 (j := (1 : Int32)) hin181 (g := (mkF m 133 #[.val (.int p0), .val (.int p1), .val (.int p2), .val (.int p3), .val (.int p4), .val (.int (p1.toUInt32.toUInt16.toUInt32.toInt32)), .val (.int (p2.toUInt32.toUInt16.toUInt32.toInt32)), .val (.int (p3.toUInt32.toUInt16.toUInt32.toInt32)), .val (.int (p4.toUInt32.toUInt16.toUInt32.toInt32)), .val (.int z9), .val (.int (p0 &&& (7 : Int32))), .unset, .unset] [(.int (p4.toUInt32.toUInt16.toUInt32.toInt32)), (.int (1 : Int32)), (.ref b176), (.ref b176), (.ref b174), (.ref b174)])) rfl rfl (hb hby at_133)
            refine own_byH st182 ?_
            have V182 : Arv Z h182 b176 k176 .char (2 : Int32) [(.int (nar .char (p2.toUInt32.toUInt16.toUInt32.toInt32))), (.int (nar .char (p4.toUInt32.toUInt16.toUInt32.toInt32)))] (.int (0 : Int32)) := Arv.set Ar181 qA181 SA181 NA181 HA181 GA181 (by first | rfl | exact fits_nar_char _) W182 1 rfl (Nat.le_of_ble_eq_true rfl)
            have sf184 := CR180.safe A176.lt sb176
            have CR183 := CHr.wr W182 sf184 CH180.1
            have CH183 := CH180.trans CR183
            have N182 := Fr.snoc X182 N179 g_b176
            show own_ComesH Z p e below s _ _ _ (T182.setTop (mkF m 134 #[.val (.int p0), .val (.int p1), .val (.int p2), .val (.int p3), .val (.int p4), .val (.int (p1.toUInt32.toUInt16.toUInt32.toInt32)), .val (.int (p2.toUInt32.toUInt16.toUInt32.toInt32)), .val (.int (p3.toUInt32.toUInt16.toUInt32.toInt32)), .val (.int (p4.toUInt32.toUInt16.toUInt32.toInt32)), .val (.int z9), .val (.int (p0 &&& (7 : Int32))), .unset, .unset] [(.ref b176), (.ref b174), (.ref b174)]))
            have Vc := V182
            simp only [own_nar16 (own_nch p2), own_nar16 (own_nch p4)] at Vc
            have Vd : Arv Z h182 b176 k176 .char (Int32.ofNat ([(p2.toUInt32.toUInt16.toUInt32.toInt32), (p4.toUInt32.toUInt16.toUInt32.toInt32)]).length) (([(p2.toUInt32.toUInt16.toUInt32.toInt32), (p4.toUInt32.toUInt16.toUInt32.toInt32)]).map Value.int) (.int 0) := Vc
            have hB2 : ∀ c ∈ [(p2.toUInt32.toUInt16.toUInt32.toInt32), (p4.toUInt32.toUInt16.toUInt32.toInt32)], ¬ c < 0 ∧ ¬ (65535 : Int32) < c := fun c hc => by
              simp only [List.mem_cons, List.not_mem_nil, or_false] at hc
              rcases hc with rfl | rfl
              · exact own_nch _
              · exact own_nch _
            have Vq := Vd
            have hcl : ([(p2.toUInt32.toUInt16.toUInt32.toInt32), (p4.toUInt32.toUInt16.toUInt32.toInt32)]).length = 2 := rfl
            by_cases hw255 : ∃ c ∈ [(p2.toUInt32.toUInt16.toUInt32.toInt32), (p4.toUInt32.toUInt16.toUInt32.toInt32)], (255 : Int32) < c
            · show own_ComesH Z p e below s _ _ _ (T182.setTop (mkF m 134 #[.val (.int p0), .val (.int p1), .val (.int p2), .val (.int p3), .val (.int p4), .val (.int (p1.toUInt32.toUInt16.toUInt32.toInt32)), .val (.int (p2.toUInt32.toUInt16.toUInt32.toInt32)), .val (.int (p3.toUInt32.toUInt16.toUInt32.toInt32)), .val (.int (p4.toUInt32.toUInt16.toUInt32.toInt32)), .val (.int z9), .val (.int (p0 &&& (7 : Int32))), .unset, .unset] [(.ref b176), (.ref b174), (.ref b174)]))
              have c185 := ((((OJ56.ext E174).ext E176).wr W179 g_b176).wr W182 g_b176)
              have c186 := ((((D174 (Or.inr (hw _ (List.mem_of_getElem? (i := 37) rfl))) (ty := (.array .byte)) (by decide)).ext E176).other W179 (Or.inl nA)).other W182 (Or.inl nA))
              have c187 := ((((D174 (Or.inr (hw _ (List.mem_of_getElem? (i := 35) rfl))) (ty := .byte) (by decide)).ext E176).other W179 (Or.inl nA)).other W182 (Or.inl nA))
              obtain ⟨vv188, _, ⟨T188, L188, k188, n188⟩, -, X188, ⟨Lc188, hQ188, l188, y188, z188⟩, st188⟩ := X182.specialBack hx (y := (⟨"java/lang/String", "<init>", "([C)V"⟩ : MethodName)) rfl hownJ56 (mvT hZJ56 (hw _ (List.mem_of_getElem? (i := 12) rfl))) (mvT hZJ56 (hw _ (List.mem_of_getElem? (i := 13) rfl))) (mvT hZJ56 (hw _ (List.mem_of_getElem? (i := 14) rfl))) (by decide) (backOf (W := 1) (rm3w l Z a0 hw [] b174 b176 k176 [(p2.toUInt32.toUInt16.toUInt32.toInt32), (p4.toUInt32.toUInt16.toUInt32.toInt32)] zc h182 n0 (Nat.le_trans (Nat.le_trans (Nat.le_trans (Nat.le_trans ZJ56 E174.1) E176.1) (Keep.of_wr W179).1) (Keep.of_wr W182).1) c185 Sz hzc Sd Sh Sl (((A174.ext E176).wr W179).wr W182) c186 c187 g_b174 nA Vq hw255 (by rw [hcl]; decide) (by rw [hcl]; decide) hB2) hZJ56 (hw _ (List.mem_of_getElem? (i := 14) rfl)) (hw _ (List.mem_of_getElem? (i := 10) rfl)) (by decide) (by decide)) (g := (mkF m 134 #[.val (.int p0), .val (.int p1), .val (.int p2), .val (.int p3), .val (.int p4), .val (.int (p1.toUInt32.toUInt16.toUInt32.toInt32)), .val (.int (p2.toUInt32.toUInt16.toUInt32.toInt32)), .val (.int (p3.toUInt32.toUInt16.toUInt32.toInt32)), .val (.int (p4.toUInt32.toUInt16.toUInt32.toInt32)), .val (.int z9), .val (.int (p0 &&& (7 : Int32))), .unset, .unset] [(.ref b176), (.ref b174), (.ref b174)])) rfl (by rw [hml]; rfl) (Steps.refl _) (a := b174) (argsL := [(.ref b176)]) (rest := [(.ref b174)]) (lenOf pd___C_V_325 rfl) rfl (by show 2 * 0 + _ ≤ _; exact Nat.le_of_eq rfl) (hb hby at_134) (fun _ _ => ⟨rfl, e182, (by decide : 2 + 2 ≤ _), (by decide : 6 + 387 ≤ _)⟩)
              dsimp only [Pt.U, Pt.locs, Pt.cells, Pt.slots] at X188 l188 y188 z188 st188 hQ188
              subst l188 y188 z188
              obtain ⟨rfl, N188q, K188, Y188⟩ := hQ188
              have N188 := Fr.app N182 N188q
              refine own_trH st188 ?_
              have sf190 := (CR177.trans (CR180.trans CR183)).safe A174.lt sb174
              have CR189 := CHr.keep K188 (sfS sf190 sf0) CH183.1
              have CH189 := CH183.trans CR189
              show own_ComesH Z p e below s _ _ _ (T188.setTop (mkF m 137 #[.val (.int p0), .val (.int p1), .val (.int p2), .val (.int p3), .val (.int p4), .val (.int (p1.toUInt32.toUInt16.toUInt32.toInt32)), .val (.int (p2.toUInt32.toUInt16.toUInt32.toInt32)), .val (.int (p3.toUInt32.toUInt16.toUInt32.toInt32)), .val (.int (p4.toUInt32.toUInt16.toUInt32.toInt32)), .val (.int z9), .val (.int (p0 &&& (7 : Int32))), .unset, .unset] [(.ref b174)]))
              have hYs := Y188
              refine own_byH (fun _ kS => XS.astore X188.here hx rfl (hb hby at_137) rfl rfl (l' := #[.val (.int p0), .val (.int p1), .val (.int p2), .val (.int p3), .val (.int p4), .val (.int (p1.toUInt32.toUInt16.toUInt32.toInt32)), .val (.int (p2.toUInt32.toUInt16.toUInt32.toInt32)), .val (.int (p3.toUInt32.toUInt16.toUInt32.toInt32)), .val (.int (p4.toUInt32.toUInt16.toUInt32.toInt32)), .val (.int z9), .val (.int (p0 &&& (7 : Int32))), .val (.ref b174), .unset]) rfl kS) ?_
              show own_ComesH Z p e below s _ _ _ (T188.setTop (mkF m 139 #[.val (.int p0), .val (.int p1), .val (.int p2), .val (.int p3), .val (.int p4), .val (.int (p1.toUInt32.toUInt16.toUInt32.toInt32)), .val (.int (p2.toUInt32.toUInt16.toUInt32.toInt32)), .val (.int (p3.toUInt32.toUInt16.toUInt32.toInt32)), .val (.int (p4.toUInt32.toUInt16.toUInt32.toInt32)), .val (.int z9), .val (.int (p0 &&& (7 : Int32))), .val (.ref b174), .unset] []))
              refine own_byH (fun _ kS => XS.iconst X188.here hx rfl (hb hby at_139) kS) ?_
              show own_ComesH Z p e below s _ _ _ (T188.setTop (mkF m 140 #[.val (.int p0), .val (.int p1), .val (.int p2), .val (.int p3), .val (.int p4), .val (.int (p1.toUInt32.toUInt16.toUInt32.toInt32)), .val (.int (p2.toUInt32.toUInt16.toUInt32.toInt32)), .val (.int (p3.toUInt32.toUInt16.toUInt32.toInt32)), .val (.int (p4.toUInt32.toUInt16.toUInt32.toInt32)), .val (.int z9), .val (.int (p0 &&& (7 : Int32))), .val (.ref b174), .unset] [(.int (0 : Int32))]))
              refine own_byH (fun _ kS => XS.istore X188.here hx rfl (hb hby at_140) rfl (l' := #[.val (.int p0), .val (.int p1), .val (.int p2), .val (.int p3), .val (.int p4), .val (.int (p1.toUInt32.toUInt16.toUInt32.toInt32)), .val (.int (p2.toUInt32.toUInt16.toUInt32.toInt32)), .val (.int (p3.toUInt32.toUInt16.toUInt32.toInt32)), .val (.int (p4.toUInt32.toUInt16.toUInt32.toInt32)), .val (.int z9), .val (.int (p0 &&& (7 : Int32))), .val (.ref b174), .val (.int (0 : Int32))]) rfl kS) ?_
              show own_ComesH Z p e below s _ _ _ (T188.setTop (mkF m 142 #[.val (.int p0), .val (.int p1), .val (.int p2), .val (.int p3), .val (.int p4), .val (.int (p1.toUInt32.toUInt16.toUInt32.toInt32)), .val (.int (p2.toUInt32.toUInt16.toUInt32.toInt32)), .val (.int (p3.toUInt32.toUInt16.toUInt32.toInt32)), .val (.int (p4.toUInt32.toUInt16.toUInt32.toInt32)), .val (.int z9), .val (.int (p0 &&& (7 : Int32))), .val (.ref b174), .val (.int (0 : Int32))] []))
              refine own_byH (fun _ kS => XS.goto X188.here hx rfl (pc0 := 142) (pc' := 267) rfl (hb hby at_142) (by decide) (by decide) kS) ?_
              show own_ComesH Z p e below s _ _ _ (T188.setTop (mkF m 267 #[.val (.int p0), .val (.int p1), .val (.int p2), .val (.int p3), .val (.int p4), .val (.int (p1.toUInt32.toUInt16.toUInt32.toInt32)), .val (.int (p2.toUInt32.toUInt16.toUInt32.toInt32)), .val (.int (p3.toUInt32.toUInt16.toUInt32.toInt32)), .val (.int (p4.toUInt32.toUInt16.toUInt32.toInt32)), .val (.int z9), .val (.int (p0 &&& (7 : Int32))), .val (.ref b174), .val (.int (0 : Int32))] []))
              exact J267 _ _ _ _ _ z9 (.ref b174) (0 : Int32) (X188.more (by decide) (by decide)) rfl hZJ56 hownJ56 hSJ56 (Nat.le_trans (Nat.le_trans (Nat.le_trans (Nat.le_trans (Nat.le_trans hkJ56 E174.1) E176.1) (Keep.of_wr W179).1) (Keep.of_wr W182).1) K188.1) CH189 N188 (c185.keep K188 (allS g_b174 all0)) (Nat.le_trans (Nat.le_trans (Nat.le_trans (Nat.le_trans (Nat.le_trans ZJ56 E174.1) E176.1) (Keep.of_wr W179).1) (Keep.of_wr W182).1) K188.1) (Or.inr ⟨_, _, rfl, hYs, Or.inr ⟨rfl, own_short (Or.inl (by rw [hcl]; decide))⟩⟩)
            · show own_ComesH Z p e below s _ _ _ (T182.setTop (mkF m 134 #[.val (.int p0), .val (.int p1), .val (.int p2), .val (.int p3), .val (.int p4), .val (.int (p1.toUInt32.toUInt16.toUInt32.toInt32)), .val (.int (p2.toUInt32.toUInt16.toUInt32.toInt32)), .val (.int (p3.toUInt32.toUInt16.toUInt32.toInt32)), .val (.int (p4.toUInt32.toUInt16.toUInt32.toInt32)), .val (.int z9), .val (.int (p0 &&& (7 : Int32))), .unset, .unset] [(.ref b176), (.ref b174), (.ref b174)]))
              have hp : ∀ c ∈ [(p2.toUInt32.toUInt16.toUInt32.toInt32), (p4.toUInt32.toUInt16.toUInt32.toInt32)], ¬ c < 0 ∧ ¬ (255 : Int32) < c := fun c hc => ⟨(hB2 c hc).1, fun q => hw255 ⟨c, hc, q⟩⟩
              have c191 := ((((D174 (Or.inr (hw _ (List.mem_of_getElem? (i := 37) rfl))) (ty := (.array .byte)) (by decide)).ext E176).other W179 (Or.inl nA)).other W182 (Or.inl nA))
              have c192 := ((((D174 (Or.inr (hw _ (List.mem_of_getElem? (i := 35) rfl))) (ty := .byte) (by decide)).ext E176).other W179 (Or.inl nA)).other W182 (Or.inl nA))
              have c193 := ((((OJ56.ext E174).ext E176).wr W179 g_b176).wr W182 g_b176)
              obtain ⟨vv194, _, ⟨T194, L194, k194, n194⟩, -, X194, ⟨Lc194, hQ194, l194, y194, z194⟩, st194⟩ := X182.specialBack hx (y := (⟨"java/lang/String", "<init>", "([C)V"⟩ : MethodName)) rfl hownJ56 (mvT hZJ56 (hw _ (List.mem_of_getElem? (i := 12) rfl))) (mvT hZJ56 (hw _ (List.mem_of_getElem? (i := 13) rfl))) (mvT hZJ56 (hw _ (List.mem_of_getElem? (i := 14) rfl))) (by decide) (StrChars.Road.backV (W := 1) hZJ56 hws (kI := 4) (hw _ (List.mem_of_getElem? (i := 9) rfl)) (cs := [(p2.toUInt32.toUInt16.toUInt32.toInt32), (p4.toUInt32.toUInt16.toUInt32.toInt32)]) (bs := ([(p2.toUInt32.toUInt16.toUInt32.toInt32), (p4.toUInt32.toUInt16.toUInt32.toInt32)]).map (fun c => c.toInt8.toInt32)) (n := 2) (n0 := n0) g_b174 (Nat.le_trans (Nat.le_trans (Nat.le_trans (Nat.le_trans ZJ56 E174.1) E176.1) (Keep.of_wr W179).1) (Keep.of_wr W182).1) (((A174.ext E176).wr W179).wr W182) c191 c192 Vq (Sz.ext c193.2) hzc hcl (by rw [hcl]) (by decide) (by decide) hp rfl (by decide) (by decide)) (g := (mkF m 134 #[.val (.int p0), .val (.int p1), .val (.int p2), .val (.int p3), .val (.int p4), .val (.int (p1.toUInt32.toUInt16.toUInt32.toInt32)), .val (.int (p2.toUInt32.toUInt16.toUInt32.toInt32)), .val (.int (p3.toUInt32.toUInt16.toUInt32.toInt32)), .val (.int (p4.toUInt32.toUInt16.toUInt32.toInt32)), .val (.int z9), .val (.int (p0 &&& (7 : Int32))), .unset, .unset] [(.ref b176), (.ref b174), (.ref b174)])) rfl (by rw [hml]; rfl) (Steps.refl _) (a := b174) (argsL := [(.ref b176)]) (rest := [(.ref b174)]) (lenOf pd___C_V_325 rfl) rfl (by show 2 * 0 + _ ≤ _; exact Nat.le_of_eq rfl) (hb hby at_134) (fun _ _ => ⟨rfl, e182, (by decide : 2 + 1 ≤ _), (by decide : 6 + 2 ≤ _)⟩)
              dsimp only [Pt.U, Pt.locs, Pt.cells, Pt.slots] at X194 l194 y194 z194 st194 hQ194
              subst l194 y194 z194
              obtain ⟨rfl, N194q, K194, Eb194, Cb194, t194, kb194, _, _, _, Vb194, Ab194⟩ := hQ194
              have N194 := Fr.app N182 N194q
              refine own_trH st194 ?_
              have sf196 := (CR177.trans (CR180.trans CR183)).safe A174.lt sb174
              have CR195 := CHr.keep K194 (sfS sf196 sf0) CH183.1
              have CH195 := CH183.trans CR195
              show own_ComesH Z p e below s _ _ _ (T194.setTop (mkF m 137 #[.val (.int p0), .val (.int p1), .val (.int p2), .val (.int p3), .val (.int p4), .val (.int (p1.toUInt32.toUInt16.toUInt32.toInt32)), .val (.int (p2.toUInt32.toUInt16.toUInt32.toInt32)), .val (.int (p3.toUInt32.toUInt16.toUInt32.toInt32)), .val (.int (p4.toUInt32.toUInt16.toUInt32.toInt32)), .val (.int z9), .val (.int (p0 &&& (7 : Int32))), .unset, .unset] [(.ref b174)]))
              have hYs : own_Txt Z T194.heap b174 [(p2.toUInt32.toUInt16.toUInt32.toInt32), (p4.toUInt32.toUInt16.toUInt32.toInt32)] := ⟨Eb194, t194, kb194, 0, _, _, Vb194, Cb194, Ab194, StrChars.Road.codOf rfl (fun c hc => (hp c hc).2), hB2, by rw [hcl]; decide⟩
              refine own_byH (fun _ kS => XS.astore X194.here hx rfl (hb hby at_137) rfl rfl (l' := #[.val (.int p0), .val (.int p1), .val (.int p2), .val (.int p3), .val (.int p4), .val (.int (p1.toUInt32.toUInt16.toUInt32.toInt32)), .val (.int (p2.toUInt32.toUInt16.toUInt32.toInt32)), .val (.int (p3.toUInt32.toUInt16.toUInt32.toInt32)), .val (.int (p4.toUInt32.toUInt16.toUInt32.toInt32)), .val (.int z9), .val (.int (p0 &&& (7 : Int32))), .val (.ref b174), .unset]) rfl kS) ?_
              show own_ComesH Z p e below s _ _ _ (T194.setTop (mkF m 139 #[.val (.int p0), .val (.int p1), .val (.int p2), .val (.int p3), .val (.int p4), .val (.int (p1.toUInt32.toUInt16.toUInt32.toInt32)), .val (.int (p2.toUInt32.toUInt16.toUInt32.toInt32)), .val (.int (p3.toUInt32.toUInt16.toUInt32.toInt32)), .val (.int (p4.toUInt32.toUInt16.toUInt32.toInt32)), .val (.int z9), .val (.int (p0 &&& (7 : Int32))), .val (.ref b174), .unset] []))
              refine own_byH (fun _ kS => XS.iconst X194.here hx rfl (hb hby at_139) kS) ?_
              show own_ComesH Z p e below s _ _ _ (T194.setTop (mkF m 140 #[.val (.int p0), .val (.int p1), .val (.int p2), .val (.int p3), .val (.int p4), .val (.int (p1.toUInt32.toUInt16.toUInt32.toInt32)), .val (.int (p2.toUInt32.toUInt16.toUInt32.toInt32)), .val (.int (p3.toUInt32.toUInt16.toUInt32.toInt32)), .val (.int (p4.toUInt32.toUInt16.toUInt32.toInt32)), .val (.int z9), .val (.int (p0 &&& (7 : Int32))), .val (.ref b174), .unset] [(.int (0 : Int32))]))
              refine own_byH (fun _ kS => XS.istore X194.here hx rfl (hb hby at_140) rfl (l' := #[.val (.int p0), .val (.int p1), .val (.int p2), .val (.int p3), .val (.int p4), .val (.int (p1.toUInt32.toUInt16.toUInt32.toInt32)), .val (.int (p2.toUInt32.toUInt16.toUInt32.toInt32)), .val (.int (p3.toUInt32.toUInt16.toUInt32.toInt32)), .val (.int (p4.toUInt32.toUInt16.toUInt32.toInt32)), .val (.int z9), .val (.int (p0 &&& (7 : Int32))), .val (.ref b174), .val (.int (0 : Int32))]) rfl kS) ?_
              show own_ComesH Z p e below s _ _ _ (T194.setTop (mkF m 142 #[.val (.int p0), .val (.int p1), .val (.int p2), .val (.int p3), .val (.int p4), .val (.int (p1.toUInt32.toUInt16.toUInt32.toInt32)), .val (.int (p2.toUInt32.toUInt16.toUInt32.toInt32)), .val (.int (p3.toUInt32.toUInt16.toUInt32.toInt32)), .val (.int (p4.toUInt32.toUInt16.toUInt32.toInt32)), .val (.int z9), .val (.int (p0 &&& (7 : Int32))), .val (.ref b174), .val (.int (0 : Int32))] []))
              refine own_byH (fun _ kS => XS.goto X194.here hx rfl (pc0 := 142) (pc' := 267) rfl (hb hby at_142) (by decide) (by decide) kS) ?_
              show own_ComesH Z p e below s _ _ _ (T194.setTop (mkF m 267 #[.val (.int p0), .val (.int p1), .val (.int p2), .val (.int p3), .val (.int p4), .val (.int (p1.toUInt32.toUInt16.toUInt32.toInt32)), .val (.int (p2.toUInt32.toUInt16.toUInt32.toInt32)), .val (.int (p3.toUInt32.toUInt16.toUInt32.toInt32)), .val (.int (p4.toUInt32.toUInt16.toUInt32.toInt32)), .val (.int z9), .val (.int (p0 &&& (7 : Int32))), .val (.ref b174), .val (.int (0 : Int32))] []))
              exact J267 _ _ _ _ _ z9 (.ref b174) (0 : Int32) (X194.more (by decide) (by decide)) rfl hZJ56 hownJ56 hSJ56 (Nat.le_trans (Nat.le_trans (Nat.le_trans (Nat.le_trans (Nat.le_trans hkJ56 E174.1) E176.1) (Keep.of_wr W179).1) (Keep.of_wr W182).1) K194.1) CH195 N194 (c193.keep K194 (allS g_b174 all0)) (Nat.le_trans (Nat.le_trans (Nat.le_trans (Nat.le_trans (Nat.le_trans ZJ56 E174.1) E176.1) (Keep.of_wr W179).1) (Keep.of_wr W182).1) K194.1) (Or.inr ⟨_, _, rfl, hYs, Or.inr ⟨rfl, own_short (Or.inl (by rw [hcl]; decide))⟩⟩)
          · refine own_byH (fun _ kS => XS.icmpYes XJ56.here hx rfl (pc0 := 114) (pc' := 145) rfl (hb hby at_114) rfl (feq hm3).2 (by decide) (by decide) kS) ?_
            show own_ComesH Z p e below s _ _ _ (TJ56.setTop (mkF m 145 #[.val (.int p0), .val (.int p1), .val (.int p2), .val (.int p3), .val (.int p4), .val (.int (p1.toUInt32.toUInt16.toUInt32.toInt32)), .val (.int (p2.toUInt32.toUInt16.toUInt32.toInt32)), .val (.int (p3.toUInt32.toUInt16.toUInt32.toInt32)), .val (.int (p4.toUInt32.toUInt16.toUInt32.toInt32)), .val (.int z9), .val (.int (p0 &&& (7 : Int32))), .unset, .unset] []))
            refine own_byH (fun _ kS => XS.iload XJ56.here hx rfl (hb hby at_145) rfl kS) ?_
            show own_ComesH Z p e below s _ _ _ (TJ56.setTop (mkF m 147 #[.val (.int p0), .val (.int p1), .val (.int p2), .val (.int p3), .val (.int p4), .val (.int (p1.toUInt32.toUInt16.toUInt32.toInt32)), .val (.int (p2.toUInt32.toUInt16.toUInt32.toInt32)), .val (.int (p3.toUInt32.toUInt16.toUInt32.toInt32)), .val (.int (p4.toUInt32.toUInt16.toUInt32.toInt32)), .val (.int z9), .val (.int (p0 &&& (7 : Int32))), .unset, .unset] [(.int (p0 &&& (7 : Int32)))]))
            refine own_byH (fun _ kS => XS.iconst XJ56.here hx rfl (hb hby at_147) kS) ?_
            show own_ComesH Z p e below s _ _ _ (TJ56.setTop (mkF m 148 #[.val (.int p0), .val (.int p1), .val (.int p2), .val (.int p3), .val (.int p4), .val (.int (p1.toUInt32.toUInt16.toUInt32.toInt32)), .val (.int (p2.toUInt32.toUInt16.toUInt32.toInt32)), .val (.int (p3.toUInt32.toUInt16.toUInt32.toInt32)), .val (.int (p4.toUInt32.toUInt16.toUInt32.toInt32)), .val (.int z9), .val (.int (p0 &&& (7 : Int32))), .unset, .unset] [(.int (4 : Int32)), (.int (p0 &&& (7 : Int32)))]))
            by_cases hm4 : (p0 &&& (7 : Int32)) = (4 : Int32)
            · refine own_byH (fun _ kS => XS.icmpNo XJ56.here hx rfl (hb hby at_148) rfl (teq hm4).2 kS) ?_
              show own_ComesH Z p e below s _ _ _ (TJ56.setTop (mkF m 151 #[.val (.int p0), .val (.int p1), .val (.int p2), .val (.int p3), .val (.int p4), .val (.int (p1.toUInt32.toUInt16.toUInt32.toInt32)), .val (.int (p2.toUInt32.toUInt16.toUInt32.toInt32)), .val (.int (p3.toUInt32.toUInt16.toUInt32.toInt32)), .val (.int (p4.toUInt32.toUInt16.toUInt32.toInt32)), .val (.int z9), .val (.int (p0 &&& (7 : Int32))), .unset, .unset] []))
              obtain ⟨T197, h197, X197, e197, E197, A197, D197, -, st197⟩ := newO XJ56 hx hZJ56 hownJ56 (hw _ (List.mem_of_getElem? (i := 8) rfl)) (hw _ (List.mem_of_getElem? (i := 9) rfl)) (hw _ (List.mem_of_getElem? (i := 10) rfl)) eJ56 (g := (mkF m 151 #[.val (.int p0), .val (.int p1), .val (.int p2), .val (.int p3), .val (.int p4), .val (.int (p1.toUInt32.toUInt16.toUInt32.toInt32)), .val (.int (p2.toUInt32.toUInt16.toUInt32.toInt32)), .val (.int (p3.toUInt32.toUInt16.toUInt32.toInt32)), .val (.int (p4.toUInt32.toUInt16.toUInt32.toInt32)), .val (.int z9), .val (.int (p0 &&& (7 : Int32))), .unset, .unset] [])) rfl (hb hby at_151) (by decide) (by decide)
              obtain ⟨b197, g197⟩ : ∃ z, z = hJ56.size := ⟨_, rfl⟩
              rw [← g197] at A197 D197 st197
              have g_b197 : n0 ≤ b197 := Nat.le_trans ZJ56 (Nat.le_of_eq g197.symm)
              refine own_byH st197 ?_
              have CR198 := CHr.ext E197 CHJ56.1
              have CH198 := CHJ56.trans CR198
              have sb197 := Safe.ext E197 CHJ56.1 (Safe.new (Nat.le_of_eq g197.symm))
              show own_ComesH Z p e below s _ _ _ (T197.setTop (mkF m 154 #[.val (.int p0), .val (.int p1), .val (.int p2), .val (.int p3), .val (.int p4), .val (.int (p1.toUInt32.toUInt16.toUInt32.toInt32)), .val (.int (p2.toUInt32.toUInt16.toUInt32.toInt32)), .val (.int (p3.toUInt32.toUInt16.toUInt32.toInt32)), .val (.int (p4.toUInt32.toUInt16.toUInt32.toInt32)), .val (.int z9), .val (.int (p0 &&& (7 : Int32))), .unset, .unset] [(.ref b197)]))
              refine own_byH (fun _ kS => XS.dup X197.here hx rfl (hb hby at_154) rfl rfl kS) ?_
              show own_ComesH Z p e below s _ _ _ (T197.setTop (mkF m 155 #[.val (.int p0), .val (.int p1), .val (.int p2), .val (.int p3), .val (.int p4), .val (.int (p1.toUInt32.toUInt16.toUInt32.toInt32)), .val (.int (p2.toUInt32.toUInt16.toUInt32.toInt32)), .val (.int (p3.toUInt32.toUInt16.toUInt32.toInt32)), .val (.int (p4.toUInt32.toUInt16.toUInt32.toInt32)), .val (.int z9), .val (.int (p0 &&& (7 : Int32))), .unset, .unset] [(.ref b197), (.ref b197)]))
              refine own_byH (fun _ kS => XS.iload X197.here hx rfl (hb hby at_155) rfl kS) ?_
              show own_ComesH Z p e below s _ _ _ (T197.setTop (mkF m 157 #[.val (.int p0), .val (.int p1), .val (.int p2), .val (.int p3), .val (.int p4), .val (.int (p1.toUInt32.toUInt16.toUInt32.toInt32)), .val (.int (p2.toUInt32.toUInt16.toUInt32.toInt32)), .val (.int (p3.toUInt32.toUInt16.toUInt32.toInt32)), .val (.int (p4.toUInt32.toUInt16.toUInt32.toInt32)), .val (.int z9), .val (.int (p0 &&& (7 : Int32))), .unset, .unset] [(.int (p2.toUInt32.toUInt16.toUInt32.toInt32)), (.ref b197), (.ref b197)]))
              refine own_byH (fun _ kS => XS.iload X197.here hx rfl (hb hby at_157) rfl kS) ?_
              show own_ComesH Z p e below s _ _ _ (T197.setTop (mkF m 159 #[.val (.int p0), .val (.int p1), .val (.int p2), .val (.int p3), .val (.int p4), .val (.int (p1.toUInt32.toUInt16.toUInt32.toInt32)), .val (.int (p2.toUInt32.toUInt16.toUInt32.toInt32)), .val (.int (p3.toUInt32.toUInt16.toUInt32.toInt32)), .val (.int (p4.toUInt32.toUInt16.toUInt32.toInt32)), .val (.int z9), .val (.int (p0 &&& (7 : Int32))), .unset, .unset] [(.int (p3.toUInt32.toUInt16.toUInt32.toInt32)), (.int (p2.toUInt32.toUInt16.toUInt32.toInt32)), (.ref b197), (.ref b197)]))
              refine own_byH (fun _ kS => XS.iload X197.here hx rfl (hb hby at_159) rfl kS) ?_
              show own_ComesH Z p e below s _ _ _ (T197.setTop (mkF m 161 #[.val (.int p0), .val (.int p1), .val (.int p2), .val (.int p3), .val (.int p4), .val (.int (p1.toUInt32.toUInt16.toUInt32.toInt32)), .val (.int (p2.toUInt32.toUInt16.toUInt32.toInt32)), .val (.int (p3.toUInt32.toUInt16.toUInt32.toInt32)), .val (.int (p4.toUInt32.toUInt16.toUInt32.toInt32)), .val (.int z9), .val (.int (p0 &&& (7 : Int32))), .unset, .unset] [(.int (p1.toUInt32.toUInt16.toUInt32.toInt32)), (.int (p3.toUInt32.toUInt16.toUInt32.toInt32)), (.int (p2.toUInt32.toUInt16.toUInt32.toInt32)), (.ref b197), (.ref b197)]))
              refine own_byH (fun _ kS => XS.iload X197.here hx rfl (hb hby at_161) rfl kS) ?_
              show own_ComesH Z p e below s _ _ _ (T197.setTop (mkF m 163 #[.val (.int p0), .val (.int p1), .val (.int p2), .val (.int p3), .val (.int p4), .val (.int (p1.toUInt32.toUInt16.toUInt32.toInt32)), .val (.int (p2.toUInt32.toUInt16.toUInt32.toInt32)), .val (.int (p3.toUInt32.toUInt16.toUInt32.toInt32)), .val (.int (p4.toUInt32.toUInt16.toUInt32.toInt32)), .val (.int z9), .val (.int (p0 &&& (7 : Int32))), .unset, .unset] [(.int (p4.toUInt32.toUInt16.toUInt32.toInt32)), (.int (p1.toUInt32.toUInt16.toUInt32.toInt32)), (.int (p3.toUInt32.toUInt16.toUInt32.toInt32)), (.int (p2.toUInt32.toUInt16.toUInt32.toInt32)), (.ref b197), (.ref b197)]))
              obtain ⟨vv199, _, ⟨T199, L199, k199, n199⟩, -, X199, ⟨Lc199, hQ199, l199, y199, z199⟩, st199⟩ := Jvm.LawKit.callS X197 hx (y := (⟨"com/example/eslabon/eslabon/CodeChallengeMethodIsWellFormedPinLaw", "len42", "(CCCC)[C"⟩ : MethodName)) hownJ56 (mvT hZJ56 (hw _ (List.mem_of_getElem? (i := 123) rfl))) (mvT hZJ56 (hw _ (List.mem_of_getElem? (i := 124) rfl))) (mvT hZJ56 (hw _ (List.mem_of_getElem? (i := 2) rfl))) (mvT hZJ56 (hw _ (List.mem_of_getElem? (i := 125) rfl))) (by decide) (backOf (W := 2) (rm32 l Z a0 hw [] (p2.toUInt32.toUInt16.toUInt32.toInt32) (p3.toUInt32.toUInt16.toUInt32.toInt32) (p1.toUInt32.toUInt16.toUInt32.toInt32) (p4.toUInt32.toUInt16.toUInt32.toInt32) h197 n0 (Nat.le_trans ZJ56 E197.1) (own_nch _) (own_nch _) (own_nch _) (own_nch _)) hZJ56 (hw _ (List.mem_of_getElem? (i := 125) rfl)) (hw _ (List.mem_of_getElem? (i := 2) rfl)) (by decide) (by decide)) (g := (mkF m 163 #[.val (.int p0), .val (.int p1), .val (.int p2), .val (.int p3), .val (.int p4), .val (.int (p1.toUInt32.toUInt16.toUInt32.toInt32)), .val (.int (p2.toUInt32.toUInt16.toUInt32.toInt32)), .val (.int (p3.toUInt32.toUInt16.toUInt32.toInt32)), .val (.int (p4.toUInt32.toUInt16.toUInt32.toInt32)), .val (.int z9), .val (.int (p0 &&& (7 : Int32))), .unset, .unset] [(.int (p4.toUInt32.toUInt16.toUInt32.toInt32)), (.int (p1.toUInt32.toUInt16.toUInt32.toInt32)), (.int (p3.toUInt32.toUInt16.toUInt32.toInt32)), (.int (p2.toUInt32.toUInt16.toUInt32.toInt32)), (.ref b197), (.ref b197)])) rfl (by rw [hml]; rfl) (argsL := [(.int (p2.toUInt32.toUInt16.toUInt32.toInt32)), (.int (p3.toUInt32.toUInt16.toUInt32.toInt32)), (.int (p1.toUInt32.toUInt16.toUInt32.toInt32)), (.int (p4.toUInt32.toUInt16.toUInt32.toInt32))]) (rest := [(.ref b197), (.ref b197)]) (lenOf pd__CCCC__C_507 rfl) rfl (by show 2 * 0 + _ ≤ _; exact Nat.le_of_eq rfl) (hb hby at_163) (fun _ _ => ⟨rfl, e197, (by decide : 1 + 1 ≤ _), (by decide : 4 + 42 ≤ _)⟩)
              dsimp only [Pt.U, Pt.locs, Pt.cells, Pt.slots] at X199 l199 y199 z199 st199 hQ199
              subst l199 y199 z199
              obtain ⟨a199, k199, rfl, N199q, E199, g_a199, sz_a199, V199⟩ := hQ199
              have N199 := Fr.app NJ56 N199q
              refine own_byH st199 ?_
              have CR200 := CHr.ext E199 CH198.1
              have CH200 := CH198.trans CR200
              show own_ComesH Z p e below s _ _ _ (T199.setTop (mkF m 166 #[.val (.int p0), .val (.int p1), .val (.int p2), .val (.int p3), .val (.int p4), .val (.int (p1.toUInt32.toUInt16.toUInt32.toInt32)), .val (.int (p2.toUInt32.toUInt16.toUInt32.toInt32)), .val (.int (p3.toUInt32.toUInt16.toUInt32.toInt32)), .val (.int (p4.toUInt32.toUInt16.toUInt32.toInt32)), .val (.int z9), .val (.int (p0 &&& (7 : Int32))), .unset, .unset] [(.ref a199), (.ref b197), (.ref b197)]))
              have nA : b197 ≠ a199 := Nat.ne_of_lt (Nat.lt_of_lt_of_le A197.lt sz_a199)
              have Vq := V199
              have hcl : ((own_cs (p2.toUInt32.toUInt16.toUInt32.toInt32) (p3.toUInt32.toUInt16.toUInt32.toInt32) (p1.toUInt32.toUInt16.toUInt32.toInt32) (p4.toUInt32.toUInt16.toUInt32.toInt32) 42)).length = 42 := own_clen _ _ _ _ _
              by_cases hw255 : ∃ c ∈ (own_cs (p2.toUInt32.toUInt16.toUInt32.toInt32) (p3.toUInt32.toUInt16.toUInt32.toInt32) (p1.toUInt32.toUInt16.toUInt32.toInt32) (p4.toUInt32.toUInt16.toUInt32.toInt32) 42), (255 : Int32) < c
              · show own_ComesH Z p e below s _ _ _ (T199.setTop (mkF m 166 #[.val (.int p0), .val (.int p1), .val (.int p2), .val (.int p3), .val (.int p4), .val (.int (p1.toUInt32.toUInt16.toUInt32.toInt32)), .val (.int (p2.toUInt32.toUInt16.toUInt32.toInt32)), .val (.int (p3.toUInt32.toUInt16.toUInt32.toInt32)), .val (.int (p4.toUInt32.toUInt16.toUInt32.toInt32)), .val (.int z9), .val (.int (p0 &&& (7 : Int32))), .unset, .unset] [(.ref a199), (.ref b197), (.ref b197)]))
                have c201 := ((D197 (Or.inr (hw _ (List.mem_of_getElem? (i := 37) rfl))) (ty := (.array .byte)) (by decide)).ext E199)
                have c202 := ((D197 (Or.inr (hw _ (List.mem_of_getElem? (i := 35) rfl))) (ty := .byte) (by decide)).ext E199)
                obtain ⟨vv203, _, ⟨T203, L203, k203, n203⟩, -, X203, ⟨Lc203, hQ203, l203, y203, z203⟩, st203⟩ := X199.specialBack hx (y := (⟨"java/lang/String", "<init>", "([C)V"⟩ : MethodName)) rfl hownJ56 (mvT hZJ56 (hw _ (List.mem_of_getElem? (i := 12) rfl))) (mvT hZJ56 (hw _ (List.mem_of_getElem? (i := 13) rfl))) (mvT hZJ56 (hw _ (List.mem_of_getElem? (i := 14) rfl))) (by decide) (backOf (W := 1) (rm3w l Z a0 hw [] b197 a199 k199 (own_cs (p2.toUInt32.toUInt16.toUInt32.toInt32) (p3.toUInt32.toUInt16.toUInt32.toInt32) (p1.toUInt32.toUInt16.toUInt32.toInt32) (p4.toUInt32.toUInt16.toUInt32.toInt32) 42) zc T199.heap n0 (Nat.le_trans (Nat.le_trans ZJ56 E197.1) E199.1) ((OJ56.ext E197).ext E199) Sz hzc Sd Sh Sl (A197.ext E199) c201 c202 g_b197 nA Vq hw255 (by rw [hcl]; decide) (by rw [hcl]; decide) (own_cbd (own_nch p2) (own_nch p3) (own_nch p1) (own_nch p4))) hZJ56 (hw _ (List.mem_of_getElem? (i := 14) rfl)) (hw _ (List.mem_of_getElem? (i := 10) rfl)) (by decide) (by decide)) (g := (mkF m 166 #[.val (.int p0), .val (.int p1), .val (.int p2), .val (.int p3), .val (.int p4), .val (.int (p1.toUInt32.toUInt16.toUInt32.toInt32)), .val (.int (p2.toUInt32.toUInt16.toUInt32.toInt32)), .val (.int (p3.toUInt32.toUInt16.toUInt32.toInt32)), .val (.int (p4.toUInt32.toUInt16.toUInt32.toInt32)), .val (.int z9), .val (.int (p0 &&& (7 : Int32))), .unset, .unset] [(.ref a199), (.ref b197), (.ref b197)])) rfl (by rw [hml]; rfl) (Steps.refl _) (a := b197) (argsL := [(.ref a199)]) (rest := [(.ref b197)]) (lenOf pd___C_V_325 rfl) rfl (by show 2 * 0 + _ ≤ _; exact Nat.le_of_eq rfl) (hb hby at_166) (fun _ _ => ⟨rfl, rfl, (by decide : 2 + 2 ≤ _), (by decide : 46 + 387 ≤ _)⟩)
                dsimp only [Pt.U, Pt.locs, Pt.cells, Pt.slots] at X203 l203 y203 z203 st203 hQ203
                subst l203 y203 z203
                obtain ⟨rfl, N203q, K203, Y203⟩ := hQ203
                have N203 := Fr.app N199 N203q
                refine own_trH st203 ?_
                have sf205 := CR200.safe A197.lt sb197
                have CR204 := CHr.keep K203 (sfS sf205 sf0) CH200.1
                have CH204 := CH200.trans CR204
                show own_ComesH Z p e below s _ _ _ (T203.setTop (mkF m 169 #[.val (.int p0), .val (.int p1), .val (.int p2), .val (.int p3), .val (.int p4), .val (.int (p1.toUInt32.toUInt16.toUInt32.toInt32)), .val (.int (p2.toUInt32.toUInt16.toUInt32.toInt32)), .val (.int (p3.toUInt32.toUInt16.toUInt32.toInt32)), .val (.int (p4.toUInt32.toUInt16.toUInt32.toInt32)), .val (.int z9), .val (.int (p0 &&& (7 : Int32))), .unset, .unset] [(.ref b197)]))
                have hYs := Y203
                refine own_byH (fun _ kS => XS.astore X203.here hx rfl (hb hby at_169) rfl rfl (l' := #[.val (.int p0), .val (.int p1), .val (.int p2), .val (.int p3), .val (.int p4), .val (.int (p1.toUInt32.toUInt16.toUInt32.toInt32)), .val (.int (p2.toUInt32.toUInt16.toUInt32.toInt32)), .val (.int (p3.toUInt32.toUInt16.toUInt32.toInt32)), .val (.int (p4.toUInt32.toUInt16.toUInt32.toInt32)), .val (.int z9), .val (.int (p0 &&& (7 : Int32))), .val (.ref b197), .unset]) rfl kS) ?_
                show own_ComesH Z p e below s _ _ _ (T203.setTop (mkF m 171 #[.val (.int p0), .val (.int p1), .val (.int p2), .val (.int p3), .val (.int p4), .val (.int (p1.toUInt32.toUInt16.toUInt32.toInt32)), .val (.int (p2.toUInt32.toUInt16.toUInt32.toInt32)), .val (.int (p3.toUInt32.toUInt16.toUInt32.toInt32)), .val (.int (p4.toUInt32.toUInt16.toUInt32.toInt32)), .val (.int z9), .val (.int (p0 &&& (7 : Int32))), .val (.ref b197), .unset] []))
                refine own_byH (fun _ kS => XS.iconst X203.here hx rfl (hb hby at_171) kS) ?_
                show own_ComesH Z p e below s _ _ _ (T203.setTop (mkF m 172 #[.val (.int p0), .val (.int p1), .val (.int p2), .val (.int p3), .val (.int p4), .val (.int (p1.toUInt32.toUInt16.toUInt32.toInt32)), .val (.int (p2.toUInt32.toUInt16.toUInt32.toInt32)), .val (.int (p3.toUInt32.toUInt16.toUInt32.toInt32)), .val (.int (p4.toUInt32.toUInt16.toUInt32.toInt32)), .val (.int z9), .val (.int (p0 &&& (7 : Int32))), .val (.ref b197), .unset] [(.int (0 : Int32))]))
                refine own_byH (fun _ kS => XS.istore X203.here hx rfl (hb hby at_172) rfl (l' := #[.val (.int p0), .val (.int p1), .val (.int p2), .val (.int p3), .val (.int p4), .val (.int (p1.toUInt32.toUInt16.toUInt32.toInt32)), .val (.int (p2.toUInt32.toUInt16.toUInt32.toInt32)), .val (.int (p3.toUInt32.toUInt16.toUInt32.toInt32)), .val (.int (p4.toUInt32.toUInt16.toUInt32.toInt32)), .val (.int z9), .val (.int (p0 &&& (7 : Int32))), .val (.ref b197), .val (.int (0 : Int32))]) rfl kS) ?_
                show own_ComesH Z p e below s _ _ _ (T203.setTop (mkF m 174 #[.val (.int p0), .val (.int p1), .val (.int p2), .val (.int p3), .val (.int p4), .val (.int (p1.toUInt32.toUInt16.toUInt32.toInt32)), .val (.int (p2.toUInt32.toUInt16.toUInt32.toInt32)), .val (.int (p3.toUInt32.toUInt16.toUInt32.toInt32)), .val (.int (p4.toUInt32.toUInt16.toUInt32.toInt32)), .val (.int z9), .val (.int (p0 &&& (7 : Int32))), .val (.ref b197), .val (.int (0 : Int32))] []))
                refine own_byH (fun _ kS => XS.goto X203.here hx rfl (pc0 := 174) (pc' := 267) rfl (hb hby at_174) (by decide) (by decide) kS) ?_
                show own_ComesH Z p e below s _ _ _ (T203.setTop (mkF m 267 #[.val (.int p0), .val (.int p1), .val (.int p2), .val (.int p3), .val (.int p4), .val (.int (p1.toUInt32.toUInt16.toUInt32.toInt32)), .val (.int (p2.toUInt32.toUInt16.toUInt32.toInt32)), .val (.int (p3.toUInt32.toUInt16.toUInt32.toInt32)), .val (.int (p4.toUInt32.toUInt16.toUInt32.toInt32)), .val (.int z9), .val (.int (p0 &&& (7 : Int32))), .val (.ref b197), .val (.int (0 : Int32))] []))
                have c206 := (((OJ56.ext E197).ext E199).keep K203 (allS g_b197 all0))
                exact J267 _ _ _ _ _ z9 (.ref b197) (0 : Int32) (X203.more (by decide) (by decide)) rfl hZJ56 hownJ56 hSJ56 (Nat.le_trans (Nat.le_trans (Nat.le_trans hkJ56 E197.1) E199.1) K203.1) CH204 N203 c206 (Nat.le_trans (Nat.le_trans (Nat.le_trans ZJ56 E197.1) E199.1) K203.1) (Or.inr ⟨_, _, rfl, hYs, Or.inr ⟨rfl, own_short (Or.inl (by rw [hcl]; decide))⟩⟩)
              · show own_ComesH Z p e below s _ _ _ (T199.setTop (mkF m 166 #[.val (.int p0), .val (.int p1), .val (.int p2), .val (.int p3), .val (.int p4), .val (.int (p1.toUInt32.toUInt16.toUInt32.toInt32)), .val (.int (p2.toUInt32.toUInt16.toUInt32.toInt32)), .val (.int (p3.toUInt32.toUInt16.toUInt32.toInt32)), .val (.int (p4.toUInt32.toUInt16.toUInt32.toInt32)), .val (.int z9), .val (.int (p0 &&& (7 : Int32))), .unset, .unset] [(.ref a199), (.ref b197), (.ref b197)]))
                have hp : ∀ c ∈ (own_cs (p2.toUInt32.toUInt16.toUInt32.toInt32) (p3.toUInt32.toUInt16.toUInt32.toInt32) (p1.toUInt32.toUInt16.toUInt32.toInt32) (p4.toUInt32.toUInt16.toUInt32.toInt32) 42), ¬ c < 0 ∧ ¬ (255 : Int32) < c := fun c hc => ⟨((own_cbd (own_nch p2) (own_nch p3) (own_nch p1) (own_nch p4)) c hc).1, fun q => hw255 ⟨c, hc, q⟩⟩
                have c207 := ((D197 (Or.inr (hw _ (List.mem_of_getElem? (i := 37) rfl))) (ty := (.array .byte)) (by decide)).ext E199)
                have c208 := ((D197 (Or.inr (hw _ (List.mem_of_getElem? (i := 35) rfl))) (ty := .byte) (by decide)).ext E199)
                obtain ⟨vv209, _, ⟨T209, L209, k209, n209⟩, -, X209, ⟨Lc209, hQ209, l209, y209, z209⟩, st209⟩ := X199.specialBack hx (y := (⟨"java/lang/String", "<init>", "([C)V"⟩ : MethodName)) rfl hownJ56 (mvT hZJ56 (hw _ (List.mem_of_getElem? (i := 12) rfl))) (mvT hZJ56 (hw _ (List.mem_of_getElem? (i := 13) rfl))) (mvT hZJ56 (hw _ (List.mem_of_getElem? (i := 14) rfl))) (by decide) (StrChars.Road.backV (W := 1) hZJ56 hws (kI := 4) (hw _ (List.mem_of_getElem? (i := 9) rfl)) (cs := (own_cs (p2.toUInt32.toUInt16.toUInt32.toInt32) (p3.toUInt32.toUInt16.toUInt32.toInt32) (p1.toUInt32.toUInt16.toUInt32.toInt32) (p4.toUInt32.toUInt16.toUInt32.toInt32) 42)) (bs := ((own_cs (p2.toUInt32.toUInt16.toUInt32.toInt32) (p3.toUInt32.toUInt16.toUInt32.toInt32) (p1.toUInt32.toUInt16.toUInt32.toInt32) (p4.toUInt32.toUInt16.toUInt32.toInt32) 42)).map (fun c => c.toInt8.toInt32)) (n := 42) (n0 := n0) g_b197 (Nat.le_trans (Nat.le_trans ZJ56 E197.1) E199.1) (A197.ext E199) c207 c208 Vq (Sz.ext ((OJ56.ext E197).ext E199).2) hzc hcl (by rw [hcl]) (by decide) (by decide) hp rfl (by decide) (by decide)) (g := (mkF m 166 #[.val (.int p0), .val (.int p1), .val (.int p2), .val (.int p3), .val (.int p4), .val (.int (p1.toUInt32.toUInt16.toUInt32.toInt32)), .val (.int (p2.toUInt32.toUInt16.toUInt32.toInt32)), .val (.int (p3.toUInt32.toUInt16.toUInt32.toInt32)), .val (.int (p4.toUInt32.toUInt16.toUInt32.toInt32)), .val (.int z9), .val (.int (p0 &&& (7 : Int32))), .unset, .unset] [(.ref a199), (.ref b197), (.ref b197)])) rfl (by rw [hml]; rfl) (Steps.refl _) (a := b197) (argsL := [(.ref a199)]) (rest := [(.ref b197)]) (lenOf pd___C_V_325 rfl) rfl (by show 2 * 0 + _ ≤ _; exact Nat.le_of_eq rfl) (hb hby at_166) (fun _ _ => ⟨rfl, rfl, (by decide : 2 + 1 ≤ _), (by decide : 46 + 42 ≤ _)⟩)
                dsimp only [Pt.U, Pt.locs, Pt.cells, Pt.slots] at X209 l209 y209 z209 st209 hQ209
                subst l209 y209 z209
                obtain ⟨rfl, N209q, K209, Eb209, Cb209, t209, kb209, _, _, _, Vb209, Ab209⟩ := hQ209
                have N209 := Fr.app N199 N209q
                refine own_trH st209 ?_
                have sf211 := CR200.safe A197.lt sb197
                have CR210 := CHr.keep K209 (sfS sf211 sf0) CH200.1
                have CH210 := CH200.trans CR210
                show own_ComesH Z p e below s _ _ _ (T209.setTop (mkF m 169 #[.val (.int p0), .val (.int p1), .val (.int p2), .val (.int p3), .val (.int p4), .val (.int (p1.toUInt32.toUInt16.toUInt32.toInt32)), .val (.int (p2.toUInt32.toUInt16.toUInt32.toInt32)), .val (.int (p3.toUInt32.toUInt16.toUInt32.toInt32)), .val (.int (p4.toUInt32.toUInt16.toUInt32.toInt32)), .val (.int z9), .val (.int (p0 &&& (7 : Int32))), .unset, .unset] [(.ref b197)]))
                have hYs : own_Txt Z T209.heap b197 (own_cs (p2.toUInt32.toUInt16.toUInt32.toInt32) (p3.toUInt32.toUInt16.toUInt32.toInt32) (p1.toUInt32.toUInt16.toUInt32.toInt32) (p4.toUInt32.toUInt16.toUInt32.toInt32) 42) := ⟨Eb209, t209, kb209, 0, _, _, Vb209, Cb209, Ab209, StrChars.Road.codOf rfl (fun c hc => (hp c hc).2), (own_cbd (own_nch p2) (own_nch p3) (own_nch p1) (own_nch p4)), by rw [hcl]; decide⟩
                refine own_byH (fun _ kS => XS.astore X209.here hx rfl (hb hby at_169) rfl rfl (l' := #[.val (.int p0), .val (.int p1), .val (.int p2), .val (.int p3), .val (.int p4), .val (.int (p1.toUInt32.toUInt16.toUInt32.toInt32)), .val (.int (p2.toUInt32.toUInt16.toUInt32.toInt32)), .val (.int (p3.toUInt32.toUInt16.toUInt32.toInt32)), .val (.int (p4.toUInt32.toUInt16.toUInt32.toInt32)), .val (.int z9), .val (.int (p0 &&& (7 : Int32))), .val (.ref b197), .unset]) rfl kS) ?_
                show own_ComesH Z p e below s _ _ _ (T209.setTop (mkF m 171 #[.val (.int p0), .val (.int p1), .val (.int p2), .val (.int p3), .val (.int p4), .val (.int (p1.toUInt32.toUInt16.toUInt32.toInt32)), .val (.int (p2.toUInt32.toUInt16.toUInt32.toInt32)), .val (.int (p3.toUInt32.toUInt16.toUInt32.toInt32)), .val (.int (p4.toUInt32.toUInt16.toUInt32.toInt32)), .val (.int z9), .val (.int (p0 &&& (7 : Int32))), .val (.ref b197), .unset] []))
                refine own_byH (fun _ kS => XS.iconst X209.here hx rfl (hb hby at_171) kS) ?_
                show own_ComesH Z p e below s _ _ _ (T209.setTop (mkF m 172 #[.val (.int p0), .val (.int p1), .val (.int p2), .val (.int p3), .val (.int p4), .val (.int (p1.toUInt32.toUInt16.toUInt32.toInt32)), .val (.int (p2.toUInt32.toUInt16.toUInt32.toInt32)), .val (.int (p3.toUInt32.toUInt16.toUInt32.toInt32)), .val (.int (p4.toUInt32.toUInt16.toUInt32.toInt32)), .val (.int z9), .val (.int (p0 &&& (7 : Int32))), .val (.ref b197), .unset] [(.int (0 : Int32))]))
                refine own_byH (fun _ kS => XS.istore X209.here hx rfl (hb hby at_172) rfl (l' := #[.val (.int p0), .val (.int p1), .val (.int p2), .val (.int p3), .val (.int p4), .val (.int (p1.toUInt32.toUInt16.toUInt32.toInt32)), .val (.int (p2.toUInt32.toUInt16.toUInt32.toInt32)), .val (.int (p3.toUInt32.toUInt16.toUInt32.toInt32)), .val (.int (p4.toUInt32.toUInt16.toUInt32.toInt32)), .val (.int z9), .val (.int (p0 &&& (7 : Int32))), .val (.ref b197), .val (.int (0 : Int32))]) rfl kS) ?_
                show own_ComesH Z p e below s _ _ _ (T209.setTop (mkF m 174 #[.val (.int p0), .val (.int p1), .val (.int p2), .val (.int p3), .val (.int p4), .val (.int (p1.toUInt32.toUInt16.toUInt32.toInt32)), .val (.int (p2.toUInt32.toUInt16.toUInt32.toInt32)), .val (.int (p3.toUInt32.toUInt16.toUInt32.toInt32)), .val (.int (p4.toUInt32.toUInt16.toUInt32.toInt32)), .val (.int z9), .val (.int (p0 &&& (7 : Int32))), .val (.ref b197), .val (.int (0 : Int32))] []))
                refine own_byH (fun _ kS => XS.goto X209.here hx rfl (pc0 := 174) (pc' := 267) rfl (hb hby at_174) (by decide) (by decide) kS) ?_
                show own_ComesH Z p e below s _ _ _ (T209.setTop (mkF m 267 #[.val (.int p0), .val (.int p1), .val (.int p2), .val (.int p3), .val (.int p4), .val (.int (p1.toUInt32.toUInt16.toUInt32.toInt32)), .val (.int (p2.toUInt32.toUInt16.toUInt32.toInt32)), .val (.int (p3.toUInt32.toUInt16.toUInt32.toInt32)), .val (.int (p4.toUInt32.toUInt16.toUInt32.toInt32)), .val (.int z9), .val (.int (p0 &&& (7 : Int32))), .val (.ref b197), .val (.int (0 : Int32))] []))
                have c212 := (((OJ56.ext E197).ext E199).keep K209 (allS g_b197 all0))
                exact J267 _ _ _ _ _ z9 (.ref b197) (0 : Int32) (X209.more (by decide) (by decide)) rfl hZJ56 hownJ56 hSJ56 (Nat.le_trans (Nat.le_trans (Nat.le_trans hkJ56 E197.1) E199.1) K209.1) CH210 N209 c212 (Nat.le_trans (Nat.le_trans (Nat.le_trans ZJ56 E197.1) E199.1) K209.1) (Or.inr ⟨_, _, rfl, hYs, Or.inr ⟨rfl, own_short (Or.inl (by rw [hcl]; decide))⟩⟩)
            · refine own_byH (fun _ kS => XS.icmpYes XJ56.here hx rfl (pc0 := 148) (pc' := 177) rfl (hb hby at_148) rfl (feq hm4).2 (by decide) (by decide) kS) ?_
              show own_ComesH Z p e below s _ _ _ (TJ56.setTop (mkF m 177 #[.val (.int p0), .val (.int p1), .val (.int p2), .val (.int p3), .val (.int p4), .val (.int (p1.toUInt32.toUInt16.toUInt32.toInt32)), .val (.int (p2.toUInt32.toUInt16.toUInt32.toInt32)), .val (.int (p3.toUInt32.toUInt16.toUInt32.toInt32)), .val (.int (p4.toUInt32.toUInt16.toUInt32.toInt32)), .val (.int z9), .val (.int (p0 &&& (7 : Int32))), .unset, .unset] []))
              refine own_byH (fun _ kS => XS.iload XJ56.here hx rfl (hb hby at_177) rfl kS) ?_
              show own_ComesH Z p e below s _ _ _ (TJ56.setTop (mkF m 179 #[.val (.int p0), .val (.int p1), .val (.int p2), .val (.int p3), .val (.int p4), .val (.int (p1.toUInt32.toUInt16.toUInt32.toInt32)), .val (.int (p2.toUInt32.toUInt16.toUInt32.toInt32)), .val (.int (p3.toUInt32.toUInt16.toUInt32.toInt32)), .val (.int (p4.toUInt32.toUInt16.toUInt32.toInt32)), .val (.int z9), .val (.int (p0 &&& (7 : Int32))), .unset, .unset] [(.int (p0 &&& (7 : Int32)))]))
              refine own_byH (fun _ kS => XS.iconst XJ56.here hx rfl (hb hby at_179) kS) ?_
              show own_ComesH Z p e below s _ _ _ (TJ56.setTop (mkF m 180 #[.val (.int p0), .val (.int p1), .val (.int p2), .val (.int p3), .val (.int p4), .val (.int (p1.toUInt32.toUInt16.toUInt32.toInt32)), .val (.int (p2.toUInt32.toUInt16.toUInt32.toInt32)), .val (.int (p3.toUInt32.toUInt16.toUInt32.toInt32)), .val (.int (p4.toUInt32.toUInt16.toUInt32.toInt32)), .val (.int z9), .val (.int (p0 &&& (7 : Int32))), .unset, .unset] [(.int (5 : Int32)), (.int (p0 &&& (7 : Int32)))]))
              by_cases hm5 : (p0 &&& (7 : Int32)) = (5 : Int32)
              · refine own_byH (fun _ kS => XS.icmpNo XJ56.here hx rfl (hb hby at_180) rfl (teq hm5).2 kS) ?_
                show own_ComesH Z p e below s _ _ _ (TJ56.setTop (mkF m 183 #[.val (.int p0), .val (.int p1), .val (.int p2), .val (.int p3), .val (.int p4), .val (.int (p1.toUInt32.toUInt16.toUInt32.toInt32)), .val (.int (p2.toUInt32.toUInt16.toUInt32.toInt32)), .val (.int (p3.toUInt32.toUInt16.toUInt32.toInt32)), .val (.int (p4.toUInt32.toUInt16.toUInt32.toInt32)), .val (.int z9), .val (.int (p0 &&& (7 : Int32))), .unset, .unset] []))
                obtain ⟨T213, h213, X213, e213, E213, A213, D213, -, st213⟩ := newO XJ56 hx hZJ56 hownJ56 (hw _ (List.mem_of_getElem? (i := 8) rfl)) (hw _ (List.mem_of_getElem? (i := 9) rfl)) (hw _ (List.mem_of_getElem? (i := 10) rfl)) eJ56 (g := (mkF m 183 #[.val (.int p0), .val (.int p1), .val (.int p2), .val (.int p3), .val (.int p4), .val (.int (p1.toUInt32.toUInt16.toUInt32.toInt32)), .val (.int (p2.toUInt32.toUInt16.toUInt32.toInt32)), .val (.int (p3.toUInt32.toUInt16.toUInt32.toInt32)), .val (.int (p4.toUInt32.toUInt16.toUInt32.toInt32)), .val (.int z9), .val (.int (p0 &&& (7 : Int32))), .unset, .unset] [])) rfl (hb hby at_183) (by decide) (by decide)
                obtain ⟨b213, g213⟩ : ∃ z, z = hJ56.size := ⟨_, rfl⟩
                rw [← g213] at A213 D213 st213
                have g_b213 : n0 ≤ b213 := Nat.le_trans ZJ56 (Nat.le_of_eq g213.symm)
                refine own_byH st213 ?_
                have CR214 := CHr.ext E213 CHJ56.1
                have CH214 := CHJ56.trans CR214
                have sb213 := Safe.ext E213 CHJ56.1 (Safe.new (Nat.le_of_eq g213.symm))
                show own_ComesH Z p e below s _ _ _ (T213.setTop (mkF m 186 #[.val (.int p0), .val (.int p1), .val (.int p2), .val (.int p3), .val (.int p4), .val (.int (p1.toUInt32.toUInt16.toUInt32.toInt32)), .val (.int (p2.toUInt32.toUInt16.toUInt32.toInt32)), .val (.int (p3.toUInt32.toUInt16.toUInt32.toInt32)), .val (.int (p4.toUInt32.toUInt16.toUInt32.toInt32)), .val (.int z9), .val (.int (p0 &&& (7 : Int32))), .unset, .unset] [(.ref b213)]))
                refine own_byH (fun _ kS => XS.dup X213.here hx rfl (hb hby at_186) rfl rfl kS) ?_
                show own_ComesH Z p e below s _ _ _ (T213.setTop (mkF m 187 #[.val (.int p0), .val (.int p1), .val (.int p2), .val (.int p3), .val (.int p4), .val (.int (p1.toUInt32.toUInt16.toUInt32.toInt32)), .val (.int (p2.toUInt32.toUInt16.toUInt32.toInt32)), .val (.int (p3.toUInt32.toUInt16.toUInt32.toInt32)), .val (.int (p4.toUInt32.toUInt16.toUInt32.toInt32)), .val (.int z9), .val (.int (p0 &&& (7 : Int32))), .unset, .unset] [(.ref b213), (.ref b213)]))
                refine own_byH (fun _ kS => XS.iload X213.here hx rfl (hb hby at_187) rfl kS) ?_
                show own_ComesH Z p e below s _ _ _ (T213.setTop (mkF m 189 #[.val (.int p0), .val (.int p1), .val (.int p2), .val (.int p3), .val (.int p4), .val (.int (p1.toUInt32.toUInt16.toUInt32.toInt32)), .val (.int (p2.toUInt32.toUInt16.toUInt32.toInt32)), .val (.int (p3.toUInt32.toUInt16.toUInt32.toInt32)), .val (.int (p4.toUInt32.toUInt16.toUInt32.toInt32)), .val (.int z9), .val (.int (p0 &&& (7 : Int32))), .unset, .unset] [(.int (p2.toUInt32.toUInt16.toUInt32.toInt32)), (.ref b213), (.ref b213)]))
                refine own_byH (fun _ kS => XS.iload X213.here hx rfl (hb hby at_189) rfl kS) ?_
                show own_ComesH Z p e below s _ _ _ (T213.setTop (mkF m 191 #[.val (.int p0), .val (.int p1), .val (.int p2), .val (.int p3), .val (.int p4), .val (.int (p1.toUInt32.toUInt16.toUInt32.toInt32)), .val (.int (p2.toUInt32.toUInt16.toUInt32.toInt32)), .val (.int (p3.toUInt32.toUInt16.toUInt32.toInt32)), .val (.int (p4.toUInt32.toUInt16.toUInt32.toInt32)), .val (.int z9), .val (.int (p0 &&& (7 : Int32))), .unset, .unset] [(.int (p3.toUInt32.toUInt16.toUInt32.toInt32)), (.int (p2.toUInt32.toUInt16.toUInt32.toInt32)), (.ref b213), (.ref b213)]))
                refine own_byH (fun _ kS => XS.iload X213.here hx rfl (hb hby at_191) rfl kS) ?_
                show own_ComesH Z p e below s _ _ _ (T213.setTop (mkF m 193 #[.val (.int p0), .val (.int p1), .val (.int p2), .val (.int p3), .val (.int p4), .val (.int (p1.toUInt32.toUInt16.toUInt32.toInt32)), .val (.int (p2.toUInt32.toUInt16.toUInt32.toInt32)), .val (.int (p3.toUInt32.toUInt16.toUInt32.toInt32)), .val (.int (p4.toUInt32.toUInt16.toUInt32.toInt32)), .val (.int z9), .val (.int (p0 &&& (7 : Int32))), .unset, .unset] [(.int (p1.toUInt32.toUInt16.toUInt32.toInt32)), (.int (p3.toUInt32.toUInt16.toUInt32.toInt32)), (.int (p2.toUInt32.toUInt16.toUInt32.toInt32)), (.ref b213), (.ref b213)]))
                refine own_byH (fun _ kS => XS.iload X213.here hx rfl (hb hby at_193) rfl kS) ?_
                show own_ComesH Z p e below s _ _ _ (T213.setTop (mkF m 195 #[.val (.int p0), .val (.int p1), .val (.int p2), .val (.int p3), .val (.int p4), .val (.int (p1.toUInt32.toUInt16.toUInt32.toInt32)), .val (.int (p2.toUInt32.toUInt16.toUInt32.toInt32)), .val (.int (p3.toUInt32.toUInt16.toUInt32.toInt32)), .val (.int (p4.toUInt32.toUInt16.toUInt32.toInt32)), .val (.int z9), .val (.int (p0 &&& (7 : Int32))), .unset, .unset] [(.int (p4.toUInt32.toUInt16.toUInt32.toInt32)), (.int (p1.toUInt32.toUInt16.toUInt32.toInt32)), (.int (p3.toUInt32.toUInt16.toUInt32.toInt32)), (.int (p2.toUInt32.toUInt16.toUInt32.toInt32)), (.ref b213), (.ref b213)]))
                obtain ⟨vv215, _, ⟨T215, L215, k215, n215⟩, -, X215, ⟨Lc215, hQ215, l215, y215, z215⟩, st215⟩ := Jvm.LawKit.callS X213 hx (y := (⟨"com/example/eslabon/eslabon/CodeChallengeMethodIsWellFormedPinLaw", "len43", "(CCCC)[C"⟩ : MethodName)) hownJ56 (mvT hZJ56 (hw _ (List.mem_of_getElem? (i := 120) rfl))) (mvT hZJ56 (hw _ (List.mem_of_getElem? (i := 121) rfl))) (mvT hZJ56 (hw _ (List.mem_of_getElem? (i := 2) rfl))) (mvT hZJ56 (hw _ (List.mem_of_getElem? (i := 122) rfl))) (by decide) (backOf (W := 2) (rm31 l Z a0 hw [] (p2.toUInt32.toUInt16.toUInt32.toInt32) (p3.toUInt32.toUInt16.toUInt32.toInt32) (p1.toUInt32.toUInt16.toUInt32.toInt32) (p4.toUInt32.toUInt16.toUInt32.toInt32) h213 n0 (Nat.le_trans ZJ56 E213.1) (own_nch _) (own_nch _) (own_nch _) (own_nch _)) hZJ56 (hw _ (List.mem_of_getElem? (i := 122) rfl)) (hw _ (List.mem_of_getElem? (i := 2) rfl)) (by decide) (by decide)) (g := (mkF m 195 #[.val (.int p0), .val (.int p1), .val (.int p2), .val (.int p3), .val (.int p4), .val (.int (p1.toUInt32.toUInt16.toUInt32.toInt32)), .val (.int (p2.toUInt32.toUInt16.toUInt32.toInt32)), .val (.int (p3.toUInt32.toUInt16.toUInt32.toInt32)), .val (.int (p4.toUInt32.toUInt16.toUInt32.toInt32)), .val (.int z9), .val (.int (p0 &&& (7 : Int32))), .unset, .unset] [(.int (p4.toUInt32.toUInt16.toUInt32.toInt32)), (.int (p1.toUInt32.toUInt16.toUInt32.toInt32)), (.int (p3.toUInt32.toUInt16.toUInt32.toInt32)), (.int (p2.toUInt32.toUInt16.toUInt32.toInt32)), (.ref b213), (.ref b213)])) rfl (by rw [hml]; rfl) (argsL := [(.int (p2.toUInt32.toUInt16.toUInt32.toInt32)), (.int (p3.toUInt32.toUInt16.toUInt32.toInt32)), (.int (p1.toUInt32.toUInt16.toUInt32.toInt32)), (.int (p4.toUInt32.toUInt16.toUInt32.toInt32))]) (rest := [(.ref b213), (.ref b213)]) (lenOf pd__CCCC__C_507 rfl) rfl (by show 2 * 0 + _ ≤ _; exact Nat.le_of_eq rfl) (hb hby at_195) (fun _ _ => ⟨rfl, e213, (by decide : 1 + 1 ≤ _), (by decide : 4 + 43 ≤ _)⟩)
                dsimp only [Pt.U, Pt.locs, Pt.cells, Pt.slots] at X215 l215 y215 z215 st215 hQ215
                subst l215 y215 z215
                obtain ⟨a215, k215, rfl, N215q, E215, g_a215, sz_a215, V215⟩ := hQ215
                have N215 := Fr.app NJ56 N215q
                refine own_byH st215 ?_
                have CR216 := CHr.ext E215 CH214.1
                have CH216 := CH214.trans CR216
                show own_ComesH Z p e below s _ _ _ (T215.setTop (mkF m 198 #[.val (.int p0), .val (.int p1), .val (.int p2), .val (.int p3), .val (.int p4), .val (.int (p1.toUInt32.toUInt16.toUInt32.toInt32)), .val (.int (p2.toUInt32.toUInt16.toUInt32.toInt32)), .val (.int (p3.toUInt32.toUInt16.toUInt32.toInt32)), .val (.int (p4.toUInt32.toUInt16.toUInt32.toInt32)), .val (.int z9), .val (.int (p0 &&& (7 : Int32))), .unset, .unset] [(.ref a215), (.ref b213), (.ref b213)]))
                have nA : b213 ≠ a215 := Nat.ne_of_lt (Nat.lt_of_lt_of_le A213.lt sz_a215)
                have Vq := V215
                have hcl : ((own_cs (p2.toUInt32.toUInt16.toUInt32.toInt32) (p3.toUInt32.toUInt16.toUInt32.toInt32) (p1.toUInt32.toUInt16.toUInt32.toInt32) (p4.toUInt32.toUInt16.toUInt32.toInt32) 43)).length = 43 := own_clen _ _ _ _ _
                by_cases hw255 : ∃ c ∈ (own_cs (p2.toUInt32.toUInt16.toUInt32.toInt32) (p3.toUInt32.toUInt16.toUInt32.toInt32) (p1.toUInt32.toUInt16.toUInt32.toInt32) (p4.toUInt32.toUInt16.toUInt32.toInt32) 43), (255 : Int32) < c
                · show own_ComesH Z p e below s _ _ _ (T215.setTop (mkF m 198 #[.val (.int p0), .val (.int p1), .val (.int p2), .val (.int p3), .val (.int p4), .val (.int (p1.toUInt32.toUInt16.toUInt32.toInt32)), .val (.int (p2.toUInt32.toUInt16.toUInt32.toInt32)), .val (.int (p3.toUInt32.toUInt16.toUInt32.toInt32)), .val (.int (p4.toUInt32.toUInt16.toUInt32.toInt32)), .val (.int z9), .val (.int (p0 &&& (7 : Int32))), .unset, .unset] [(.ref a215), (.ref b213), (.ref b213)]))
                  have c217 := ((D213 (Or.inr (hw _ (List.mem_of_getElem? (i := 37) rfl))) (ty := (.array .byte)) (by decide)).ext E215)
                  have c218 := ((D213 (Or.inr (hw _ (List.mem_of_getElem? (i := 35) rfl))) (ty := .byte) (by decide)).ext E215)
                  obtain ⟨vv219, _, ⟨T219, L219, k219, n219⟩, -, X219, ⟨Lc219, hQ219, l219, y219, z219⟩, st219⟩ := X215.specialBack hx (y := (⟨"java/lang/String", "<init>", "([C)V"⟩ : MethodName)) rfl hownJ56 (mvT hZJ56 (hw _ (List.mem_of_getElem? (i := 12) rfl))) (mvT hZJ56 (hw _ (List.mem_of_getElem? (i := 13) rfl))) (mvT hZJ56 (hw _ (List.mem_of_getElem? (i := 14) rfl))) (by decide) (backOf (W := 1) (rm3w l Z a0 hw [] b213 a215 k215 (own_cs (p2.toUInt32.toUInt16.toUInt32.toInt32) (p3.toUInt32.toUInt16.toUInt32.toInt32) (p1.toUInt32.toUInt16.toUInt32.toInt32) (p4.toUInt32.toUInt16.toUInt32.toInt32) 43) zc T215.heap n0 (Nat.le_trans (Nat.le_trans ZJ56 E213.1) E215.1) ((OJ56.ext E213).ext E215) Sz hzc Sd Sh Sl (A213.ext E215) c217 c218 g_b213 nA Vq hw255 (by rw [hcl]; decide) (by rw [hcl]; decide) (own_cbd (own_nch p2) (own_nch p3) (own_nch p1) (own_nch p4))) hZJ56 (hw _ (List.mem_of_getElem? (i := 14) rfl)) (hw _ (List.mem_of_getElem? (i := 10) rfl)) (by decide) (by decide)) (g := (mkF m 198 #[.val (.int p0), .val (.int p1), .val (.int p2), .val (.int p3), .val (.int p4), .val (.int (p1.toUInt32.toUInt16.toUInt32.toInt32)), .val (.int (p2.toUInt32.toUInt16.toUInt32.toInt32)), .val (.int (p3.toUInt32.toUInt16.toUInt32.toInt32)), .val (.int (p4.toUInt32.toUInt16.toUInt32.toInt32)), .val (.int z9), .val (.int (p0 &&& (7 : Int32))), .unset, .unset] [(.ref a215), (.ref b213), (.ref b213)])) rfl (by rw [hml]; rfl) (Steps.refl _) (a := b213) (argsL := [(.ref a215)]) (rest := [(.ref b213)]) (lenOf pd___C_V_325 rfl) rfl (by show 2 * 0 + _ ≤ _; exact Nat.le_of_eq rfl) (hb hby at_198) (fun _ _ => ⟨rfl, rfl, (by decide : 2 + 2 ≤ _), (by decide : 47 + 387 ≤ _)⟩)
                  dsimp only [Pt.U, Pt.locs, Pt.cells, Pt.slots] at X219 l219 y219 z219 st219 hQ219
                  subst l219 y219 z219
                  obtain ⟨rfl, N219q, K219, Y219⟩ := hQ219
                  have N219 := Fr.app N215 N219q
                  refine own_trH st219 ?_
                  have sf221 := CR216.safe A213.lt sb213
                  have CR220 := CHr.keep K219 (sfS sf221 sf0) CH216.1
                  have CH220 := CH216.trans CR220
                  show own_ComesH Z p e below s _ _ _ (T219.setTop (mkF m 201 #[.val (.int p0), .val (.int p1), .val (.int p2), .val (.int p3), .val (.int p4), .val (.int (p1.toUInt32.toUInt16.toUInt32.toInt32)), .val (.int (p2.toUInt32.toUInt16.toUInt32.toInt32)), .val (.int (p3.toUInt32.toUInt16.toUInt32.toInt32)), .val (.int (p4.toUInt32.toUInt16.toUInt32.toInt32)), .val (.int z9), .val (.int (p0 &&& (7 : Int32))), .unset, .unset] [(.ref b213)]))
                  have hYs := Y219
                  refine own_byH (fun _ kS => XS.astore X219.here hx rfl (hb hby at_201) rfl rfl (l' := #[.val (.int p0), .val (.int p1), .val (.int p2), .val (.int p3), .val (.int p4), .val (.int (p1.toUInt32.toUInt16.toUInt32.toInt32)), .val (.int (p2.toUInt32.toUInt16.toUInt32.toInt32)), .val (.int (p3.toUInt32.toUInt16.toUInt32.toInt32)), .val (.int (p4.toUInt32.toUInt16.toUInt32.toInt32)), .val (.int z9), .val (.int (p0 &&& (7 : Int32))), .val (.ref b213), .unset]) rfl kS) ?_
                  show own_ComesH Z p e below s _ _ _ (T219.setTop (mkF m 203 #[.val (.int p0), .val (.int p1), .val (.int p2), .val (.int p3), .val (.int p4), .val (.int (p1.toUInt32.toUInt16.toUInt32.toInt32)), .val (.int (p2.toUInt32.toUInt16.toUInt32.toInt32)), .val (.int (p3.toUInt32.toUInt16.toUInt32.toInt32)), .val (.int (p4.toUInt32.toUInt16.toUInt32.toInt32)), .val (.int z9), .val (.int (p0 &&& (7 : Int32))), .val (.ref b213), .unset] []))
                  refine own_byH (fun _ kS => XS.iload X219.here hx rfl (hb hby at_203) rfl kS) ?_
                  show own_ComesH Z p e below s _ _ _ (T219.setTop (mkF m 205 #[.val (.int p0), .val (.int p1), .val (.int p2), .val (.int p3), .val (.int p4), .val (.int (p1.toUInt32.toUInt16.toUInt32.toInt32)), .val (.int (p2.toUInt32.toUInt16.toUInt32.toInt32)), .val (.int (p3.toUInt32.toUInt16.toUInt32.toInt32)), .val (.int (p4.toUInt32.toUInt16.toUInt32.toInt32)), .val (.int z9), .val (.int (p0 &&& (7 : Int32))), .val (.ref b213), .unset] [(.int z9)]))
                  refine own_byH (fun _ kS => XS.istore X219.here hx rfl (hb hby at_205) rfl (l' := #[.val (.int p0), .val (.int p1), .val (.int p2), .val (.int p3), .val (.int p4), .val (.int (p1.toUInt32.toUInt16.toUInt32.toInt32)), .val (.int (p2.toUInt32.toUInt16.toUInt32.toInt32)), .val (.int (p3.toUInt32.toUInt16.toUInt32.toInt32)), .val (.int (p4.toUInt32.toUInt16.toUInt32.toInt32)), .val (.int z9), .val (.int (p0 &&& (7 : Int32))), .val (.ref b213), .val (.int z9)]) rfl kS) ?_
                  show own_ComesH Z p e below s _ _ _ (T219.setTop (mkF m 207 #[.val (.int p0), .val (.int p1), .val (.int p2), .val (.int p3), .val (.int p4), .val (.int (p1.toUInt32.toUInt16.toUInt32.toInt32)), .val (.int (p2.toUInt32.toUInt16.toUInt32.toInt32)), .val (.int (p3.toUInt32.toUInt16.toUInt32.toInt32)), .val (.int (p4.toUInt32.toUInt16.toUInt32.toInt32)), .val (.int z9), .val (.int (p0 &&& (7 : Int32))), .val (.ref b213), .val (.int z9)] []))
                  refine own_byH (fun _ kS => XS.goto X219.here hx rfl (pc0 := 207) (pc' := 267) rfl (hb hby at_207) (by decide) (by decide) kS) ?_
                  show own_ComesH Z p e below s _ _ _ (T219.setTop (mkF m 267 #[.val (.int p0), .val (.int p1), .val (.int p2), .val (.int p3), .val (.int p4), .val (.int (p1.toUInt32.toUInt16.toUInt32.toInt32)), .val (.int (p2.toUInt32.toUInt16.toUInt32.toInt32)), .val (.int (p3.toUInt32.toUInt16.toUInt32.toInt32)), .val (.int (p4.toUInt32.toUInt16.toUInt32.toInt32)), .val (.int z9), .val (.int (p0 &&& (7 : Int32))), .val (.ref b213), .val (.int z9)] []))
                  have c222 := (((OJ56.ext E213).ext E215).keep K219 (allS g_b213 all0))
                  exact J267 _ _ _ _ _ z9 (.ref b213) z9 (X219.more (by decide) (by decide)) rfl hZJ56 hownJ56 hSJ56 (Nat.le_trans (Nat.le_trans (Nat.le_trans hkJ56 E213.1) E215.1) K219.1) CH220 N219 c222 (Nat.le_trans (Nat.le_trans (Nat.le_trans ZJ56 E213.1) E215.1) K219.1) (Or.inr ⟨_, _, rfl, hYs, hA.elim (fun q => Or.inl ⟨q.1, (own_wf (by decide) (by decide)).mpr q.2⟩) (fun q => Or.inr ⟨q.1, fun r => q.2 ((own_wf (by decide) (by decide)).mp r)⟩)⟩)
                · show own_ComesH Z p e below s _ _ _ (T215.setTop (mkF m 198 #[.val (.int p0), .val (.int p1), .val (.int p2), .val (.int p3), .val (.int p4), .val (.int (p1.toUInt32.toUInt16.toUInt32.toInt32)), .val (.int (p2.toUInt32.toUInt16.toUInt32.toInt32)), .val (.int (p3.toUInt32.toUInt16.toUInt32.toInt32)), .val (.int (p4.toUInt32.toUInt16.toUInt32.toInt32)), .val (.int z9), .val (.int (p0 &&& (7 : Int32))), .unset, .unset] [(.ref a215), (.ref b213), (.ref b213)]))
                  have hp : ∀ c ∈ (own_cs (p2.toUInt32.toUInt16.toUInt32.toInt32) (p3.toUInt32.toUInt16.toUInt32.toInt32) (p1.toUInt32.toUInt16.toUInt32.toInt32) (p4.toUInt32.toUInt16.toUInt32.toInt32) 43), ¬ c < 0 ∧ ¬ (255 : Int32) < c := fun c hc => ⟨((own_cbd (own_nch p2) (own_nch p3) (own_nch p1) (own_nch p4)) c hc).1, fun q => hw255 ⟨c, hc, q⟩⟩
                  have c223 := ((D213 (Or.inr (hw _ (List.mem_of_getElem? (i := 37) rfl))) (ty := (.array .byte)) (by decide)).ext E215)
                  have c224 := ((D213 (Or.inr (hw _ (List.mem_of_getElem? (i := 35) rfl))) (ty := .byte) (by decide)).ext E215)
                  obtain ⟨vv225, _, ⟨T225, L225, k225, n225⟩, -, X225, ⟨Lc225, hQ225, l225, y225, z225⟩, st225⟩ := X215.specialBack hx (y := (⟨"java/lang/String", "<init>", "([C)V"⟩ : MethodName)) rfl hownJ56 (mvT hZJ56 (hw _ (List.mem_of_getElem? (i := 12) rfl))) (mvT hZJ56 (hw _ (List.mem_of_getElem? (i := 13) rfl))) (mvT hZJ56 (hw _ (List.mem_of_getElem? (i := 14) rfl))) (by decide) (StrChars.Road.backV (W := 1) hZJ56 hws (kI := 4) (hw _ (List.mem_of_getElem? (i := 9) rfl)) (cs := (own_cs (p2.toUInt32.toUInt16.toUInt32.toInt32) (p3.toUInt32.toUInt16.toUInt32.toInt32) (p1.toUInt32.toUInt16.toUInt32.toInt32) (p4.toUInt32.toUInt16.toUInt32.toInt32) 43)) (bs := ((own_cs (p2.toUInt32.toUInt16.toUInt32.toInt32) (p3.toUInt32.toUInt16.toUInt32.toInt32) (p1.toUInt32.toUInt16.toUInt32.toInt32) (p4.toUInt32.toUInt16.toUInt32.toInt32) 43)).map (fun c => c.toInt8.toInt32)) (n := 43) (n0 := n0) g_b213 (Nat.le_trans (Nat.le_trans ZJ56 E213.1) E215.1) (A213.ext E215) c223 c224 Vq (Sz.ext ((OJ56.ext E213).ext E215).2) hzc hcl (by rw [hcl]) (by decide) (by decide) hp rfl (by decide) (by decide)) (g := (mkF m 198 #[.val (.int p0), .val (.int p1), .val (.int p2), .val (.int p3), .val (.int p4), .val (.int (p1.toUInt32.toUInt16.toUInt32.toInt32)), .val (.int (p2.toUInt32.toUInt16.toUInt32.toInt32)), .val (.int (p3.toUInt32.toUInt16.toUInt32.toInt32)), .val (.int (p4.toUInt32.toUInt16.toUInt32.toInt32)), .val (.int z9), .val (.int (p0 &&& (7 : Int32))), .unset, .unset] [(.ref a215), (.ref b213), (.ref b213)])) rfl (by rw [hml]; rfl) (Steps.refl _) (a := b213) (argsL := [(.ref a215)]) (rest := [(.ref b213)]) (lenOf pd___C_V_325 rfl) rfl (by show 2 * 0 + _ ≤ _; exact Nat.le_of_eq rfl) (hb hby at_198) (fun _ _ => ⟨rfl, rfl, (by decide : 2 + 1 ≤ _), (by decide : 47 + 43 ≤ _)⟩)
                  dsimp only [Pt.U, Pt.locs, Pt.cells, Pt.slots] at X225 l225 y225 z225 st225 hQ225
                  subst l225 y225 z225
                  obtain ⟨rfl, N225q, K225, Eb225, Cb225, t225, kb225, _, _, _, Vb225, Ab225⟩ := hQ225
                  have N225 := Fr.app N215 N225q
                  refine own_trH st225 ?_
                  have sf227 := CR216.safe A213.lt sb213
                  have CR226 := CHr.keep K225 (sfS sf227 sf0) CH216.1
                  have CH226 := CH216.trans CR226
                  show own_ComesH Z p e below s _ _ _ (T225.setTop (mkF m 201 #[.val (.int p0), .val (.int p1), .val (.int p2), .val (.int p3), .val (.int p4), .val (.int (p1.toUInt32.toUInt16.toUInt32.toInt32)), .val (.int (p2.toUInt32.toUInt16.toUInt32.toInt32)), .val (.int (p3.toUInt32.toUInt16.toUInt32.toInt32)), .val (.int (p4.toUInt32.toUInt16.toUInt32.toInt32)), .val (.int z9), .val (.int (p0 &&& (7 : Int32))), .unset, .unset] [(.ref b213)]))
                  have hYs : own_Txt Z T225.heap b213 (own_cs (p2.toUInt32.toUInt16.toUInt32.toInt32) (p3.toUInt32.toUInt16.toUInt32.toInt32) (p1.toUInt32.toUInt16.toUInt32.toInt32) (p4.toUInt32.toUInt16.toUInt32.toInt32) 43) := ⟨Eb225, t225, kb225, 0, _, _, Vb225, Cb225, Ab225, StrChars.Road.codOf rfl (fun c hc => (hp c hc).2), (own_cbd (own_nch p2) (own_nch p3) (own_nch p1) (own_nch p4)), by rw [hcl]; decide⟩
                  refine own_byH (fun _ kS => XS.astore X225.here hx rfl (hb hby at_201) rfl rfl (l' := #[.val (.int p0), .val (.int p1), .val (.int p2), .val (.int p3), .val (.int p4), .val (.int (p1.toUInt32.toUInt16.toUInt32.toInt32)), .val (.int (p2.toUInt32.toUInt16.toUInt32.toInt32)), .val (.int (p3.toUInt32.toUInt16.toUInt32.toInt32)), .val (.int (p4.toUInt32.toUInt16.toUInt32.toInt32)), .val (.int z9), .val (.int (p0 &&& (7 : Int32))), .val (.ref b213), .unset]) rfl kS) ?_
                  show own_ComesH Z p e below s _ _ _ (T225.setTop (mkF m 203 #[.val (.int p0), .val (.int p1), .val (.int p2), .val (.int p3), .val (.int p4), .val (.int (p1.toUInt32.toUInt16.toUInt32.toInt32)), .val (.int (p2.toUInt32.toUInt16.toUInt32.toInt32)), .val (.int (p3.toUInt32.toUInt16.toUInt32.toInt32)), .val (.int (p4.toUInt32.toUInt16.toUInt32.toInt32)), .val (.int z9), .val (.int (p0 &&& (7 : Int32))), .val (.ref b213), .unset] []))
                  refine own_byH (fun _ kS => XS.iload X225.here hx rfl (hb hby at_203) rfl kS) ?_
                  show own_ComesH Z p e below s _ _ _ (T225.setTop (mkF m 205 #[.val (.int p0), .val (.int p1), .val (.int p2), .val (.int p3), .val (.int p4), .val (.int (p1.toUInt32.toUInt16.toUInt32.toInt32)), .val (.int (p2.toUInt32.toUInt16.toUInt32.toInt32)), .val (.int (p3.toUInt32.toUInt16.toUInt32.toInt32)), .val (.int (p4.toUInt32.toUInt16.toUInt32.toInt32)), .val (.int z9), .val (.int (p0 &&& (7 : Int32))), .val (.ref b213), .unset] [(.int z9)]))
                  refine own_byH (fun _ kS => XS.istore X225.here hx rfl (hb hby at_205) rfl (l' := #[.val (.int p0), .val (.int p1), .val (.int p2), .val (.int p3), .val (.int p4), .val (.int (p1.toUInt32.toUInt16.toUInt32.toInt32)), .val (.int (p2.toUInt32.toUInt16.toUInt32.toInt32)), .val (.int (p3.toUInt32.toUInt16.toUInt32.toInt32)), .val (.int (p4.toUInt32.toUInt16.toUInt32.toInt32)), .val (.int z9), .val (.int (p0 &&& (7 : Int32))), .val (.ref b213), .val (.int z9)]) rfl kS) ?_
                  show own_ComesH Z p e below s _ _ _ (T225.setTop (mkF m 207 #[.val (.int p0), .val (.int p1), .val (.int p2), .val (.int p3), .val (.int p4), .val (.int (p1.toUInt32.toUInt16.toUInt32.toInt32)), .val (.int (p2.toUInt32.toUInt16.toUInt32.toInt32)), .val (.int (p3.toUInt32.toUInt16.toUInt32.toInt32)), .val (.int (p4.toUInt32.toUInt16.toUInt32.toInt32)), .val (.int z9), .val (.int (p0 &&& (7 : Int32))), .val (.ref b213), .val (.int z9)] []))
                  refine own_byH (fun _ kS => XS.goto X225.here hx rfl (pc0 := 207) (pc' := 267) rfl (hb hby at_207) (by decide) (by decide) kS) ?_
                  show own_ComesH Z p e below s _ _ _ (T225.setTop (mkF m 267 #[.val (.int p0), .val (.int p1), .val (.int p2), .val (.int p3), .val (.int p4), .val (.int (p1.toUInt32.toUInt16.toUInt32.toInt32)), .val (.int (p2.toUInt32.toUInt16.toUInt32.toInt32)), .val (.int (p3.toUInt32.toUInt16.toUInt32.toInt32)), .val (.int (p4.toUInt32.toUInt16.toUInt32.toInt32)), .val (.int z9), .val (.int (p0 &&& (7 : Int32))), .val (.ref b213), .val (.int z9)] []))
                  have c228 := (((OJ56.ext E213).ext E215).keep K225 (allS g_b213 all0))
                  exact J267 _ _ _ _ _ z9 (.ref b213) z9 (X225.more (by decide) (by decide)) rfl hZJ56 hownJ56 hSJ56 (Nat.le_trans (Nat.le_trans (Nat.le_trans hkJ56 E213.1) E215.1) K225.1) CH226 N225 c228 (Nat.le_trans (Nat.le_trans (Nat.le_trans ZJ56 E213.1) E215.1) K225.1) (Or.inr ⟨_, _, rfl, hYs, hA.elim (fun q => Or.inl ⟨q.1, (own_wf (by decide) (by decide)).mpr q.2⟩) (fun q => Or.inr ⟨q.1, fun r => q.2 ((own_wf (by decide) (by decide)).mp r)⟩)⟩)
              · refine own_byH (fun _ kS => XS.icmpYes XJ56.here hx rfl (pc0 := 180) (pc' := 210) rfl (hb hby at_180) rfl (feq hm5).2 (by decide) (by decide) kS) ?_
                show own_ComesH Z p e below s _ _ _ (TJ56.setTop (mkF m 210 #[.val (.int p0), .val (.int p1), .val (.int p2), .val (.int p3), .val (.int p4), .val (.int (p1.toUInt32.toUInt16.toUInt32.toInt32)), .val (.int (p2.toUInt32.toUInt16.toUInt32.toInt32)), .val (.int (p3.toUInt32.toUInt16.toUInt32.toInt32)), .val (.int (p4.toUInt32.toUInt16.toUInt32.toInt32)), .val (.int z9), .val (.int (p0 &&& (7 : Int32))), .unset, .unset] []))
                refine own_byH (fun _ kS => XS.iload XJ56.here hx rfl (hb hby at_210) rfl kS) ?_
                show own_ComesH Z p e below s _ _ _ (TJ56.setTop (mkF m 212 #[.val (.int p0), .val (.int p1), .val (.int p2), .val (.int p3), .val (.int p4), .val (.int (p1.toUInt32.toUInt16.toUInt32.toInt32)), .val (.int (p2.toUInt32.toUInt16.toUInt32.toInt32)), .val (.int (p3.toUInt32.toUInt16.toUInt32.toInt32)), .val (.int (p4.toUInt32.toUInt16.toUInt32.toInt32)), .val (.int z9), .val (.int (p0 &&& (7 : Int32))), .unset, .unset] [(.int (p0 &&& (7 : Int32)))]))
                refine own_byH (fun _ kS => XS.bipush XJ56.here hx rfl (hb hby at_212) kS) ?_
                show own_ComesH Z p e below s _ _ _ (TJ56.setTop (mkF m 214 #[.val (.int p0), .val (.int p1), .val (.int p2), .val (.int p3), .val (.int p4), .val (.int (p1.toUInt32.toUInt16.toUInt32.toInt32)), .val (.int (p2.toUInt32.toUInt16.toUInt32.toInt32)), .val (.int (p3.toUInt32.toUInt16.toUInt32.toInt32)), .val (.int (p4.toUInt32.toUInt16.toUInt32.toInt32)), .val (.int z9), .val (.int (p0 &&& (7 : Int32))), .unset, .unset] [(.int (6 : Int32)), (.int (p0 &&& (7 : Int32)))]))
                by_cases hm6 : (p0 &&& (7 : Int32)) = (6 : Int32)
                · refine own_byH (fun _ kS => XS.icmpNo XJ56.here hx rfl (hb hby at_214) rfl (teq hm6).2 kS) ?_
                  show own_ComesH Z p e below s _ _ _ (TJ56.setTop (mkF m 217 #[.val (.int p0), .val (.int p1), .val (.int p2), .val (.int p3), .val (.int p4), .val (.int (p1.toUInt32.toUInt16.toUInt32.toInt32)), .val (.int (p2.toUInt32.toUInt16.toUInt32.toInt32)), .val (.int (p3.toUInt32.toUInt16.toUInt32.toInt32)), .val (.int (p4.toUInt32.toUInt16.toUInt32.toInt32)), .val (.int z9), .val (.int (p0 &&& (7 : Int32))), .unset, .unset] []))
                  obtain ⟨T229, h229, X229, e229, E229, A229, D229, -, st229⟩ := newO XJ56 hx hZJ56 hownJ56 (hw _ (List.mem_of_getElem? (i := 8) rfl)) (hw _ (List.mem_of_getElem? (i := 9) rfl)) (hw _ (List.mem_of_getElem? (i := 10) rfl)) eJ56 (g := (mkF m 217 #[.val (.int p0), .val (.int p1), .val (.int p2), .val (.int p3), .val (.int p4), .val (.int (p1.toUInt32.toUInt16.toUInt32.toInt32)), .val (.int (p2.toUInt32.toUInt16.toUInt32.toInt32)), .val (.int (p3.toUInt32.toUInt16.toUInt32.toInt32)), .val (.int (p4.toUInt32.toUInt16.toUInt32.toInt32)), .val (.int z9), .val (.int (p0 &&& (7 : Int32))), .unset, .unset] [])) rfl (hb hby at_217) (by decide) (by decide)
                  obtain ⟨b229, g229⟩ : ∃ z, z = hJ56.size := ⟨_, rfl⟩
                  rw [← g229] at A229 D229 st229
                  have g_b229 : n0 ≤ b229 := Nat.le_trans ZJ56 (Nat.le_of_eq g229.symm)
                  refine own_byH st229 ?_
                  have CR230 := CHr.ext E229 CHJ56.1
                  have CH230 := CHJ56.trans CR230
                  have sb229 := Safe.ext E229 CHJ56.1 (Safe.new (Nat.le_of_eq g229.symm))
                  show own_ComesH Z p e below s _ _ _ (T229.setTop (mkF m 220 #[.val (.int p0), .val (.int p1), .val (.int p2), .val (.int p3), .val (.int p4), .val (.int (p1.toUInt32.toUInt16.toUInt32.toInt32)), .val (.int (p2.toUInt32.toUInt16.toUInt32.toInt32)), .val (.int (p3.toUInt32.toUInt16.toUInt32.toInt32)), .val (.int (p4.toUInt32.toUInt16.toUInt32.toInt32)), .val (.int z9), .val (.int (p0 &&& (7 : Int32))), .unset, .unset] [(.ref b229)]))
                  refine own_byH (fun _ kS => XS.dup X229.here hx rfl (hb hby at_220) rfl rfl kS) ?_
                  show own_ComesH Z p e below s _ _ _ (T229.setTop (mkF m 221 #[.val (.int p0), .val (.int p1), .val (.int p2), .val (.int p3), .val (.int p4), .val (.int (p1.toUInt32.toUInt16.toUInt32.toInt32)), .val (.int (p2.toUInt32.toUInt16.toUInt32.toInt32)), .val (.int (p3.toUInt32.toUInt16.toUInt32.toInt32)), .val (.int (p4.toUInt32.toUInt16.toUInt32.toInt32)), .val (.int z9), .val (.int (p0 &&& (7 : Int32))), .unset, .unset] [(.ref b229), (.ref b229)]))
                  refine own_byH (fun _ kS => XS.iload X229.here hx rfl (hb hby at_221) rfl kS) ?_
                  show own_ComesH Z p e below s _ _ _ (T229.setTop (mkF m 223 #[.val (.int p0), .val (.int p1), .val (.int p2), .val (.int p3), .val (.int p4), .val (.int (p1.toUInt32.toUInt16.toUInt32.toInt32)), .val (.int (p2.toUInt32.toUInt16.toUInt32.toInt32)), .val (.int (p3.toUInt32.toUInt16.toUInt32.toInt32)), .val (.int (p4.toUInt32.toUInt16.toUInt32.toInt32)), .val (.int z9), .val (.int (p0 &&& (7 : Int32))), .unset, .unset] [(.int (p2.toUInt32.toUInt16.toUInt32.toInt32)), (.ref b229), (.ref b229)]))
                  refine own_byH (fun _ kS => XS.iload X229.here hx rfl (hb hby at_223) rfl kS) ?_
                  show own_ComesH Z p e below s _ _ _ (T229.setTop (mkF m 225 #[.val (.int p0), .val (.int p1), .val (.int p2), .val (.int p3), .val (.int p4), .val (.int (p1.toUInt32.toUInt16.toUInt32.toInt32)), .val (.int (p2.toUInt32.toUInt16.toUInt32.toInt32)), .val (.int (p3.toUInt32.toUInt16.toUInt32.toInt32)), .val (.int (p4.toUInt32.toUInt16.toUInt32.toInt32)), .val (.int z9), .val (.int (p0 &&& (7 : Int32))), .unset, .unset] [(.int (p3.toUInt32.toUInt16.toUInt32.toInt32)), (.int (p2.toUInt32.toUInt16.toUInt32.toInt32)), (.ref b229), (.ref b229)]))
                  refine own_byH (fun _ kS => XS.iload X229.here hx rfl (hb hby at_225) rfl kS) ?_
                  show own_ComesH Z p e below s _ _ _ (T229.setTop (mkF m 227 #[.val (.int p0), .val (.int p1), .val (.int p2), .val (.int p3), .val (.int p4), .val (.int (p1.toUInt32.toUInt16.toUInt32.toInt32)), .val (.int (p2.toUInt32.toUInt16.toUInt32.toInt32)), .val (.int (p3.toUInt32.toUInt16.toUInt32.toInt32)), .val (.int (p4.toUInt32.toUInt16.toUInt32.toInt32)), .val (.int z9), .val (.int (p0 &&& (7 : Int32))), .unset, .unset] [(.int (p1.toUInt32.toUInt16.toUInt32.toInt32)), (.int (p3.toUInt32.toUInt16.toUInt32.toInt32)), (.int (p2.toUInt32.toUInt16.toUInt32.toInt32)), (.ref b229), (.ref b229)]))
                  refine own_byH (fun _ kS => XS.iload X229.here hx rfl (hb hby at_227) rfl kS) ?_
                  show own_ComesH Z p e below s _ _ _ (T229.setTop (mkF m 229 #[.val (.int p0), .val (.int p1), .val (.int p2), .val (.int p3), .val (.int p4), .val (.int (p1.toUInt32.toUInt16.toUInt32.toInt32)), .val (.int (p2.toUInt32.toUInt16.toUInt32.toInt32)), .val (.int (p3.toUInt32.toUInt16.toUInt32.toInt32)), .val (.int (p4.toUInt32.toUInt16.toUInt32.toInt32)), .val (.int z9), .val (.int (p0 &&& (7 : Int32))), .unset, .unset] [(.int (p4.toUInt32.toUInt16.toUInt32.toInt32)), (.int (p1.toUInt32.toUInt16.toUInt32.toInt32)), (.int (p3.toUInt32.toUInt16.toUInt32.toInt32)), (.int (p2.toUInt32.toUInt16.toUInt32.toInt32)), (.ref b229), (.ref b229)]))
                  obtain ⟨vv231, _, ⟨T231, L231, k231, n231⟩, -, X231, ⟨Lc231, hQ231, l231, y231, z231⟩, st231⟩ := Jvm.LawKit.callS X229 hx (y := (⟨"com/example/eslabon/eslabon/CodeChallengeMethodIsWellFormedPinLaw", "len128", "(CCCC)[C"⟩ : MethodName)) hownJ56 (mvT hZJ56 (hw _ (List.mem_of_getElem? (i := 87) rfl))) (mvT hZJ56 (hw _ (List.mem_of_getElem? (i := 88) rfl))) (mvT hZJ56 (hw _ (List.mem_of_getElem? (i := 2) rfl))) (mvT hZJ56 (hw _ (List.mem_of_getElem? (i := 89) rfl))) (by decide) (backOf (W := 2) (rm22 l Z a0 hw [] (p2.toUInt32.toUInt16.toUInt32.toInt32) (p3.toUInt32.toUInt16.toUInt32.toInt32) (p1.toUInt32.toUInt16.toUInt32.toInt32) (p4.toUInt32.toUInt16.toUInt32.toInt32) h229 n0 (Nat.le_trans ZJ56 E229.1) (own_nch _) (own_nch _) (own_nch _) (own_nch _)) hZJ56 (hw _ (List.mem_of_getElem? (i := 89) rfl)) (hw _ (List.mem_of_getElem? (i := 2) rfl)) (by decide) (by decide)) (g := (mkF m 229 #[.val (.int p0), .val (.int p1), .val (.int p2), .val (.int p3), .val (.int p4), .val (.int (p1.toUInt32.toUInt16.toUInt32.toInt32)), .val (.int (p2.toUInt32.toUInt16.toUInt32.toInt32)), .val (.int (p3.toUInt32.toUInt16.toUInt32.toInt32)), .val (.int (p4.toUInt32.toUInt16.toUInt32.toInt32)), .val (.int z9), .val (.int (p0 &&& (7 : Int32))), .unset, .unset] [(.int (p4.toUInt32.toUInt16.toUInt32.toInt32)), (.int (p1.toUInt32.toUInt16.toUInt32.toInt32)), (.int (p3.toUInt32.toUInt16.toUInt32.toInt32)), (.int (p2.toUInt32.toUInt16.toUInt32.toInt32)), (.ref b229), (.ref b229)])) rfl (by rw [hml]; rfl) (argsL := [(.int (p2.toUInt32.toUInt16.toUInt32.toInt32)), (.int (p3.toUInt32.toUInt16.toUInt32.toInt32)), (.int (p1.toUInt32.toUInt16.toUInt32.toInt32)), (.int (p4.toUInt32.toUInt16.toUInt32.toInt32))]) (rest := [(.ref b229), (.ref b229)]) (lenOf pd__CCCC__C_507 rfl) rfl (by show 2 * 0 + _ ≤ _; exact Nat.le_of_eq rfl) (hb hby at_229) (fun _ _ => ⟨rfl, e229, (by decide : 1 + 1 ≤ _), (by decide : 4 + 128 ≤ _)⟩)
                  dsimp only [Pt.U, Pt.locs, Pt.cells, Pt.slots] at X231 l231 y231 z231 st231 hQ231
                  subst l231 y231 z231
                  obtain ⟨a231, k231, rfl, N231q, E231, g_a231, sz_a231, V231⟩ := hQ231
                  have N231 := Fr.app NJ56 N231q
                  refine own_byH st231 ?_
                  have CR232 := CHr.ext E231 CH230.1
                  have CH232 := CH230.trans CR232
                  show own_ComesH Z p e below s _ _ _ (T231.setTop (mkF m 232 #[.val (.int p0), .val (.int p1), .val (.int p2), .val (.int p3), .val (.int p4), .val (.int (p1.toUInt32.toUInt16.toUInt32.toInt32)), .val (.int (p2.toUInt32.toUInt16.toUInt32.toInt32)), .val (.int (p3.toUInt32.toUInt16.toUInt32.toInt32)), .val (.int (p4.toUInt32.toUInt16.toUInt32.toInt32)), .val (.int z9), .val (.int (p0 &&& (7 : Int32))), .unset, .unset] [(.ref a231), (.ref b229), (.ref b229)]))
                  have nA : b229 ≠ a231 := Nat.ne_of_lt (Nat.lt_of_lt_of_le A229.lt sz_a231)
                  have Vq := V231
                  have hcl : ((own_cs (p2.toUInt32.toUInt16.toUInt32.toInt32) (p3.toUInt32.toUInt16.toUInt32.toInt32) (p1.toUInt32.toUInt16.toUInt32.toInt32) (p4.toUInt32.toUInt16.toUInt32.toInt32) 128)).length = 128 := own_clen _ _ _ _ _
                  by_cases hw255 : ∃ c ∈ (own_cs (p2.toUInt32.toUInt16.toUInt32.toInt32) (p3.toUInt32.toUInt16.toUInt32.toInt32) (p1.toUInt32.toUInt16.toUInt32.toInt32) (p4.toUInt32.toUInt16.toUInt32.toInt32) 128), (255 : Int32) < c
                  · show own_ComesH Z p e below s _ _ _ (T231.setTop (mkF m 232 #[.val (.int p0), .val (.int p1), .val (.int p2), .val (.int p3), .val (.int p4), .val (.int (p1.toUInt32.toUInt16.toUInt32.toInt32)), .val (.int (p2.toUInt32.toUInt16.toUInt32.toInt32)), .val (.int (p3.toUInt32.toUInt16.toUInt32.toInt32)), .val (.int (p4.toUInt32.toUInt16.toUInt32.toInt32)), .val (.int z9), .val (.int (p0 &&& (7 : Int32))), .unset, .unset] [(.ref a231), (.ref b229), (.ref b229)]))
                    have c233 := ((D229 (Or.inr (hw _ (List.mem_of_getElem? (i := 37) rfl))) (ty := (.array .byte)) (by decide)).ext E231)
                    have c234 := ((D229 (Or.inr (hw _ (List.mem_of_getElem? (i := 35) rfl))) (ty := .byte) (by decide)).ext E231)
                    obtain ⟨vv235, _, ⟨T235, L235, k235, n235⟩, -, X235, ⟨Lc235, hQ235, l235, y235, z235⟩, st235⟩ := X231.specialBack hx (y := (⟨"java/lang/String", "<init>", "([C)V"⟩ : MethodName)) rfl hownJ56 (mvT hZJ56 (hw _ (List.mem_of_getElem? (i := 12) rfl))) (mvT hZJ56 (hw _ (List.mem_of_getElem? (i := 13) rfl))) (mvT hZJ56 (hw _ (List.mem_of_getElem? (i := 14) rfl))) (by decide) (backOf (W := 1) (rm3w l Z a0 hw [] b229 a231 k231 (own_cs (p2.toUInt32.toUInt16.toUInt32.toInt32) (p3.toUInt32.toUInt16.toUInt32.toInt32) (p1.toUInt32.toUInt16.toUInt32.toInt32) (p4.toUInt32.toUInt16.toUInt32.toInt32) 128) zc T231.heap n0 (Nat.le_trans (Nat.le_trans ZJ56 E229.1) E231.1) ((OJ56.ext E229).ext E231) Sz hzc Sd Sh Sl (A229.ext E231) c233 c234 g_b229 nA Vq hw255 (by rw [hcl]; decide) (by rw [hcl]; decide) (own_cbd (own_nch p2) (own_nch p3) (own_nch p1) (own_nch p4))) hZJ56 (hw _ (List.mem_of_getElem? (i := 14) rfl)) (hw _ (List.mem_of_getElem? (i := 10) rfl)) (by decide) (by decide)) (g := (mkF m 232 #[.val (.int p0), .val (.int p1), .val (.int p2), .val (.int p3), .val (.int p4), .val (.int (p1.toUInt32.toUInt16.toUInt32.toInt32)), .val (.int (p2.toUInt32.toUInt16.toUInt32.toInt32)), .val (.int (p3.toUInt32.toUInt16.toUInt32.toInt32)), .val (.int (p4.toUInt32.toUInt16.toUInt32.toInt32)), .val (.int z9), .val (.int (p0 &&& (7 : Int32))), .unset, .unset] [(.ref a231), (.ref b229), (.ref b229)])) rfl (by rw [hml]; rfl) (Steps.refl _) (a := b229) (argsL := [(.ref a231)]) (rest := [(.ref b229)]) (lenOf pd___C_V_325 rfl) rfl (by show 2 * 0 + _ ≤ _; exact Nat.le_of_eq rfl) (hb hby at_232) (fun _ _ => ⟨rfl, rfl, (by decide : 2 + 2 ≤ _), (by decide : 132 + 387 ≤ _)⟩)
                    dsimp only [Pt.U, Pt.locs, Pt.cells, Pt.slots] at X235 l235 y235 z235 st235 hQ235
                    subst l235 y235 z235
                    obtain ⟨rfl, N235q, K235, Y235⟩ := hQ235
                    have N235 := Fr.app N231 N235q
                    refine own_trH st235 ?_
                    have sf237 := CR232.safe A229.lt sb229
                    have CR236 := CHr.keep K235 (sfS sf237 sf0) CH232.1
                    have CH236 := CH232.trans CR236
                    show own_ComesH Z p e below s _ _ _ (T235.setTop (mkF m 235 #[.val (.int p0), .val (.int p1), .val (.int p2), .val (.int p3), .val (.int p4), .val (.int (p1.toUInt32.toUInt16.toUInt32.toInt32)), .val (.int (p2.toUInt32.toUInt16.toUInt32.toInt32)), .val (.int (p3.toUInt32.toUInt16.toUInt32.toInt32)), .val (.int (p4.toUInt32.toUInt16.toUInt32.toInt32)), .val (.int z9), .val (.int (p0 &&& (7 : Int32))), .unset, .unset] [(.ref b229)]))
                    have hYs := Y235
                    refine own_byH (fun _ kS => XS.astore X235.here hx rfl (hb hby at_235) rfl rfl (l' := #[.val (.int p0), .val (.int p1), .val (.int p2), .val (.int p3), .val (.int p4), .val (.int (p1.toUInt32.toUInt16.toUInt32.toInt32)), .val (.int (p2.toUInt32.toUInt16.toUInt32.toInt32)), .val (.int (p3.toUInt32.toUInt16.toUInt32.toInt32)), .val (.int (p4.toUInt32.toUInt16.toUInt32.toInt32)), .val (.int z9), .val (.int (p0 &&& (7 : Int32))), .val (.ref b229), .unset]) rfl kS) ?_
                    show own_ComesH Z p e below s _ _ _ (T235.setTop (mkF m 237 #[.val (.int p0), .val (.int p1), .val (.int p2), .val (.int p3), .val (.int p4), .val (.int (p1.toUInt32.toUInt16.toUInt32.toInt32)), .val (.int (p2.toUInt32.toUInt16.toUInt32.toInt32)), .val (.int (p3.toUInt32.toUInt16.toUInt32.toInt32)), .val (.int (p4.toUInt32.toUInt16.toUInt32.toInt32)), .val (.int z9), .val (.int (p0 &&& (7 : Int32))), .val (.ref b229), .unset] []))
                    refine own_byH (fun _ kS => XS.iload X235.here hx rfl (hb hby at_237) rfl kS) ?_
                    show own_ComesH Z p e below s _ _ _ (T235.setTop (mkF m 239 #[.val (.int p0), .val (.int p1), .val (.int p2), .val (.int p3), .val (.int p4), .val (.int (p1.toUInt32.toUInt16.toUInt32.toInt32)), .val (.int (p2.toUInt32.toUInt16.toUInt32.toInt32)), .val (.int (p3.toUInt32.toUInt16.toUInt32.toInt32)), .val (.int (p4.toUInt32.toUInt16.toUInt32.toInt32)), .val (.int z9), .val (.int (p0 &&& (7 : Int32))), .val (.ref b229), .unset] [(.int z9)]))
                    refine own_byH (fun _ kS => XS.istore X235.here hx rfl (hb hby at_239) rfl (l' := #[.val (.int p0), .val (.int p1), .val (.int p2), .val (.int p3), .val (.int p4), .val (.int (p1.toUInt32.toUInt16.toUInt32.toInt32)), .val (.int (p2.toUInt32.toUInt16.toUInt32.toInt32)), .val (.int (p3.toUInt32.toUInt16.toUInt32.toInt32)), .val (.int (p4.toUInt32.toUInt16.toUInt32.toInt32)), .val (.int z9), .val (.int (p0 &&& (7 : Int32))), .val (.ref b229), .val (.int z9)]) rfl kS) ?_
                    show own_ComesH Z p e below s _ _ _ (T235.setTop (mkF m 241 #[.val (.int p0), .val (.int p1), .val (.int p2), .val (.int p3), .val (.int p4), .val (.int (p1.toUInt32.toUInt16.toUInt32.toInt32)), .val (.int (p2.toUInt32.toUInt16.toUInt32.toInt32)), .val (.int (p3.toUInt32.toUInt16.toUInt32.toInt32)), .val (.int (p4.toUInt32.toUInt16.toUInt32.toInt32)), .val (.int z9), .val (.int (p0 &&& (7 : Int32))), .val (.ref b229), .val (.int z9)] []))
                    refine own_byH (fun _ kS => XS.goto X235.here hx rfl (pc0 := 241) (pc' := 267) rfl (hb hby at_241) (by decide) (by decide) kS) ?_
                    show own_ComesH Z p e below s _ _ _ (T235.setTop (mkF m 267 #[.val (.int p0), .val (.int p1), .val (.int p2), .val (.int p3), .val (.int p4), .val (.int (p1.toUInt32.toUInt16.toUInt32.toInt32)), .val (.int (p2.toUInt32.toUInt16.toUInt32.toInt32)), .val (.int (p3.toUInt32.toUInt16.toUInt32.toInt32)), .val (.int (p4.toUInt32.toUInt16.toUInt32.toInt32)), .val (.int z9), .val (.int (p0 &&& (7 : Int32))), .val (.ref b229), .val (.int z9)] []))
                    have c238 := (((OJ56.ext E229).ext E231).keep K235 (allS g_b229 all0))
                    exact J267 _ _ _ _ _ z9 (.ref b229) z9 (X235.more (by decide) (by decide)) rfl hZJ56 hownJ56 hSJ56 (Nat.le_trans (Nat.le_trans (Nat.le_trans hkJ56 E229.1) E231.1) K235.1) CH236 N235 c238 (Nat.le_trans (Nat.le_trans (Nat.le_trans ZJ56 E229.1) E231.1) K235.1) (Or.inr ⟨_, _, rfl, hYs, hA.elim (fun q => Or.inl ⟨q.1, (own_wf (by decide) (by decide)).mpr q.2⟩) (fun q => Or.inr ⟨q.1, fun r => q.2 ((own_wf (by decide) (by decide)).mp r)⟩)⟩)
                  · show own_ComesH Z p e below s _ _ _ (T231.setTop (mkF m 232 #[.val (.int p0), .val (.int p1), .val (.int p2), .val (.int p3), .val (.int p4), .val (.int (p1.toUInt32.toUInt16.toUInt32.toInt32)), .val (.int (p2.toUInt32.toUInt16.toUInt32.toInt32)), .val (.int (p3.toUInt32.toUInt16.toUInt32.toInt32)), .val (.int (p4.toUInt32.toUInt16.toUInt32.toInt32)), .val (.int z9), .val (.int (p0 &&& (7 : Int32))), .unset, .unset] [(.ref a231), (.ref b229), (.ref b229)]))
                    have hp : ∀ c ∈ (own_cs (p2.toUInt32.toUInt16.toUInt32.toInt32) (p3.toUInt32.toUInt16.toUInt32.toInt32) (p1.toUInt32.toUInt16.toUInt32.toInt32) (p4.toUInt32.toUInt16.toUInt32.toInt32) 128), ¬ c < 0 ∧ ¬ (255 : Int32) < c := fun c hc => ⟨((own_cbd (own_nch p2) (own_nch p3) (own_nch p1) (own_nch p4)) c hc).1, fun q => hw255 ⟨c, hc, q⟩⟩
                    have c239 := ((D229 (Or.inr (hw _ (List.mem_of_getElem? (i := 37) rfl))) (ty := (.array .byte)) (by decide)).ext E231)
                    have c240 := ((D229 (Or.inr (hw _ (List.mem_of_getElem? (i := 35) rfl))) (ty := .byte) (by decide)).ext E231)
                    obtain ⟨vv241, _, ⟨T241, L241, k241, n241⟩, -, X241, ⟨Lc241, hQ241, l241, y241, z241⟩, st241⟩ := X231.specialBack hx (y := (⟨"java/lang/String", "<init>", "([C)V"⟩ : MethodName)) rfl hownJ56 (mvT hZJ56 (hw _ (List.mem_of_getElem? (i := 12) rfl))) (mvT hZJ56 (hw _ (List.mem_of_getElem? (i := 13) rfl))) (mvT hZJ56 (hw _ (List.mem_of_getElem? (i := 14) rfl))) (by decide) (StrChars.Road.backV (W := 1) hZJ56 hws (kI := 4) (hw _ (List.mem_of_getElem? (i := 9) rfl)) (cs := (own_cs (p2.toUInt32.toUInt16.toUInt32.toInt32) (p3.toUInt32.toUInt16.toUInt32.toInt32) (p1.toUInt32.toUInt16.toUInt32.toInt32) (p4.toUInt32.toUInt16.toUInt32.toInt32) 128)) (bs := ((own_cs (p2.toUInt32.toUInt16.toUInt32.toInt32) (p3.toUInt32.toUInt16.toUInt32.toInt32) (p1.toUInt32.toUInt16.toUInt32.toInt32) (p4.toUInt32.toUInt16.toUInt32.toInt32) 128)).map (fun c => c.toInt8.toInt32)) (n := 128) (n0 := n0) g_b229 (Nat.le_trans (Nat.le_trans ZJ56 E229.1) E231.1) (A229.ext E231) c239 c240 Vq (Sz.ext ((OJ56.ext E229).ext E231).2) hzc hcl (by rw [hcl]) (by decide) (by decide) hp rfl (by decide) (by decide)) (g := (mkF m 232 #[.val (.int p0), .val (.int p1), .val (.int p2), .val (.int p3), .val (.int p4), .val (.int (p1.toUInt32.toUInt16.toUInt32.toInt32)), .val (.int (p2.toUInt32.toUInt16.toUInt32.toInt32)), .val (.int (p3.toUInt32.toUInt16.toUInt32.toInt32)), .val (.int (p4.toUInt32.toUInt16.toUInt32.toInt32)), .val (.int z9), .val (.int (p0 &&& (7 : Int32))), .unset, .unset] [(.ref a231), (.ref b229), (.ref b229)])) rfl (by rw [hml]; rfl) (Steps.refl _) (a := b229) (argsL := [(.ref a231)]) (rest := [(.ref b229)]) (lenOf pd___C_V_325 rfl) rfl (by show 2 * 0 + _ ≤ _; exact Nat.le_of_eq rfl) (hb hby at_232) (fun _ _ => ⟨rfl, rfl, (by decide : 2 + 1 ≤ _), (by decide : 132 + 128 ≤ _)⟩)
                    dsimp only [Pt.U, Pt.locs, Pt.cells, Pt.slots] at X241 l241 y241 z241 st241 hQ241
                    subst l241 y241 z241
                    obtain ⟨rfl, N241q, K241, Eb241, Cb241, t241, kb241, _, _, _, Vb241, Ab241⟩ := hQ241
                    have N241 := Fr.app N231 N241q
                    refine own_trH st241 ?_
                    have sf243 := CR232.safe A229.lt sb229
                    have CR242 := CHr.keep K241 (sfS sf243 sf0) CH232.1
                    have CH242 := CH232.trans CR242
                    show own_ComesH Z p e below s _ _ _ (T241.setTop (mkF m 235 #[.val (.int p0), .val (.int p1), .val (.int p2), .val (.int p3), .val (.int p4), .val (.int (p1.toUInt32.toUInt16.toUInt32.toInt32)), .val (.int (p2.toUInt32.toUInt16.toUInt32.toInt32)), .val (.int (p3.toUInt32.toUInt16.toUInt32.toInt32)), .val (.int (p4.toUInt32.toUInt16.toUInt32.toInt32)), .val (.int z9), .val (.int (p0 &&& (7 : Int32))), .unset, .unset] [(.ref b229)]))
                    have hYs : own_Txt Z T241.heap b229 (own_cs (p2.toUInt32.toUInt16.toUInt32.toInt32) (p3.toUInt32.toUInt16.toUInt32.toInt32) (p1.toUInt32.toUInt16.toUInt32.toInt32) (p4.toUInt32.toUInt16.toUInt32.toInt32) 128) := ⟨Eb241, t241, kb241, 0, _, _, Vb241, Cb241, Ab241, StrChars.Road.codOf rfl (fun c hc => (hp c hc).2), (own_cbd (own_nch p2) (own_nch p3) (own_nch p1) (own_nch p4)), by rw [hcl]; decide⟩
                    refine own_byH (fun _ kS => XS.astore X241.here hx rfl (hb hby at_235) rfl rfl (l' := #[.val (.int p0), .val (.int p1), .val (.int p2), .val (.int p3), .val (.int p4), .val (.int (p1.toUInt32.toUInt16.toUInt32.toInt32)), .val (.int (p2.toUInt32.toUInt16.toUInt32.toInt32)), .val (.int (p3.toUInt32.toUInt16.toUInt32.toInt32)), .val (.int (p4.toUInt32.toUInt16.toUInt32.toInt32)), .val (.int z9), .val (.int (p0 &&& (7 : Int32))), .val (.ref b229), .unset]) rfl kS) ?_
                    show own_ComesH Z p e below s _ _ _ (T241.setTop (mkF m 237 #[.val (.int p0), .val (.int p1), .val (.int p2), .val (.int p3), .val (.int p4), .val (.int (p1.toUInt32.toUInt16.toUInt32.toInt32)), .val (.int (p2.toUInt32.toUInt16.toUInt32.toInt32)), .val (.int (p3.toUInt32.toUInt16.toUInt32.toInt32)), .val (.int (p4.toUInt32.toUInt16.toUInt32.toInt32)), .val (.int z9), .val (.int (p0 &&& (7 : Int32))), .val (.ref b229), .unset] []))
                    refine own_byH (fun _ kS => XS.iload X241.here hx rfl (hb hby at_237) rfl kS) ?_
                    show own_ComesH Z p e below s _ _ _ (T241.setTop (mkF m 239 #[.val (.int p0), .val (.int p1), .val (.int p2), .val (.int p3), .val (.int p4), .val (.int (p1.toUInt32.toUInt16.toUInt32.toInt32)), .val (.int (p2.toUInt32.toUInt16.toUInt32.toInt32)), .val (.int (p3.toUInt32.toUInt16.toUInt32.toInt32)), .val (.int (p4.toUInt32.toUInt16.toUInt32.toInt32)), .val (.int z9), .val (.int (p0 &&& (7 : Int32))), .val (.ref b229), .unset] [(.int z9)]))
                    refine own_byH (fun _ kS => XS.istore X241.here hx rfl (hb hby at_239) rfl (l' := #[.val (.int p0), .val (.int p1), .val (.int p2), .val (.int p3), .val (.int p4), .val (.int (p1.toUInt32.toUInt16.toUInt32.toInt32)), .val (.int (p2.toUInt32.toUInt16.toUInt32.toInt32)), .val (.int (p3.toUInt32.toUInt16.toUInt32.toInt32)), .val (.int (p4.toUInt32.toUInt16.toUInt32.toInt32)), .val (.int z9), .val (.int (p0 &&& (7 : Int32))), .val (.ref b229), .val (.int z9)]) rfl kS) ?_
                    show own_ComesH Z p e below s _ _ _ (T241.setTop (mkF m 241 #[.val (.int p0), .val (.int p1), .val (.int p2), .val (.int p3), .val (.int p4), .val (.int (p1.toUInt32.toUInt16.toUInt32.toInt32)), .val (.int (p2.toUInt32.toUInt16.toUInt32.toInt32)), .val (.int (p3.toUInt32.toUInt16.toUInt32.toInt32)), .val (.int (p4.toUInt32.toUInt16.toUInt32.toInt32)), .val (.int z9), .val (.int (p0 &&& (7 : Int32))), .val (.ref b229), .val (.int z9)] []))
                    refine own_byH (fun _ kS => XS.goto X241.here hx rfl (pc0 := 241) (pc' := 267) rfl (hb hby at_241) (by decide) (by decide) kS) ?_
                    show own_ComesH Z p e below s _ _ _ (T241.setTop (mkF m 267 #[.val (.int p0), .val (.int p1), .val (.int p2), .val (.int p3), .val (.int p4), .val (.int (p1.toUInt32.toUInt16.toUInt32.toInt32)), .val (.int (p2.toUInt32.toUInt16.toUInt32.toInt32)), .val (.int (p3.toUInt32.toUInt16.toUInt32.toInt32)), .val (.int (p4.toUInt32.toUInt16.toUInt32.toInt32)), .val (.int z9), .val (.int (p0 &&& (7 : Int32))), .val (.ref b229), .val (.int z9)] []))
                    have c244 := (((OJ56.ext E229).ext E231).keep K241 (allS g_b229 all0))
                    exact J267 _ _ _ _ _ z9 (.ref b229) z9 (X241.more (by decide) (by decide)) rfl hZJ56 hownJ56 hSJ56 (Nat.le_trans (Nat.le_trans (Nat.le_trans hkJ56 E229.1) E231.1) K241.1) CH242 N241 c244 (Nat.le_trans (Nat.le_trans (Nat.le_trans ZJ56 E229.1) E231.1) K241.1) (Or.inr ⟨_, _, rfl, hYs, hA.elim (fun q => Or.inl ⟨q.1, (own_wf (by decide) (by decide)).mpr q.2⟩) (fun q => Or.inr ⟨q.1, fun r => q.2 ((own_wf (by decide) (by decide)).mp r)⟩)⟩)
                · refine own_byH (fun _ kS => XS.icmpYes XJ56.here hx rfl (pc0 := 214) (pc' := 244) rfl (hb hby at_214) rfl (feq hm6).2 (by decide) (by decide) kS) ?_
                  show own_ComesH Z p e below s _ _ _ (TJ56.setTop (mkF m 244 #[.val (.int p0), .val (.int p1), .val (.int p2), .val (.int p3), .val (.int p4), .val (.int (p1.toUInt32.toUInt16.toUInt32.toInt32)), .val (.int (p2.toUInt32.toUInt16.toUInt32.toInt32)), .val (.int (p3.toUInt32.toUInt16.toUInt32.toInt32)), .val (.int (p4.toUInt32.toUInt16.toUInt32.toInt32)), .val (.int z9), .val (.int (p0 &&& (7 : Int32))), .unset, .unset] []))
                  obtain ⟨T245, h245, X245, e245, E245, A245, D245, -, st245⟩ := newO XJ56 hx hZJ56 hownJ56 (hw _ (List.mem_of_getElem? (i := 8) rfl)) (hw _ (List.mem_of_getElem? (i := 9) rfl)) (hw _ (List.mem_of_getElem? (i := 10) rfl)) eJ56 (g := (mkF m 244 #[.val (.int p0), .val (.int p1), .val (.int p2), .val (.int p3), .val (.int p4), .val (.int (p1.toUInt32.toUInt16.toUInt32.toInt32)), .val (.int (p2.toUInt32.toUInt16.toUInt32.toInt32)), .val (.int (p3.toUInt32.toUInt16.toUInt32.toInt32)), .val (.int (p4.toUInt32.toUInt16.toUInt32.toInt32)), .val (.int z9), .val (.int (p0 &&& (7 : Int32))), .unset, .unset] [])) rfl (hb hby at_244) (by decide) (by decide)
                  obtain ⟨b245, g245⟩ : ∃ z, z = hJ56.size := ⟨_, rfl⟩
                  rw [← g245] at A245 D245 st245
                  have g_b245 : n0 ≤ b245 := Nat.le_trans ZJ56 (Nat.le_of_eq g245.symm)
                  refine own_byH st245 ?_
                  have CR246 := CHr.ext E245 CHJ56.1
                  have CH246 := CHJ56.trans CR246
                  have sb245 := Safe.ext E245 CHJ56.1 (Safe.new (Nat.le_of_eq g245.symm))
                  show own_ComesH Z p e below s _ _ _ (T245.setTop (mkF m 247 #[.val (.int p0), .val (.int p1), .val (.int p2), .val (.int p3), .val (.int p4), .val (.int (p1.toUInt32.toUInt16.toUInt32.toInt32)), .val (.int (p2.toUInt32.toUInt16.toUInt32.toInt32)), .val (.int (p3.toUInt32.toUInt16.toUInt32.toInt32)), .val (.int (p4.toUInt32.toUInt16.toUInt32.toInt32)), .val (.int z9), .val (.int (p0 &&& (7 : Int32))), .unset, .unset] [(.ref b245)]))
                  refine own_byH (fun _ kS => XS.dup X245.here hx rfl (hb hby at_247) rfl rfl kS) ?_
                  show own_ComesH Z p e below s _ _ _ (T245.setTop (mkF m 248 #[.val (.int p0), .val (.int p1), .val (.int p2), .val (.int p3), .val (.int p4), .val (.int (p1.toUInt32.toUInt16.toUInt32.toInt32)), .val (.int (p2.toUInt32.toUInt16.toUInt32.toInt32)), .val (.int (p3.toUInt32.toUInt16.toUInt32.toInt32)), .val (.int (p4.toUInt32.toUInt16.toUInt32.toInt32)), .val (.int z9), .val (.int (p0 &&& (7 : Int32))), .unset, .unset] [(.ref b245), (.ref b245)]))
                  refine own_byH (fun _ kS => XS.iload X245.here hx rfl (hb hby at_248) rfl kS) ?_
                  show own_ComesH Z p e below s _ _ _ (T245.setTop (mkF m 250 #[.val (.int p0), .val (.int p1), .val (.int p2), .val (.int p3), .val (.int p4), .val (.int (p1.toUInt32.toUInt16.toUInt32.toInt32)), .val (.int (p2.toUInt32.toUInt16.toUInt32.toInt32)), .val (.int (p3.toUInt32.toUInt16.toUInt32.toInt32)), .val (.int (p4.toUInt32.toUInt16.toUInt32.toInt32)), .val (.int z9), .val (.int (p0 &&& (7 : Int32))), .unset, .unset] [(.int (p2.toUInt32.toUInt16.toUInt32.toInt32)), (.ref b245), (.ref b245)]))
                  refine own_byH (fun _ kS => XS.iload X245.here hx rfl (hb hby at_250) rfl kS) ?_
                  show own_ComesH Z p e below s _ _ _ (T245.setTop (mkF m 252 #[.val (.int p0), .val (.int p1), .val (.int p2), .val (.int p3), .val (.int p4), .val (.int (p1.toUInt32.toUInt16.toUInt32.toInt32)), .val (.int (p2.toUInt32.toUInt16.toUInt32.toInt32)), .val (.int (p3.toUInt32.toUInt16.toUInt32.toInt32)), .val (.int (p4.toUInt32.toUInt16.toUInt32.toInt32)), .val (.int z9), .val (.int (p0 &&& (7 : Int32))), .unset, .unset] [(.int (p3.toUInt32.toUInt16.toUInt32.toInt32)), (.int (p2.toUInt32.toUInt16.toUInt32.toInt32)), (.ref b245), (.ref b245)]))
                  refine own_byH (fun _ kS => XS.iload X245.here hx rfl (hb hby at_252) rfl kS) ?_
                  show own_ComesH Z p e below s _ _ _ (T245.setTop (mkF m 254 #[.val (.int p0), .val (.int p1), .val (.int p2), .val (.int p3), .val (.int p4), .val (.int (p1.toUInt32.toUInt16.toUInt32.toInt32)), .val (.int (p2.toUInt32.toUInt16.toUInt32.toInt32)), .val (.int (p3.toUInt32.toUInt16.toUInt32.toInt32)), .val (.int (p4.toUInt32.toUInt16.toUInt32.toInt32)), .val (.int z9), .val (.int (p0 &&& (7 : Int32))), .unset, .unset] [(.int (p1.toUInt32.toUInt16.toUInt32.toInt32)), (.int (p3.toUInt32.toUInt16.toUInt32.toInt32)), (.int (p2.toUInt32.toUInt16.toUInt32.toInt32)), (.ref b245), (.ref b245)]))
                  refine own_byH (fun _ kS => XS.iload X245.here hx rfl (hb hby at_254) rfl kS) ?_
                  show own_ComesH Z p e below s _ _ _ (T245.setTop (mkF m 256 #[.val (.int p0), .val (.int p1), .val (.int p2), .val (.int p3), .val (.int p4), .val (.int (p1.toUInt32.toUInt16.toUInt32.toInt32)), .val (.int (p2.toUInt32.toUInt16.toUInt32.toInt32)), .val (.int (p3.toUInt32.toUInt16.toUInt32.toInt32)), .val (.int (p4.toUInt32.toUInt16.toUInt32.toInt32)), .val (.int z9), .val (.int (p0 &&& (7 : Int32))), .unset, .unset] [(.int (p4.toUInt32.toUInt16.toUInt32.toInt32)), (.int (p1.toUInt32.toUInt16.toUInt32.toInt32)), (.int (p3.toUInt32.toUInt16.toUInt32.toInt32)), (.int (p2.toUInt32.toUInt16.toUInt32.toInt32)), (.ref b245), (.ref b245)]))
                  obtain ⟨vv247, _, ⟨T247, L247, k247, n247⟩, -, X247, ⟨Lc247, hQ247, l247, y247, z247⟩, st247⟩ := Jvm.LawKit.callS X245 hx (y := (⟨"com/example/eslabon/eslabon/CodeChallengeMethodIsWellFormedPinLaw", "len129", "(CCCC)[C"⟩ : MethodName)) hownJ56 (mvT hZJ56 (hw _ (List.mem_of_getElem? (i := 48) rfl))) (mvT hZJ56 (hw _ (List.mem_of_getElem? (i := 49) rfl))) (mvT hZJ56 (hw _ (List.mem_of_getElem? (i := 2) rfl))) (mvT hZJ56 (hw _ (List.mem_of_getElem? (i := 50) rfl))) (by decide) (backOf (W := 2) (rm11 l Z a0 hw [] (p2.toUInt32.toUInt16.toUInt32.toInt32) (p3.toUInt32.toUInt16.toUInt32.toInt32) (p1.toUInt32.toUInt16.toUInt32.toInt32) (p4.toUInt32.toUInt16.toUInt32.toInt32) h245 n0 (Nat.le_trans ZJ56 E245.1) (own_nch _) (own_nch _) (own_nch _) (own_nch _)) hZJ56 (hw _ (List.mem_of_getElem? (i := 50) rfl)) (hw _ (List.mem_of_getElem? (i := 2) rfl)) (by decide) (by decide)) (g := (mkF m 256 #[.val (.int p0), .val (.int p1), .val (.int p2), .val (.int p3), .val (.int p4), .val (.int (p1.toUInt32.toUInt16.toUInt32.toInt32)), .val (.int (p2.toUInt32.toUInt16.toUInt32.toInt32)), .val (.int (p3.toUInt32.toUInt16.toUInt32.toInt32)), .val (.int (p4.toUInt32.toUInt16.toUInt32.toInt32)), .val (.int z9), .val (.int (p0 &&& (7 : Int32))), .unset, .unset] [(.int (p4.toUInt32.toUInt16.toUInt32.toInt32)), (.int (p1.toUInt32.toUInt16.toUInt32.toInt32)), (.int (p3.toUInt32.toUInt16.toUInt32.toInt32)), (.int (p2.toUInt32.toUInt16.toUInt32.toInt32)), (.ref b245), (.ref b245)])) rfl (by rw [hml]; rfl) (argsL := [(.int (p2.toUInt32.toUInt16.toUInt32.toInt32)), (.int (p3.toUInt32.toUInt16.toUInt32.toInt32)), (.int (p1.toUInt32.toUInt16.toUInt32.toInt32)), (.int (p4.toUInt32.toUInt16.toUInt32.toInt32))]) (rest := [(.ref b245), (.ref b245)]) (lenOf pd__CCCC__C_507 rfl) rfl (by show 2 * 0 + _ ≤ _; exact Nat.le_of_eq rfl) (hb hby at_256) (fun _ _ => ⟨rfl, e245, (by decide : 1 + 1 ≤ _), (by decide : 4 + 129 ≤ _)⟩)
                  dsimp only [Pt.U, Pt.locs, Pt.cells, Pt.slots] at X247 l247 y247 z247 st247 hQ247
                  subst l247 y247 z247
                  obtain ⟨a247, k247, rfl, N247q, E247, g_a247, sz_a247, V247⟩ := hQ247
                  have N247 := Fr.app NJ56 N247q
                  refine own_byH st247 ?_
                  have CR248 := CHr.ext E247 CH246.1
                  have CH248 := CH246.trans CR248
                  show own_ComesH Z p e below s _ _ _ (T247.setTop (mkF m 259 #[.val (.int p0), .val (.int p1), .val (.int p2), .val (.int p3), .val (.int p4), .val (.int (p1.toUInt32.toUInt16.toUInt32.toInt32)), .val (.int (p2.toUInt32.toUInt16.toUInt32.toInt32)), .val (.int (p3.toUInt32.toUInt16.toUInt32.toInt32)), .val (.int (p4.toUInt32.toUInt16.toUInt32.toInt32)), .val (.int z9), .val (.int (p0 &&& (7 : Int32))), .unset, .unset] [(.ref a247), (.ref b245), (.ref b245)]))
                  have nA : b245 ≠ a247 := Nat.ne_of_lt (Nat.lt_of_lt_of_le A245.lt sz_a247)
                  have Vq := V247
                  have hcl : ((own_cs (p2.toUInt32.toUInt16.toUInt32.toInt32) (p3.toUInt32.toUInt16.toUInt32.toInt32) (p1.toUInt32.toUInt16.toUInt32.toInt32) (p4.toUInt32.toUInt16.toUInt32.toInt32) 129)).length = 129 := own_clen _ _ _ _ _
                  by_cases hw255 : ∃ c ∈ (own_cs (p2.toUInt32.toUInt16.toUInt32.toInt32) (p3.toUInt32.toUInt16.toUInt32.toInt32) (p1.toUInt32.toUInt16.toUInt32.toInt32) (p4.toUInt32.toUInt16.toUInt32.toInt32) 129), (255 : Int32) < c
                  · show own_ComesH Z p e below s _ _ _ (T247.setTop (mkF m 259 #[.val (.int p0), .val (.int p1), .val (.int p2), .val (.int p3), .val (.int p4), .val (.int (p1.toUInt32.toUInt16.toUInt32.toInt32)), .val (.int (p2.toUInt32.toUInt16.toUInt32.toInt32)), .val (.int (p3.toUInt32.toUInt16.toUInt32.toInt32)), .val (.int (p4.toUInt32.toUInt16.toUInt32.toInt32)), .val (.int z9), .val (.int (p0 &&& (7 : Int32))), .unset, .unset] [(.ref a247), (.ref b245), (.ref b245)]))
                    have c249 := ((D245 (Or.inr (hw _ (List.mem_of_getElem? (i := 37) rfl))) (ty := (.array .byte)) (by decide)).ext E247)
                    have c250 := ((D245 (Or.inr (hw _ (List.mem_of_getElem? (i := 35) rfl))) (ty := .byte) (by decide)).ext E247)
                    obtain ⟨vv251, _, ⟨T251, L251, k251, n251⟩, -, X251, ⟨Lc251, hQ251, l251, y251, z251⟩, st251⟩ := X247.specialBack hx (y := (⟨"java/lang/String", "<init>", "([C)V"⟩ : MethodName)) rfl hownJ56 (mvT hZJ56 (hw _ (List.mem_of_getElem? (i := 12) rfl))) (mvT hZJ56 (hw _ (List.mem_of_getElem? (i := 13) rfl))) (mvT hZJ56 (hw _ (List.mem_of_getElem? (i := 14) rfl))) (by decide) (backOf (W := 1) (rm3w l Z a0 hw [] b245 a247 k247 (own_cs (p2.toUInt32.toUInt16.toUInt32.toInt32) (p3.toUInt32.toUInt16.toUInt32.toInt32) (p1.toUInt32.toUInt16.toUInt32.toInt32) (p4.toUInt32.toUInt16.toUInt32.toInt32) 129) zc T247.heap n0 (Nat.le_trans (Nat.le_trans ZJ56 E245.1) E247.1) ((OJ56.ext E245).ext E247) Sz hzc Sd Sh Sl (A245.ext E247) c249 c250 g_b245 nA Vq hw255 (by rw [hcl]; decide) (by rw [hcl]; decide) (own_cbd (own_nch p2) (own_nch p3) (own_nch p1) (own_nch p4))) hZJ56 (hw _ (List.mem_of_getElem? (i := 14) rfl)) (hw _ (List.mem_of_getElem? (i := 10) rfl)) (by decide) (by decide)) (g := (mkF m 259 #[.val (.int p0), .val (.int p1), .val (.int p2), .val (.int p3), .val (.int p4), .val (.int (p1.toUInt32.toUInt16.toUInt32.toInt32)), .val (.int (p2.toUInt32.toUInt16.toUInt32.toInt32)), .val (.int (p3.toUInt32.toUInt16.toUInt32.toInt32)), .val (.int (p4.toUInt32.toUInt16.toUInt32.toInt32)), .val (.int z9), .val (.int (p0 &&& (7 : Int32))), .unset, .unset] [(.ref a247), (.ref b245), (.ref b245)])) rfl (by rw [hml]; rfl) (Steps.refl _) (a := b245) (argsL := [(.ref a247)]) (rest := [(.ref b245)]) (lenOf pd___C_V_325 rfl) rfl (by show 2 * 0 + _ ≤ _; exact Nat.le_of_eq rfl) (hb hby at_259) (fun _ _ => ⟨rfl, rfl, (by decide : 2 + 2 ≤ _), (by decide : 133 + 387 ≤ _)⟩)
                    dsimp only [Pt.U, Pt.locs, Pt.cells, Pt.slots] at X251 l251 y251 z251 st251 hQ251
                    subst l251 y251 z251
                    obtain ⟨rfl, N251q, K251, Y251⟩ := hQ251
                    have N251 := Fr.app N247 N251q
                    refine own_trH st251 ?_
                    have sf253 := CR248.safe A245.lt sb245
                    have CR252 := CHr.keep K251 (sfS sf253 sf0) CH248.1
                    have CH252 := CH248.trans CR252
                    show own_ComesH Z p e below s _ _ _ (T251.setTop (mkF m 262 #[.val (.int p0), .val (.int p1), .val (.int p2), .val (.int p3), .val (.int p4), .val (.int (p1.toUInt32.toUInt16.toUInt32.toInt32)), .val (.int (p2.toUInt32.toUInt16.toUInt32.toInt32)), .val (.int (p3.toUInt32.toUInt16.toUInt32.toInt32)), .val (.int (p4.toUInt32.toUInt16.toUInt32.toInt32)), .val (.int z9), .val (.int (p0 &&& (7 : Int32))), .unset, .unset] [(.ref b245)]))
                    have hYs := Y251
                    refine own_byH (fun _ kS => XS.astore X251.here hx rfl (hb hby at_262) rfl rfl (l' := #[.val (.int p0), .val (.int p1), .val (.int p2), .val (.int p3), .val (.int p4), .val (.int (p1.toUInt32.toUInt16.toUInt32.toInt32)), .val (.int (p2.toUInt32.toUInt16.toUInt32.toInt32)), .val (.int (p3.toUInt32.toUInt16.toUInt32.toInt32)), .val (.int (p4.toUInt32.toUInt16.toUInt32.toInt32)), .val (.int z9), .val (.int (p0 &&& (7 : Int32))), .val (.ref b245), .unset]) rfl kS) ?_
                    show own_ComesH Z p e below s _ _ _ (T251.setTop (mkF m 264 #[.val (.int p0), .val (.int p1), .val (.int p2), .val (.int p3), .val (.int p4), .val (.int (p1.toUInt32.toUInt16.toUInt32.toInt32)), .val (.int (p2.toUInt32.toUInt16.toUInt32.toInt32)), .val (.int (p3.toUInt32.toUInt16.toUInt32.toInt32)), .val (.int (p4.toUInt32.toUInt16.toUInt32.toInt32)), .val (.int z9), .val (.int (p0 &&& (7 : Int32))), .val (.ref b245), .unset] []))
                    refine own_byH (fun _ kS => XS.iconst X251.here hx rfl (hb hby at_264) kS) ?_
                    show own_ComesH Z p e below s _ _ _ (T251.setTop (mkF m 265 #[.val (.int p0), .val (.int p1), .val (.int p2), .val (.int p3), .val (.int p4), .val (.int (p1.toUInt32.toUInt16.toUInt32.toInt32)), .val (.int (p2.toUInt32.toUInt16.toUInt32.toInt32)), .val (.int (p3.toUInt32.toUInt16.toUInt32.toInt32)), .val (.int (p4.toUInt32.toUInt16.toUInt32.toInt32)), .val (.int z9), .val (.int (p0 &&& (7 : Int32))), .val (.ref b245), .unset] [(.int (0 : Int32))]))
                    refine own_byH (fun _ kS => XS.istore X251.here hx rfl (hb hby at_265) rfl (l' := #[.val (.int p0), .val (.int p1), .val (.int p2), .val (.int p3), .val (.int p4), .val (.int (p1.toUInt32.toUInt16.toUInt32.toInt32)), .val (.int (p2.toUInt32.toUInt16.toUInt32.toInt32)), .val (.int (p3.toUInt32.toUInt16.toUInt32.toInt32)), .val (.int (p4.toUInt32.toUInt16.toUInt32.toInt32)), .val (.int z9), .val (.int (p0 &&& (7 : Int32))), .val (.ref b245), .val (.int (0 : Int32))]) rfl kS) ?_
                    show own_ComesH Z p e below s _ _ _ (T251.setTop (mkF m 267 #[.val (.int p0), .val (.int p1), .val (.int p2), .val (.int p3), .val (.int p4), .val (.int (p1.toUInt32.toUInt16.toUInt32.toInt32)), .val (.int (p2.toUInt32.toUInt16.toUInt32.toInt32)), .val (.int (p3.toUInt32.toUInt16.toUInt32.toInt32)), .val (.int (p4.toUInt32.toUInt16.toUInt32.toInt32)), .val (.int z9), .val (.int (p0 &&& (7 : Int32))), .val (.ref b245), .val (.int (0 : Int32))] []))
                    have c254 := (((OJ56.ext E245).ext E247).keep K251 (allS g_b245 all0))
                    exact J267 _ _ _ _ _ z9 (.ref b245) (0 : Int32) (X251.more (by decide) (by decide)) rfl hZJ56 hownJ56 hSJ56 (Nat.le_trans (Nat.le_trans (Nat.le_trans hkJ56 E245.1) E247.1) K251.1) CH252 N251 c254 (Nat.le_trans (Nat.le_trans (Nat.le_trans ZJ56 E245.1) E247.1) K251.1) (Or.inr ⟨_, _, rfl, hYs, Or.inr ⟨rfl, own_short (Or.inr (by rw [hcl]; decide))⟩⟩)
                  · show own_ComesH Z p e below s _ _ _ (T247.setTop (mkF m 259 #[.val (.int p0), .val (.int p1), .val (.int p2), .val (.int p3), .val (.int p4), .val (.int (p1.toUInt32.toUInt16.toUInt32.toInt32)), .val (.int (p2.toUInt32.toUInt16.toUInt32.toInt32)), .val (.int (p3.toUInt32.toUInt16.toUInt32.toInt32)), .val (.int (p4.toUInt32.toUInt16.toUInt32.toInt32)), .val (.int z9), .val (.int (p0 &&& (7 : Int32))), .unset, .unset] [(.ref a247), (.ref b245), (.ref b245)]))
                    have hp : ∀ c ∈ (own_cs (p2.toUInt32.toUInt16.toUInt32.toInt32) (p3.toUInt32.toUInt16.toUInt32.toInt32) (p1.toUInt32.toUInt16.toUInt32.toInt32) (p4.toUInt32.toUInt16.toUInt32.toInt32) 129), ¬ c < 0 ∧ ¬ (255 : Int32) < c := fun c hc => ⟨((own_cbd (own_nch p2) (own_nch p3) (own_nch p1) (own_nch p4)) c hc).1, fun q => hw255 ⟨c, hc, q⟩⟩
                    have c255 := ((D245 (Or.inr (hw _ (List.mem_of_getElem? (i := 37) rfl))) (ty := (.array .byte)) (by decide)).ext E247)
                    have c256 := ((D245 (Or.inr (hw _ (List.mem_of_getElem? (i := 35) rfl))) (ty := .byte) (by decide)).ext E247)
                    obtain ⟨vv257, _, ⟨T257, L257, k257, n257⟩, -, X257, ⟨Lc257, hQ257, l257, y257, z257⟩, st257⟩ := X247.specialBack hx (y := (⟨"java/lang/String", "<init>", "([C)V"⟩ : MethodName)) rfl hownJ56 (mvT hZJ56 (hw _ (List.mem_of_getElem? (i := 12) rfl))) (mvT hZJ56 (hw _ (List.mem_of_getElem? (i := 13) rfl))) (mvT hZJ56 (hw _ (List.mem_of_getElem? (i := 14) rfl))) (by decide) (StrChars.Road.backV (W := 1) hZJ56 hws (kI := 4) (hw _ (List.mem_of_getElem? (i := 9) rfl)) (cs := (own_cs (p2.toUInt32.toUInt16.toUInt32.toInt32) (p3.toUInt32.toUInt16.toUInt32.toInt32) (p1.toUInt32.toUInt16.toUInt32.toInt32) (p4.toUInt32.toUInt16.toUInt32.toInt32) 129)) (bs := ((own_cs (p2.toUInt32.toUInt16.toUInt32.toInt32) (p3.toUInt32.toUInt16.toUInt32.toInt32) (p1.toUInt32.toUInt16.toUInt32.toInt32) (p4.toUInt32.toUInt16.toUInt32.toInt32) 129)).map (fun c => c.toInt8.toInt32)) (n := 129) (n0 := n0) g_b245 (Nat.le_trans (Nat.le_trans ZJ56 E245.1) E247.1) (A245.ext E247) c255 c256 Vq (Sz.ext ((OJ56.ext E245).ext E247).2) hzc hcl (by rw [hcl]) (by decide) (by decide) hp rfl (by decide) (by decide)) (g := (mkF m 259 #[.val (.int p0), .val (.int p1), .val (.int p2), .val (.int p3), .val (.int p4), .val (.int (p1.toUInt32.toUInt16.toUInt32.toInt32)), .val (.int (p2.toUInt32.toUInt16.toUInt32.toInt32)), .val (.int (p3.toUInt32.toUInt16.toUInt32.toInt32)), .val (.int (p4.toUInt32.toUInt16.toUInt32.toInt32)), .val (.int z9), .val (.int (p0 &&& (7 : Int32))), .unset, .unset] [(.ref a247), (.ref b245), (.ref b245)])) rfl (by rw [hml]; rfl) (Steps.refl _) (a := b245) (argsL := [(.ref a247)]) (rest := [(.ref b245)]) (lenOf pd___C_V_325 rfl) rfl (by show 2 * 0 + _ ≤ _; exact Nat.le_of_eq rfl) (hb hby at_259) (fun _ _ => ⟨rfl, rfl, (by decide : 2 + 1 ≤ _), (by decide : 133 + 129 ≤ _)⟩)
                    dsimp only [Pt.U, Pt.locs, Pt.cells, Pt.slots] at X257 l257 y257 z257 st257 hQ257
                    subst l257 y257 z257
                    obtain ⟨rfl, N257q, K257, Eb257, Cb257, t257, kb257, _, _, _, Vb257, Ab257⟩ := hQ257
                    have N257 := Fr.app N247 N257q
                    refine own_trH st257 ?_
                    have sf259 := CR248.safe A245.lt sb245
                    have CR258 := CHr.keep K257 (sfS sf259 sf0) CH248.1
                    have CH258 := CH248.trans CR258
                    show own_ComesH Z p e below s _ _ _ (T257.setTop (mkF m 262 #[.val (.int p0), .val (.int p1), .val (.int p2), .val (.int p3), .val (.int p4), .val (.int (p1.toUInt32.toUInt16.toUInt32.toInt32)), .val (.int (p2.toUInt32.toUInt16.toUInt32.toInt32)), .val (.int (p3.toUInt32.toUInt16.toUInt32.toInt32)), .val (.int (p4.toUInt32.toUInt16.toUInt32.toInt32)), .val (.int z9), .val (.int (p0 &&& (7 : Int32))), .unset, .unset] [(.ref b245)]))
                    have hYs : own_Txt Z T257.heap b245 (own_cs (p2.toUInt32.toUInt16.toUInt32.toInt32) (p3.toUInt32.toUInt16.toUInt32.toInt32) (p1.toUInt32.toUInt16.toUInt32.toInt32) (p4.toUInt32.toUInt16.toUInt32.toInt32) 129) := ⟨Eb257, t257, kb257, 0, _, _, Vb257, Cb257, Ab257, StrChars.Road.codOf rfl (fun c hc => (hp c hc).2), (own_cbd (own_nch p2) (own_nch p3) (own_nch p1) (own_nch p4)), by rw [hcl]; decide⟩
                    refine own_byH (fun _ kS => XS.astore X257.here hx rfl (hb hby at_262) rfl rfl (l' := #[.val (.int p0), .val (.int p1), .val (.int p2), .val (.int p3), .val (.int p4), .val (.int (p1.toUInt32.toUInt16.toUInt32.toInt32)), .val (.int (p2.toUInt32.toUInt16.toUInt32.toInt32)), .val (.int (p3.toUInt32.toUInt16.toUInt32.toInt32)), .val (.int (p4.toUInt32.toUInt16.toUInt32.toInt32)), .val (.int z9), .val (.int (p0 &&& (7 : Int32))), .val (.ref b245), .unset]) rfl kS) ?_
                    show own_ComesH Z p e below s _ _ _ (T257.setTop (mkF m 264 #[.val (.int p0), .val (.int p1), .val (.int p2), .val (.int p3), .val (.int p4), .val (.int (p1.toUInt32.toUInt16.toUInt32.toInt32)), .val (.int (p2.toUInt32.toUInt16.toUInt32.toInt32)), .val (.int (p3.toUInt32.toUInt16.toUInt32.toInt32)), .val (.int (p4.toUInt32.toUInt16.toUInt32.toInt32)), .val (.int z9), .val (.int (p0 &&& (7 : Int32))), .val (.ref b245), .unset] []))
                    refine own_byH (fun _ kS => XS.iconst X257.here hx rfl (hb hby at_264) kS) ?_
                    show own_ComesH Z p e below s _ _ _ (T257.setTop (mkF m 265 #[.val (.int p0), .val (.int p1), .val (.int p2), .val (.int p3), .val (.int p4), .val (.int (p1.toUInt32.toUInt16.toUInt32.toInt32)), .val (.int (p2.toUInt32.toUInt16.toUInt32.toInt32)), .val (.int (p3.toUInt32.toUInt16.toUInt32.toInt32)), .val (.int (p4.toUInt32.toUInt16.toUInt32.toInt32)), .val (.int z9), .val (.int (p0 &&& (7 : Int32))), .val (.ref b245), .unset] [(.int (0 : Int32))]))
                    refine own_byH (fun _ kS => XS.istore X257.here hx rfl (hb hby at_265) rfl (l' := #[.val (.int p0), .val (.int p1), .val (.int p2), .val (.int p3), .val (.int p4), .val (.int (p1.toUInt32.toUInt16.toUInt32.toInt32)), .val (.int (p2.toUInt32.toUInt16.toUInt32.toInt32)), .val (.int (p3.toUInt32.toUInt16.toUInt32.toInt32)), .val (.int (p4.toUInt32.toUInt16.toUInt32.toInt32)), .val (.int z9), .val (.int (p0 &&& (7 : Int32))), .val (.ref b245), .val (.int (0 : Int32))]) rfl kS) ?_
                    show own_ComesH Z p e below s _ _ _ (T257.setTop (mkF m 267 #[.val (.int p0), .val (.int p1), .val (.int p2), .val (.int p3), .val (.int p4), .val (.int (p1.toUInt32.toUInt16.toUInt32.toInt32)), .val (.int (p2.toUInt32.toUInt16.toUInt32.toInt32)), .val (.int (p3.toUInt32.toUInt16.toUInt32.toInt32)), .val (.int (p4.toUInt32.toUInt16.toUInt32.toInt32)), .val (.int z9), .val (.int (p0 &&& (7 : Int32))), .val (.ref b245), .val (.int (0 : Int32))] []))
                    have c260 := (((OJ56.ext E245).ext E247).keep K257 (allS g_b245 all0))
                    exact J267 _ _ _ _ _ z9 (.ref b245) (0 : Int32) (X257.more (by decide) (by decide)) rfl hZJ56 hownJ56 hSJ56 (Nat.le_trans (Nat.le_trans (Nat.le_trans hkJ56 E245.1) E247.1) K257.1) CH258 N257 c260 (Nat.le_trans (Nat.le_trans (Nat.le_trans ZJ56 E245.1) E247.1) K257.1) (Or.inr ⟨_, _, rfl, hYs, Or.inr ⟨rfl, own_short (Or.inr (by rw [hcl]; decide))⟩⟩)
  refine own_byH (fun _ kS => XS.iloadN X0.here hx rfl (hb hby at_0) rfl kS) ?_
  show own_ComesH Z p e below s _ _ _ (s₁.setTop (mkF m 1 #[.val (.int p0), .val (.int p1), .val (.int p2), .val (.int p3), .val (.int p4), .unset, .unset, .unset, .unset, .unset, .unset, .unset, .unset] [(.int p1)]))
  refine own_byH (fun _ kS => XS.i2c X0.here hx rfl (hb hby at_1) rfl kS) ?_
  show own_ComesH Z p e below s _ _ _ (s₁.setTop (mkF m 2 #[.val (.int p0), .val (.int p1), .val (.int p2), .val (.int p3), .val (.int p4), .unset, .unset, .unset, .unset, .unset, .unset, .unset, .unset] [(.int (p1.toUInt32.toUInt16.toUInt32.toInt32))]))
  refine own_byH (fun _ kS => XS.istore X0.here hx rfl (hb hby at_2) rfl (l' := #[.val (.int p0), .val (.int p1), .val (.int p2), .val (.int p3), .val (.int p4), .val (.int (p1.toUInt32.toUInt16.toUInt32.toInt32)), .unset, .unset, .unset, .unset, .unset, .unset, .unset]) rfl kS) ?_
  show own_ComesH Z p e below s _ _ _ (s₁.setTop (mkF m 4 #[.val (.int p0), .val (.int p1), .val (.int p2), .val (.int p3), .val (.int p4), .val (.int (p1.toUInt32.toUInt16.toUInt32.toInt32)), .unset, .unset, .unset, .unset, .unset, .unset, .unset] []))
  refine own_byH (fun _ kS => XS.iloadN X0.here hx rfl (hb hby at_4) rfl kS) ?_
  show own_ComesH Z p e below s _ _ _ (s₁.setTop (mkF m 5 #[.val (.int p0), .val (.int p1), .val (.int p2), .val (.int p3), .val (.int p4), .val (.int (p1.toUInt32.toUInt16.toUInt32.toInt32)), .unset, .unset, .unset, .unset, .unset, .unset, .unset] [(.int p2)]))
  refine own_byH (fun _ kS => XS.i2c X0.here hx rfl (hb hby at_5) rfl kS) ?_
  show own_ComesH Z p e below s _ _ _ (s₁.setTop (mkF m 6 #[.val (.int p0), .val (.int p1), .val (.int p2), .val (.int p3), .val (.int p4), .val (.int (p1.toUInt32.toUInt16.toUInt32.toInt32)), .unset, .unset, .unset, .unset, .unset, .unset, .unset] [(.int (p2.toUInt32.toUInt16.toUInt32.toInt32))]))
  refine own_byH (fun _ kS => XS.istore X0.here hx rfl (hb hby at_6) rfl (l' := #[.val (.int p0), .val (.int p1), .val (.int p2), .val (.int p3), .val (.int p4), .val (.int (p1.toUInt32.toUInt16.toUInt32.toInt32)), .val (.int (p2.toUInt32.toUInt16.toUInt32.toInt32)), .unset, .unset, .unset, .unset, .unset, .unset]) rfl kS) ?_
  show own_ComesH Z p e below s _ _ _ (s₁.setTop (mkF m 8 #[.val (.int p0), .val (.int p1), .val (.int p2), .val (.int p3), .val (.int p4), .val (.int (p1.toUInt32.toUInt16.toUInt32.toInt32)), .val (.int (p2.toUInt32.toUInt16.toUInt32.toInt32)), .unset, .unset, .unset, .unset, .unset, .unset] []))
  refine own_byH (fun _ kS => XS.iloadN X0.here hx rfl (hb hby at_8) rfl kS) ?_
  show own_ComesH Z p e below s _ _ _ (s₁.setTop (mkF m 9 #[.val (.int p0), .val (.int p1), .val (.int p2), .val (.int p3), .val (.int p4), .val (.int (p1.toUInt32.toUInt16.toUInt32.toInt32)), .val (.int (p2.toUInt32.toUInt16.toUInt32.toInt32)), .unset, .unset, .unset, .unset, .unset, .unset] [(.int p3)]))
  refine own_byH (fun _ kS => XS.i2c X0.here hx rfl (hb hby at_9) rfl kS) ?_
  show own_ComesH Z p e below s _ _ _ (s₁.setTop (mkF m 10 #[.val (.int p0), .val (.int p1), .val (.int p2), .val (.int p3), .val (.int p4), .val (.int (p1.toUInt32.toUInt16.toUInt32.toInt32)), .val (.int (p2.toUInt32.toUInt16.toUInt32.toInt32)), .unset, .unset, .unset, .unset, .unset, .unset] [(.int (p3.toUInt32.toUInt16.toUInt32.toInt32))]))
  refine own_byH (fun _ kS => XS.istore X0.here hx rfl (hb hby at_10) rfl (l' := #[.val (.int p0), .val (.int p1), .val (.int p2), .val (.int p3), .val (.int p4), .val (.int (p1.toUInt32.toUInt16.toUInt32.toInt32)), .val (.int (p2.toUInt32.toUInt16.toUInt32.toInt32)), .val (.int (p3.toUInt32.toUInt16.toUInt32.toInt32)), .unset, .unset, .unset, .unset, .unset]) rfl kS) ?_
  show own_ComesH Z p e below s _ _ _ (s₁.setTop (mkF m 12 #[.val (.int p0), .val (.int p1), .val (.int p2), .val (.int p3), .val (.int p4), .val (.int (p1.toUInt32.toUInt16.toUInt32.toInt32)), .val (.int (p2.toUInt32.toUInt16.toUInt32.toInt32)), .val (.int (p3.toUInt32.toUInt16.toUInt32.toInt32)), .unset, .unset, .unset, .unset, .unset] []))
  refine own_byH (fun _ kS => XS.iload X0.here hx rfl (hb hby at_12) rfl kS) ?_
  show own_ComesH Z p e below s _ _ _ (s₁.setTop (mkF m 14 #[.val (.int p0), .val (.int p1), .val (.int p2), .val (.int p3), .val (.int p4), .val (.int (p1.toUInt32.toUInt16.toUInt32.toInt32)), .val (.int (p2.toUInt32.toUInt16.toUInt32.toInt32)), .val (.int (p3.toUInt32.toUInt16.toUInt32.toInt32)), .unset, .unset, .unset, .unset, .unset] [(.int p4)]))
  refine own_byH (fun _ kS => XS.i2c X0.here hx rfl (hb hby at_14) rfl kS) ?_
  show own_ComesH Z p e below s _ _ _ (s₁.setTop (mkF m 15 #[.val (.int p0), .val (.int p1), .val (.int p2), .val (.int p3), .val (.int p4), .val (.int (p1.toUInt32.toUInt16.toUInt32.toInt32)), .val (.int (p2.toUInt32.toUInt16.toUInt32.toInt32)), .val (.int (p3.toUInt32.toUInt16.toUInt32.toInt32)), .unset, .unset, .unset, .unset, .unset] [(.int (p4.toUInt32.toUInt16.toUInt32.toInt32))]))
  refine own_byH (fun _ kS => XS.istore X0.here hx rfl (hb hby at_15) rfl (l' := #[.val (.int p0), .val (.int p1), .val (.int p2), .val (.int p3), .val (.int p4), .val (.int (p1.toUInt32.toUInt16.toUInt32.toInt32)), .val (.int (p2.toUInt32.toUInt16.toUInt32.toInt32)), .val (.int (p3.toUInt32.toUInt16.toUInt32.toInt32)), .val (.int (p4.toUInt32.toUInt16.toUInt32.toInt32)), .unset, .unset, .unset, .unset]) rfl kS) ?_
  show own_ComesH Z p e below s _ _ _ (s₁.setTop (mkF m 17 #[.val (.int p0), .val (.int p1), .val (.int p2), .val (.int p3), .val (.int p4), .val (.int (p1.toUInt32.toUInt16.toUInt32.toInt32)), .val (.int (p2.toUInt32.toUInt16.toUInt32.toInt32)), .val (.int (p3.toUInt32.toUInt16.toUInt32.toInt32)), .val (.int (p4.toUInt32.toUInt16.toUInt32.toInt32)), .unset, .unset, .unset, .unset] []))
  refine own_byH (fun _ kS => XS.iload X0.here hx rfl (hb hby at_17) rfl kS) ?_
  show own_ComesH Z p e below s _ _ _ (s₁.setTop (mkF m 19 #[.val (.int p0), .val (.int p1), .val (.int p2), .val (.int p3), .val (.int p4), .val (.int (p1.toUInt32.toUInt16.toUInt32.toInt32)), .val (.int (p2.toUInt32.toUInt16.toUInt32.toInt32)), .val (.int (p3.toUInt32.toUInt16.toUInt32.toInt32)), .val (.int (p4.toUInt32.toUInt16.toUInt32.toInt32)), .unset, .unset, .unset, .unset] [(.int (p2.toUInt32.toUInt16.toUInt32.toInt32))]))
  obtain ⟨vv261, _, ⟨T261, L261, k261, n261⟩, -, X261, ⟨Lc261, hQ261, l261, y261, z261⟩, st261⟩ := Jvm.LawKit.callS X0 hx (y := (⟨"com/example/eslabon/eslabon/CodeChallengeMethodIsWellFormedPinLaw", "unreserved", "(C)Z"⟩ : MethodName)) hown (mvT hZ (hw _ (List.mem_of_getElem? (i := 0) rfl))) (mvT hZ (hw _ (List.mem_of_getElem? (i := 1) rfl))) (mvT hZ (hw _ (List.mem_of_getElem? (i := 2) rfl))) (mvT hZ (hw _ (List.mem_of_getElem? (i := 3) rfl))) (by decide) (backOf (W := 0) (rm1 l Z a0 hw [] (p2.toUInt32.toUInt16.toUInt32.toInt32) h0 n0 Z0) hZ (hw _ (List.mem_of_getElem? (i := 3) rfl)) (hw _ (List.mem_of_getElem? (i := 2) rfl)) (by decide) (by decide)) (g := (mkF m 19 #[.val (.int p0), .val (.int p1), .val (.int p2), .val (.int p3), .val (.int p4), .val (.int (p1.toUInt32.toUInt16.toUInt32.toInt32)), .val (.int (p2.toUInt32.toUInt16.toUInt32.toInt32)), .val (.int (p3.toUInt32.toUInt16.toUInt32.toInt32)), .val (.int (p4.toUInt32.toUInt16.toUInt32.toInt32)), .unset, .unset, .unset, .unset] [(.int (p2.toUInt32.toUInt16.toUInt32.toInt32))])) rfl (by rw [hml]; rfl) (argsL := [(.int (p2.toUInt32.toUInt16.toUInt32.toInt32))]) (rest := []) (lenOf pd__C_Z_238 rfl) rfl (by show 2 * 0 + _ ≤ _; exact Nat.le_of_eq rfl) (hb hby at_19) (fun _ _ => ⟨rfl, e0, (by decide : 0 + 0 ≤ _), (by decide : 0 + 0 ≤ _)⟩)
  dsimp only [Pt.U, Pt.locs, Pt.cells, Pt.slots] at X261 l261 y261 z261 st261 hQ261
  subst l261 y261 z261
  obtain ⟨z261, rfl, N261q, e261q, hz261⟩ := hQ261
  have N261 := Fr.app N0 N261q
  refine own_byH st261 ?_
  have e261 : T261.heap = h0 := e261q
  show own_ComesH Z p e below s _ _ _ (T261.setTop (mkF m 22 #[.val (.int p0), .val (.int p1), .val (.int p2), .val (.int p3), .val (.int p4), .val (.int (p1.toUInt32.toUInt16.toUInt32.toInt32)), .val (.int (p2.toUInt32.toUInt16.toUInt32.toInt32)), .val (.int (p3.toUInt32.toUInt16.toUInt32.toInt32)), .val (.int (p4.toUInt32.toUInt16.toUInt32.toInt32)), .unset, .unset, .unset, .unset] [(.int z261)]))
  by_cases hq261 : z261 = (0 : Int32)
  · refine own_byH (fun _ kS => XS.ifYes X261.here hx rfl (pc0 := 22) (pc' := 53) rfl (hb hby at_22) rfl ((if0 _ _).trans (teq hq261).1) (by decide) (by decide) kS) ?_
    show own_ComesH Z p e below s _ _ _ (T261.setTop (mkF m 53 #[.val (.int p0), .val (.int p1), .val (.int p2), .val (.int p3), .val (.int p4), .val (.int (p1.toUInt32.toUInt16.toUInt32.toInt32)), .val (.int (p2.toUInt32.toUInt16.toUInt32.toInt32)), .val (.int (p3.toUInt32.toUInt16.toUInt32.toInt32)), .val (.int (p4.toUInt32.toUInt16.toUInt32.toInt32)), .unset, .unset, .unset, .unset] []))
    refine own_byH (fun _ kS => XS.iconst X261.here hx rfl (hb hby at_53) kS) ?_
    show own_ComesH Z p e below s _ _ _ (T261.setTop (mkF m 54 #[.val (.int p0), .val (.int p1), .val (.int p2), .val (.int p3), .val (.int p4), .val (.int (p1.toUInt32.toUInt16.toUInt32.toInt32)), .val (.int (p2.toUInt32.toUInt16.toUInt32.toInt32)), .val (.int (p3.toUInt32.toUInt16.toUInt32.toInt32)), .val (.int (p4.toUInt32.toUInt16.toUInt32.toInt32)), .unset, .unset, .unset, .unset] [(.int (0 : Int32))]))
    refine own_byH (fun _ kS => XS.istore X261.here hx rfl (hb hby at_54) rfl (l' := #[.val (.int p0), .val (.int p1), .val (.int p2), .val (.int p3), .val (.int p4), .val (.int (p1.toUInt32.toUInt16.toUInt32.toInt32)), .val (.int (p2.toUInt32.toUInt16.toUInt32.toInt32)), .val (.int (p3.toUInt32.toUInt16.toUInt32.toInt32)), .val (.int (p4.toUInt32.toUInt16.toUInt32.toInt32)), .val (.int (0 : Int32)), .unset, .unset, .unset]) rfl kS) ?_
    show own_ComesH Z p e below s _ _ _ (T261.setTop (mkF m 56 #[.val (.int p0), .val (.int p1), .val (.int p2), .val (.int p3), .val (.int p4), .val (.int (p1.toUInt32.toUInt16.toUInt32.toInt32)), .val (.int (p2.toUInt32.toUInt16.toUInt32.toInt32)), .val (.int (p3.toUInt32.toUInt16.toUInt32.toInt32)), .val (.int (p4.toUInt32.toUInt16.toUInt32.toInt32)), .val (.int (0 : Int32)), .unset, .unset, .unset] []))
    exact J56 _ _ _ _ _ (0 : Int32) (X261.more (by decide) (by decide)) e261 hZ hown hS hk CH N261 O0 Z0 (Or.inr ⟨rfl, (fun r => (hz261.elim (fun q => absurd (q.1.symm.trans hq261) (by decide)) (fun q => q.2)) r.1)⟩)
  · refine own_byH (fun _ kS => XS.ifNo X261.here hx rfl (hb hby at_22) rfl ((if0 _ _).trans (feq hq261).1) kS) ?_
    show own_ComesH Z p e below s _ _ _ (T261.setTop (mkF m 25 #[.val (.int p0), .val (.int p1), .val (.int p2), .val (.int p3), .val (.int p4), .val (.int (p1.toUInt32.toUInt16.toUInt32.toInt32)), .val (.int (p2.toUInt32.toUInt16.toUInt32.toInt32)), .val (.int (p3.toUInt32.toUInt16.toUInt32.toInt32)), .val (.int (p4.toUInt32.toUInt16.toUInt32.toInt32)), .unset, .unset, .unset, .unset] []))
    refine own_byH (fun _ kS => XS.iload X261.here hx rfl (hb hby at_25) rfl kS) ?_
    show own_ComesH Z p e below s _ _ _ (T261.setTop (mkF m 27 #[.val (.int p0), .val (.int p1), .val (.int p2), .val (.int p3), .val (.int p4), .val (.int (p1.toUInt32.toUInt16.toUInt32.toInt32)), .val (.int (p2.toUInt32.toUInt16.toUInt32.toInt32)), .val (.int (p3.toUInt32.toUInt16.toUInt32.toInt32)), .val (.int (p4.toUInt32.toUInt16.toUInt32.toInt32)), .unset, .unset, .unset, .unset] [(.int (p3.toUInt32.toUInt16.toUInt32.toInt32))]))
    obtain ⟨vv262, _, ⟨T262, L262, k262, n262⟩, -, X262, ⟨Lc262, hQ262, l262, y262, z262⟩, st262⟩ := Jvm.LawKit.callS X261 hx (y := (⟨"com/example/eslabon/eslabon/CodeChallengeMethodIsWellFormedPinLaw", "unreserved", "(C)Z"⟩ : MethodName)) hown (mvT hZ (hw _ (List.mem_of_getElem? (i := 0) rfl))) (mvT hZ (hw _ (List.mem_of_getElem? (i := 1) rfl))) (mvT hZ (hw _ (List.mem_of_getElem? (i := 2) rfl))) (mvT hZ (hw _ (List.mem_of_getElem? (i := 3) rfl))) (by decide) (backOf (W := 0) (rm1 l Z a0 hw [] (p3.toUInt32.toUInt16.toUInt32.toInt32) h0 n0 Z0) hZ (hw _ (List.mem_of_getElem? (i := 3) rfl)) (hw _ (List.mem_of_getElem? (i := 2) rfl)) (by decide) (by decide)) (g := (mkF m 27 #[.val (.int p0), .val (.int p1), .val (.int p2), .val (.int p3), .val (.int p4), .val (.int (p1.toUInt32.toUInt16.toUInt32.toInt32)), .val (.int (p2.toUInt32.toUInt16.toUInt32.toInt32)), .val (.int (p3.toUInt32.toUInt16.toUInt32.toInt32)), .val (.int (p4.toUInt32.toUInt16.toUInt32.toInt32)), .unset, .unset, .unset, .unset] [(.int (p3.toUInt32.toUInt16.toUInt32.toInt32))])) rfl (by rw [hml]; rfl) (argsL := [(.int (p3.toUInt32.toUInt16.toUInt32.toInt32))]) (rest := []) (lenOf pd__C_Z_238 rfl) rfl (by show 2 * 0 + _ ≤ _; exact Nat.le_of_eq rfl) (hb hby at_27) (fun _ _ => ⟨rfl, e261, (by decide : 0 + 0 ≤ _), (by decide : 0 + 0 ≤ _)⟩)
    dsimp only [Pt.U, Pt.locs, Pt.cells, Pt.slots] at X262 l262 y262 z262 st262 hQ262
    subst l262 y262 z262
    obtain ⟨z262, rfl, N262q, e262q, hz262⟩ := hQ262
    have N262 := Fr.app N261 N262q
    refine own_byH st262 ?_
    have e262 : T262.heap = h0 := e262q
    show own_ComesH Z p e below s _ _ _ (T262.setTop (mkF m 30 #[.val (.int p0), .val (.int p1), .val (.int p2), .val (.int p3), .val (.int p4), .val (.int (p1.toUInt32.toUInt16.toUInt32.toInt32)), .val (.int (p2.toUInt32.toUInt16.toUInt32.toInt32)), .val (.int (p3.toUInt32.toUInt16.toUInt32.toInt32)), .val (.int (p4.toUInt32.toUInt16.toUInt32.toInt32)), .unset, .unset, .unset, .unset] [(.int z262)]))
    by_cases hq262 : z262 = (0 : Int32)
    · refine own_byH (fun _ kS => XS.ifYes X262.here hx rfl (pc0 := 30) (pc' := 53) rfl (hb hby at_30) rfl ((if0 _ _).trans (teq hq262).1) (by decide) (by decide) kS) ?_
      show own_ComesH Z p e below s _ _ _ (T262.setTop (mkF m 53 #[.val (.int p0), .val (.int p1), .val (.int p2), .val (.int p3), .val (.int p4), .val (.int (p1.toUInt32.toUInt16.toUInt32.toInt32)), .val (.int (p2.toUInt32.toUInt16.toUInt32.toInt32)), .val (.int (p3.toUInt32.toUInt16.toUInt32.toInt32)), .val (.int (p4.toUInt32.toUInt16.toUInt32.toInt32)), .unset, .unset, .unset, .unset] []))
      refine own_byH (fun _ kS => XS.iconst X262.here hx rfl (hb hby at_53) kS) ?_
      show own_ComesH Z p e below s _ _ _ (T262.setTop (mkF m 54 #[.val (.int p0), .val (.int p1), .val (.int p2), .val (.int p3), .val (.int p4), .val (.int (p1.toUInt32.toUInt16.toUInt32.toInt32)), .val (.int (p2.toUInt32.toUInt16.toUInt32.toInt32)), .val (.int (p3.toUInt32.toUInt16.toUInt32.toInt32)), .val (.int (p4.toUInt32.toUInt16.toUInt32.toInt32)), .unset, .unset, .unset, .unset] [(.int (0 : Int32))]))
      refine own_byH (fun _ kS => XS.istore X262.here hx rfl (hb hby at_54) rfl (l' := #[.val (.int p0), .val (.int p1), .val (.int p2), .val (.int p3), .val (.int p4), .val (.int (p1.toUInt32.toUInt16.toUInt32.toInt32)), .val (.int (p2.toUInt32.toUInt16.toUInt32.toInt32)), .val (.int (p3.toUInt32.toUInt16.toUInt32.toInt32)), .val (.int (p4.toUInt32.toUInt16.toUInt32.toInt32)), .val (.int (0 : Int32)), .unset, .unset, .unset]) rfl kS) ?_
      show own_ComesH Z p e below s _ _ _ (T262.setTop (mkF m 56 #[.val (.int p0), .val (.int p1), .val (.int p2), .val (.int p3), .val (.int p4), .val (.int (p1.toUInt32.toUInt16.toUInt32.toInt32)), .val (.int (p2.toUInt32.toUInt16.toUInt32.toInt32)), .val (.int (p3.toUInt32.toUInt16.toUInt32.toInt32)), .val (.int (p4.toUInt32.toUInt16.toUInt32.toInt32)), .val (.int (0 : Int32)), .unset, .unset, .unset] []))
      exact J56 _ _ _ _ _ (0 : Int32) (X262.more (by decide) (by decide)) e262 hZ hown hS hk CH N262 O0 Z0 (Or.inr ⟨rfl, (fun r => (hz262.elim (fun q => absurd (q.1.symm.trans hq262) (by decide)) (fun q => q.2)) r.2.1)⟩)
    · refine own_byH (fun _ kS => XS.ifNo X262.here hx rfl (hb hby at_30) rfl ((if0 _ _).trans (feq hq262).1) kS) ?_
      show own_ComesH Z p e below s _ _ _ (T262.setTop (mkF m 33 #[.val (.int p0), .val (.int p1), .val (.int p2), .val (.int p3), .val (.int p4), .val (.int (p1.toUInt32.toUInt16.toUInt32.toInt32)), .val (.int (p2.toUInt32.toUInt16.toUInt32.toInt32)), .val (.int (p3.toUInt32.toUInt16.toUInt32.toInt32)), .val (.int (p4.toUInt32.toUInt16.toUInt32.toInt32)), .unset, .unset, .unset, .unset] []))
      refine own_byH (fun _ kS => XS.iload X262.here hx rfl (hb hby at_33) rfl kS) ?_
      show own_ComesH Z p e below s _ _ _ (T262.setTop (mkF m 35 #[.val (.int p0), .val (.int p1), .val (.int p2), .val (.int p3), .val (.int p4), .val (.int (p1.toUInt32.toUInt16.toUInt32.toInt32)), .val (.int (p2.toUInt32.toUInt16.toUInt32.toInt32)), .val (.int (p3.toUInt32.toUInt16.toUInt32.toInt32)), .val (.int (p4.toUInt32.toUInt16.toUInt32.toInt32)), .unset, .unset, .unset, .unset] [(.int (p1.toUInt32.toUInt16.toUInt32.toInt32))]))
      obtain ⟨vv263, _, ⟨T263, L263, k263, n263⟩, -, X263, ⟨Lc263, hQ263, l263, y263, z263⟩, st263⟩ := Jvm.LawKit.callS X262 hx (y := (⟨"com/example/eslabon/eslabon/CodeChallengeMethodIsWellFormedPinLaw", "unreserved", "(C)Z"⟩ : MethodName)) hown (mvT hZ (hw _ (List.mem_of_getElem? (i := 0) rfl))) (mvT hZ (hw _ (List.mem_of_getElem? (i := 1) rfl))) (mvT hZ (hw _ (List.mem_of_getElem? (i := 2) rfl))) (mvT hZ (hw _ (List.mem_of_getElem? (i := 3) rfl))) (by decide) (backOf (W := 0) (rm1 l Z a0 hw [] (p1.toUInt32.toUInt16.toUInt32.toInt32) h0 n0 Z0) hZ (hw _ (List.mem_of_getElem? (i := 3) rfl)) (hw _ (List.mem_of_getElem? (i := 2) rfl)) (by decide) (by decide)) (g := (mkF m 35 #[.val (.int p0), .val (.int p1), .val (.int p2), .val (.int p3), .val (.int p4), .val (.int (p1.toUInt32.toUInt16.toUInt32.toInt32)), .val (.int (p2.toUInt32.toUInt16.toUInt32.toInt32)), .val (.int (p3.toUInt32.toUInt16.toUInt32.toInt32)), .val (.int (p4.toUInt32.toUInt16.toUInt32.toInt32)), .unset, .unset, .unset, .unset] [(.int (p1.toUInt32.toUInt16.toUInt32.toInt32))])) rfl (by rw [hml]; rfl) (argsL := [(.int (p1.toUInt32.toUInt16.toUInt32.toInt32))]) (rest := []) (lenOf pd__C_Z_238 rfl) rfl (by show 2 * 0 + _ ≤ _; exact Nat.le_of_eq rfl) (hb hby at_35) (fun _ _ => ⟨rfl, e262, (by decide : 0 + 0 ≤ _), (by decide : 0 + 0 ≤ _)⟩)
      dsimp only [Pt.U, Pt.locs, Pt.cells, Pt.slots] at X263 l263 y263 z263 st263 hQ263
      subst l263 y263 z263
      obtain ⟨z263, rfl, N263q, e263q, hz263⟩ := hQ263
      have N263 := Fr.app N262 N263q
      refine own_byH st263 ?_
      have e263 : T263.heap = h0 := e263q
      show own_ComesH Z p e below s _ _ _ (T263.setTop (mkF m 38 #[.val (.int p0), .val (.int p1), .val (.int p2), .val (.int p3), .val (.int p4), .val (.int (p1.toUInt32.toUInt16.toUInt32.toInt32)), .val (.int (p2.toUInt32.toUInt16.toUInt32.toInt32)), .val (.int (p3.toUInt32.toUInt16.toUInt32.toInt32)), .val (.int (p4.toUInt32.toUInt16.toUInt32.toInt32)), .unset, .unset, .unset, .unset] [(.int z263)]))
      by_cases hq263 : z263 = (0 : Int32)
      · refine own_byH (fun _ kS => XS.ifYes X263.here hx rfl (pc0 := 38) (pc' := 53) rfl (hb hby at_38) rfl ((if0 _ _).trans (teq hq263).1) (by decide) (by decide) kS) ?_
        show own_ComesH Z p e below s _ _ _ (T263.setTop (mkF m 53 #[.val (.int p0), .val (.int p1), .val (.int p2), .val (.int p3), .val (.int p4), .val (.int (p1.toUInt32.toUInt16.toUInt32.toInt32)), .val (.int (p2.toUInt32.toUInt16.toUInt32.toInt32)), .val (.int (p3.toUInt32.toUInt16.toUInt32.toInt32)), .val (.int (p4.toUInt32.toUInt16.toUInt32.toInt32)), .unset, .unset, .unset, .unset] []))
        refine own_byH (fun _ kS => XS.iconst X263.here hx rfl (hb hby at_53) kS) ?_
        show own_ComesH Z p e below s _ _ _ (T263.setTop (mkF m 54 #[.val (.int p0), .val (.int p1), .val (.int p2), .val (.int p3), .val (.int p4), .val (.int (p1.toUInt32.toUInt16.toUInt32.toInt32)), .val (.int (p2.toUInt32.toUInt16.toUInt32.toInt32)), .val (.int (p3.toUInt32.toUInt16.toUInt32.toInt32)), .val (.int (p4.toUInt32.toUInt16.toUInt32.toInt32)), .unset, .unset, .unset, .unset] [(.int (0 : Int32))]))
        refine own_byH (fun _ kS => XS.istore X263.here hx rfl (hb hby at_54) rfl (l' := #[.val (.int p0), .val (.int p1), .val (.int p2), .val (.int p3), .val (.int p4), .val (.int (p1.toUInt32.toUInt16.toUInt32.toInt32)), .val (.int (p2.toUInt32.toUInt16.toUInt32.toInt32)), .val (.int (p3.toUInt32.toUInt16.toUInt32.toInt32)), .val (.int (p4.toUInt32.toUInt16.toUInt32.toInt32)), .val (.int (0 : Int32)), .unset, .unset, .unset]) rfl kS) ?_
        show own_ComesH Z p e below s _ _ _ (T263.setTop (mkF m 56 #[.val (.int p0), .val (.int p1), .val (.int p2), .val (.int p3), .val (.int p4), .val (.int (p1.toUInt32.toUInt16.toUInt32.toInt32)), .val (.int (p2.toUInt32.toUInt16.toUInt32.toInt32)), .val (.int (p3.toUInt32.toUInt16.toUInt32.toInt32)), .val (.int (p4.toUInt32.toUInt16.toUInt32.toInt32)), .val (.int (0 : Int32)), .unset, .unset, .unset] []))
        exact J56 _ _ _ _ _ (0 : Int32) (X263.more (by decide) (by decide)) e263 hZ hown hS hk CH N263 O0 Z0 (Or.inr ⟨rfl, (fun r => (hz263.elim (fun q => absurd (q.1.symm.trans hq263) (by decide)) (fun q => q.2)) r.2.2.1)⟩)
      · refine own_byH (fun _ kS => XS.ifNo X263.here hx rfl (hb hby at_38) rfl ((if0 _ _).trans (feq hq263).1) kS) ?_
        show own_ComesH Z p e below s _ _ _ (T263.setTop (mkF m 41 #[.val (.int p0), .val (.int p1), .val (.int p2), .val (.int p3), .val (.int p4), .val (.int (p1.toUInt32.toUInt16.toUInt32.toInt32)), .val (.int (p2.toUInt32.toUInt16.toUInt32.toInt32)), .val (.int (p3.toUInt32.toUInt16.toUInt32.toInt32)), .val (.int (p4.toUInt32.toUInt16.toUInt32.toInt32)), .unset, .unset, .unset, .unset] []))
        refine own_byH (fun _ kS => XS.iload X263.here hx rfl (hb hby at_41) rfl kS) ?_
        show own_ComesH Z p e below s _ _ _ (T263.setTop (mkF m 43 #[.val (.int p0), .val (.int p1), .val (.int p2), .val (.int p3), .val (.int p4), .val (.int (p1.toUInt32.toUInt16.toUInt32.toInt32)), .val (.int (p2.toUInt32.toUInt16.toUInt32.toInt32)), .val (.int (p3.toUInt32.toUInt16.toUInt32.toInt32)), .val (.int (p4.toUInt32.toUInt16.toUInt32.toInt32)), .unset, .unset, .unset, .unset] [(.int (p4.toUInt32.toUInt16.toUInt32.toInt32))]))
        obtain ⟨vv264, _, ⟨T264, L264, k264, n264⟩, -, X264, ⟨Lc264, hQ264, l264, y264, z264⟩, st264⟩ := Jvm.LawKit.callS X263 hx (y := (⟨"com/example/eslabon/eslabon/CodeChallengeMethodIsWellFormedPinLaw", "unreserved", "(C)Z"⟩ : MethodName)) hown (mvT hZ (hw _ (List.mem_of_getElem? (i := 0) rfl))) (mvT hZ (hw _ (List.mem_of_getElem? (i := 1) rfl))) (mvT hZ (hw _ (List.mem_of_getElem? (i := 2) rfl))) (mvT hZ (hw _ (List.mem_of_getElem? (i := 3) rfl))) (by decide) (backOf (W := 0) (rm1 l Z a0 hw [] (p4.toUInt32.toUInt16.toUInt32.toInt32) h0 n0 Z0) hZ (hw _ (List.mem_of_getElem? (i := 3) rfl)) (hw _ (List.mem_of_getElem? (i := 2) rfl)) (by decide) (by decide)) (g := (mkF m 43 #[.val (.int p0), .val (.int p1), .val (.int p2), .val (.int p3), .val (.int p4), .val (.int (p1.toUInt32.toUInt16.toUInt32.toInt32)), .val (.int (p2.toUInt32.toUInt16.toUInt32.toInt32)), .val (.int (p3.toUInt32.toUInt16.toUInt32.toInt32)), .val (.int (p4.toUInt32.toUInt16.toUInt32.toInt32)), .unset, .unset, .unset, .unset] [(.int (p4.toUInt32.toUInt16.toUInt32.toInt32))])) rfl (by rw [hml]; rfl) (argsL := [(.int (p4.toUInt32.toUInt16.toUInt32.toInt32))]) (rest := []) (lenOf pd__C_Z_238 rfl) rfl (by show 2 * 0 + _ ≤ _; exact Nat.le_of_eq rfl) (hb hby at_43) (fun _ _ => ⟨rfl, e263, (by decide : 0 + 0 ≤ _), (by decide : 0 + 0 ≤ _)⟩)
        dsimp only [Pt.U, Pt.locs, Pt.cells, Pt.slots] at X264 l264 y264 z264 st264 hQ264
        subst l264 y264 z264
        obtain ⟨z264, rfl, N264q, e264q, hz264⟩ := hQ264
        have N264 := Fr.app N263 N264q
        refine own_byH st264 ?_
        have e264 : T264.heap = h0 := e264q
        show own_ComesH Z p e below s _ _ _ (T264.setTop (mkF m 46 #[.val (.int p0), .val (.int p1), .val (.int p2), .val (.int p3), .val (.int p4), .val (.int (p1.toUInt32.toUInt16.toUInt32.toInt32)), .val (.int (p2.toUInt32.toUInt16.toUInt32.toInt32)), .val (.int (p3.toUInt32.toUInt16.toUInt32.toInt32)), .val (.int (p4.toUInt32.toUInt16.toUInt32.toInt32)), .unset, .unset, .unset, .unset] [(.int z264)]))
        by_cases hq264 : z264 = (0 : Int32)
        · refine own_byH (fun _ kS => XS.ifYes X264.here hx rfl (pc0 := 46) (pc' := 53) rfl (hb hby at_46) rfl ((if0 _ _).trans (teq hq264).1) (by decide) (by decide) kS) ?_
          show own_ComesH Z p e below s _ _ _ (T264.setTop (mkF m 53 #[.val (.int p0), .val (.int p1), .val (.int p2), .val (.int p3), .val (.int p4), .val (.int (p1.toUInt32.toUInt16.toUInt32.toInt32)), .val (.int (p2.toUInt32.toUInt16.toUInt32.toInt32)), .val (.int (p3.toUInt32.toUInt16.toUInt32.toInt32)), .val (.int (p4.toUInt32.toUInt16.toUInt32.toInt32)), .unset, .unset, .unset, .unset] []))
          refine own_byH (fun _ kS => XS.iconst X264.here hx rfl (hb hby at_53) kS) ?_
          show own_ComesH Z p e below s _ _ _ (T264.setTop (mkF m 54 #[.val (.int p0), .val (.int p1), .val (.int p2), .val (.int p3), .val (.int p4), .val (.int (p1.toUInt32.toUInt16.toUInt32.toInt32)), .val (.int (p2.toUInt32.toUInt16.toUInt32.toInt32)), .val (.int (p3.toUInt32.toUInt16.toUInt32.toInt32)), .val (.int (p4.toUInt32.toUInt16.toUInt32.toInt32)), .unset, .unset, .unset, .unset] [(.int (0 : Int32))]))
          refine own_byH (fun _ kS => XS.istore X264.here hx rfl (hb hby at_54) rfl (l' := #[.val (.int p0), .val (.int p1), .val (.int p2), .val (.int p3), .val (.int p4), .val (.int (p1.toUInt32.toUInt16.toUInt32.toInt32)), .val (.int (p2.toUInt32.toUInt16.toUInt32.toInt32)), .val (.int (p3.toUInt32.toUInt16.toUInt32.toInt32)), .val (.int (p4.toUInt32.toUInt16.toUInt32.toInt32)), .val (.int (0 : Int32)), .unset, .unset, .unset]) rfl kS) ?_
          show own_ComesH Z p e below s _ _ _ (T264.setTop (mkF m 56 #[.val (.int p0), .val (.int p1), .val (.int p2), .val (.int p3), .val (.int p4), .val (.int (p1.toUInt32.toUInt16.toUInt32.toInt32)), .val (.int (p2.toUInt32.toUInt16.toUInt32.toInt32)), .val (.int (p3.toUInt32.toUInt16.toUInt32.toInt32)), .val (.int (p4.toUInt32.toUInt16.toUInt32.toInt32)), .val (.int (0 : Int32)), .unset, .unset, .unset] []))
          exact J56 _ _ _ _ _ (0 : Int32) (X264.more (by decide) (by decide)) e264 hZ hown hS hk CH N264 O0 Z0 (Or.inr ⟨rfl, (fun r => (hz264.elim (fun q => absurd (q.1.symm.trans hq264) (by decide)) (fun q => q.2)) r.2.2.2)⟩)
        · refine own_byH (fun _ kS => XS.ifNo X264.here hx rfl (hb hby at_46) rfl ((if0 _ _).trans (feq hq264).1) kS) ?_
          show own_ComesH Z p e below s _ _ _ (T264.setTop (mkF m 49 #[.val (.int p0), .val (.int p1), .val (.int p2), .val (.int p3), .val (.int p4), .val (.int (p1.toUInt32.toUInt16.toUInt32.toInt32)), .val (.int (p2.toUInt32.toUInt16.toUInt32.toInt32)), .val (.int (p3.toUInt32.toUInt16.toUInt32.toInt32)), .val (.int (p4.toUInt32.toUInt16.toUInt32.toInt32)), .unset, .unset, .unset, .unset] []))
          refine own_byH (fun _ kS => XS.iconst X264.here hx rfl (hb hby at_49) kS) ?_
          show own_ComesH Z p e below s _ _ _ (T264.setTop (mkF m 50 #[.val (.int p0), .val (.int p1), .val (.int p2), .val (.int p3), .val (.int p4), .val (.int (p1.toUInt32.toUInt16.toUInt32.toInt32)), .val (.int (p2.toUInt32.toUInt16.toUInt32.toInt32)), .val (.int (p3.toUInt32.toUInt16.toUInt32.toInt32)), .val (.int (p4.toUInt32.toUInt16.toUInt32.toInt32)), .unset, .unset, .unset, .unset] [(.int (1 : Int32))]))
          refine own_byH (fun _ kS => XS.goto X264.here hx rfl (pc0 := 50) (pc' := 54) rfl (hb hby at_50) (by decide) (by decide) kS) ?_
          show own_ComesH Z p e below s _ _ _ (T264.setTop (mkF m 54 #[.val (.int p0), .val (.int p1), .val (.int p2), .val (.int p3), .val (.int p4), .val (.int (p1.toUInt32.toUInt16.toUInt32.toInt32)), .val (.int (p2.toUInt32.toUInt16.toUInt32.toInt32)), .val (.int (p3.toUInt32.toUInt16.toUInt32.toInt32)), .val (.int (p4.toUInt32.toUInt16.toUInt32.toInt32)), .unset, .unset, .unset, .unset] [(.int (1 : Int32))]))
          refine own_byH (fun _ kS => XS.istore X264.here hx rfl (hb hby at_54) rfl (l' := #[.val (.int p0), .val (.int p1), .val (.int p2), .val (.int p3), .val (.int p4), .val (.int (p1.toUInt32.toUInt16.toUInt32.toInt32)), .val (.int (p2.toUInt32.toUInt16.toUInt32.toInt32)), .val (.int (p3.toUInt32.toUInt16.toUInt32.toInt32)), .val (.int (p4.toUInt32.toUInt16.toUInt32.toInt32)), .val (.int (1 : Int32)), .unset, .unset, .unset]) rfl kS) ?_
          show own_ComesH Z p e below s _ _ _ (T264.setTop (mkF m 56 #[.val (.int p0), .val (.int p1), .val (.int p2), .val (.int p3), .val (.int p4), .val (.int (p1.toUInt32.toUInt16.toUInt32.toInt32)), .val (.int (p2.toUInt32.toUInt16.toUInt32.toInt32)), .val (.int (p3.toUInt32.toUInt16.toUInt32.toInt32)), .val (.int (p4.toUInt32.toUInt16.toUInt32.toInt32)), .val (.int (1 : Int32)), .unset, .unset, .unset] []))
          exact J56 _ _ _ _ _ (1 : Int32) (X264.more (by decide) (by decide)) e264 hZ hown hS hk CH N264 O0 Z0 (Or.inl ⟨rfl, (hz261.elim (fun q => q.2) (fun q => absurd q.1 hq261)), (hz262.elim (fun q => q.2) (fun q => absurd q.1 hq262)), (hz263.elim (fun q => q.2) (fun q => absurd q.1 hq263)), (hz264.elim (fun q => q.2) (fun q => absurd q.1 hq264))⟩)
set_option maxRecDepth 65536 in
set_option maxHeartbeats 40000000 in
theorem comes_1 {Post : Tables → Env → Array Value → State → Outcome → State → Prop} (hpost : ∀ tb e args s v u, (limb_1_1.after args s (.returned v) u = true ∧ limb_1_2.after args s (.returned v) u = true ∧ True) → ReturnedEndW s (.returned v) u (Jvm.fieldLocs frame_1_writes args s ++ Jvm.arrayLocs frame_1_arrays args s ++ Jvm.staticLocs frame_1_statics s) 24 2176 → Post tb e args s (.returned v) u) :
    ArmFor flags0 classFile x code maxLocals ret World_1 tables_1 room_1 Calls_1 rest_1 Pre_1 Post := by
  intro l hfl _ _ p e ha hc hk s m args below hf hA hF happ hP
  obtain ⟨hcalls, hrest, hpre⟩ := hP
  obtain ⟨-, -, -, hnamed, -, -, -, hat⟩ := (Spec.applies_iff hf).mp happ
  obtain ⟨hg, hn⟩ := and_e (Cond.before_iff.mp (show (Jvm.Cond.and given_1 narrow_1).before args s = true from hpre))
  obtain ⟨hcount, hk0⟩ := and_e hg
  obtain ⟨ha0, hk1⟩ := and_e hk0
  obtain ⟨ha1, hk2⟩ := and_e hk1
  obtain ⟨ha2, hk3⟩ := and_e hk2
  obtain ⟨ha3, hk4⟩ := and_e hk3
  have ha4 := hk4
  obtain ⟨w0, w1, w2, w3, w4, rfl⟩ : ∃ w0 w1 w2 w3 w4 : Value, args = #[w0, w1, w2, w3, w4] := by
    have hs : args.size = 5 := by simpa [Cond.value, given_1] using hcount
    obtain ⟨L⟩ := args
    match L, hs with
    | [w0, w1, w2, w3, w4], _ => exact ⟨w0, w1, w2, w3, w4, rfl⟩
  have hw := fun d (hd : d ∈ tables_1) => atoms_spec (ws := Jvm.Cond.code x code maxLocals ret :: tables_1) hat d (List.mem_cons_of_mem _ hd)
  have hfit : Fit s := fun {y c} hc i hi => by
    obtain ⟨ha, rfl⟩ := Array.getElem?_eq_some_iff.mp hc
    have q := List.all_eq_true.mp ((Array.all_eq_true_iff_forall_mem.mp hF) _ (Array.getElem_mem ha)) i (List.mem_range.mpr hi)
    simpa [Array.getElem?_eq_getElem hi] using q
  obtain ⟨hsets, hown0⟩ := atoms_of _ (rest_1_c_eq ▸ (show rest_1_c.before _ s = true from hrest))
  obtain ⟨i0, ei0⟩ := is_v ha0
  obtain rfl : w0 = (.int i0) := Option.some.inj ei0
  obtain ⟨i1, ei1⟩ := is_v ha1
  obtain rfl : w1 = (.int i1) := Option.some.inj ei1
  obtain ⟨i2, ei2⟩ := is_v ha2
  obtain rfl : w2 = (.int i2) := Option.some.inj ei2
  obtain ⟨i3, ei3⟩ := is_v ha3
  obtain rfl : w3 = (.int i3) := Option.some.inj ei3
  obtain ⟨i4, ei4⟩ := is_v ha4
  obtain rfl : w4 = (.int i4) := Option.some.inj ei4
  obtain ⟨zc, ezc⟩ := is_v (Cond.before_iff.mp (hsets _ (List.mem_of_getElem? (i := 1) rfl)))
  have Sz := Sta.start ezc (Or.inl (hsets _ (List.mem_of_getElem? (i := 0) rfl)))
  have hzc : ¬ zc = 0 := gotF (Cond.eq_ints ezc (Term.int_eval (0))) (not_v (Cond.before_iff.mp (hsets _ (List.mem_of_getElem? (i := 2) rfl))))
  obtain ⟨fm, efm, rf⟩ := isR_v (Cond.before_iff.mp (hsets _ (List.mem_of_getElem? (i := 8) rfl)))
  have Sf := Sta.start efm (Or.inl (hsets _ (List.mem_of_getElem? (i := 7) rfl)))
  have Sd := Sta.start (eqv_i (Term.int_eval (1)) (Cond.before_iff.mp (hsets _ (List.mem_of_getElem? (i := 12) rfl)))) (Or.inl (hsets _ (List.mem_of_getElem? (i := 11) rfl)))
  have Sh := Sta.start (eqv_i (Term.int_eval (0)) (Cond.before_iff.mp (hsets _ (List.mem_of_getElem? (i := 15) rfl)))) (Or.inl (hsets _ (List.mem_of_getElem? (i := 14) rfl)))
  have Sl := Sta.start (eqv_i (Term.int_eval (8)) (Cond.before_iff.mp (hsets _ (List.mem_of_getElem? (i := 18) rfl)))) (Or.inl (hsets _ (List.mem_of_getElem? (i := 17) rfl)))
  have hCH : CHv s own_EL s.vm s.heap := CHv.start (own_EW hw) (fun pp hpp => hcalls.1 pp ((by decide : ∀ q ∈ own_EL, q ∈ consts_1) pp hpp)) (hsets _ (List.mem_of_getElem? (i := 2) rfl)) (hw _ (List.mem_of_getElem? (i := 27) rfl)) (hw _ (List.mem_of_getElem? (i := 9) rfl))
  obtain ⟨n, o, h1, h2, h3, _, L, rfl, ⟨rfl, N⟩, _, hq⟩ := rm0 l s _ hw tables_1 i0 i1 i2 i3 i4 zc fm s.heap s.heap.size (Nat.le_refl _) (Old.start s) Sz hzc Sf rf Sd Sh Sl p e ha hc hk s m _ below hf ((Spec.applies_iff_loose hf).mp happ).1 ⟨rfl, State.Warmed39.refl s, rfl, hCH⟩ trivial
  refine ⟨n, _, h1, h2, h3, hpost _ _ _ _ _ _ ⟨Cond.after_iff.mpr rfl, Cond.after_iff.mpr (eq_i res_at (Term.int_eval (1)) rfl), trivial⟩ ⟨hq.1, hq.2.1, hq.2.2.1, (hq.2.2.2.sift fun y hy => Or.inr (N y hy)).mono (by decide) (by decide)⟩⟩
theorem main_1_1 : Claimed_1_1 := comes_1 fun _ _ _ _ _ _ h hF => ⟨h.1, hF⟩
theorem main_1_2 : Claimed_1_2 := comes_1 fun _ _ _ _ _ _ h hF => ⟨h.2.1, hF⟩
end Jvm.Pilot.@@N@@
namespace Jvm.Pilot.@@N@@
open Jvm Jvm.ClassFile Sem Op Lib Jvm.Free Jvm.Stand Jvm.Pilot.@@N@@.Jvm.D
/-! MADE BY PROGRAM (witnessworld.py) out of the Statement's table words and the real class files: 21 classes; the members and pool entries that the words name. The judged class is class 1, her method 6. -/
namespace start1
open Jvm.ClassFile
def u (s : String) : CpInfo := .utf8 (stringToUtf16 s)
/-- a pool by its gaps: so many unusable entries, then the entry; so many at the end -/
def gap : Nat → List CpInfo → List CpInfo
  | 0, r => r
  | n + 1, r => .unusable :: gap n r
def poolList (es : List (Nat × CpInfo)) (last : Nat) : List CpInfo := es.foldr (fun e r => gap e.1 (e.2 :: r)) (gap last [])
def pool (es : List (Nat × CpInfo)) (last : Nat) : Array CpInfo := ⟨poolList es last⟩
def fileOf (pool : Array CpInfo) (this : Nat) (attrs : Array Attribute := #[]) (ms : Array MethodInfo := #[]) (fl : Nat := 33) (sup : Nat := 0) (ifs : Array Nat := #[]) (fds : Array FieldInfo := #[]) : ClassFile where
  minorVersion := 0
  majorVersion := 65
  constantPool := pool
  accessFlags := fl
  thisClass := this
  superClass := sup
  interfaces := ifs
  fields := fds
  methods := ms
  attributes := attrs
def plain (name : String) (sup : Option ClassId) : Class where
  name := name
  kind := .ordinary
  loader := none
  accessFlags := 33
  super := sup
  interfaces := #[]
  cf := none
  fields := #[]
  methods := #[]
  instanceTypes := #[]
  staticTypes := #[]
  resolved := #[]
  callSites := []
  init := .initialized
  statics := none
  mirror := none

def pool0 : Array CpInfo := pool [(5, u "<init>"), (0, u "()V"), (1, .class_ 10), (1, u "java/lang/Object")] 113

def k0c0 : Code := { maxStack := 0, maxLocals := 1, code := object_method_1_code, exceptionTable := #[], attributes := #[] }
def k0m0 : Method := { name := "<init>", desc := "()V", sig := { parameters := [], returnType := none }, accessFlags := 1, code := some k0c0 }
/-- java/lang/Object -/
def k0 : Class := { plain "java/lang/Object" none with
  accessFlags := 33
  interfaces := #[]
  cf := some (fileOf pool0 8 #[] #[{ accessFlags := 1, nameIndex := 5, descriptorIndex := 6, attributes := #[] }] 33 0 #[] #[])
  fields := #[]
  methods := #[k0m0]
  instanceTypes := #[]
  staticTypes := #[]
  resolved := Array.replicate 124 none
  statics := none }

def pool1 : Array CpInfo := pool [(2, .class_ 4), (1, u "java/lang/Object"), (0, u "<init>"), (0, u "()V"), (0, .methodref 8 9), (0, .class_ 10), (0, .nameAndType 11 12), (0, u "com/example/eslabon/eslabon/CodeChallengeMethodIsWellFormedPinLaw"), (0, u "unreserved"), (0, u "(C)Z"), (0, .string 14), (0, u ""), (0, .methodref 16 17), (0, .class_ 18), (0, .nameAndType 19 20), (0, u "java/lang/String"), (0, u "valueOf"), (0, u "(C)Ljava/lang/String;"), (0, .methodref 16 22), (0, .nameAndType 5 23), (0, u "([C)V"), (0, .methodref 8 25), (0, .nameAndType 26 27), (0, u "len42"), (0, u "(CCCC)[C"), (0, .methodref 8 29), (0, .nameAndType 30 27), (0, u "len43"), (0, .methodref 8 32), (0, .nameAndType 33 27), (0, u "len128"), (0, .methodref 8 35), (0, .nameAndType 36 27), (0, u "len129"), (0, .methodref 38 39), (0, .class_ 40), (0, .nameAndType 41 42), (0, u "com/example/eslabon/eslabon/CodeChallengeMethod"), (0, u "isWellFormed"), (0, u "(Ljava/lang/String;)Z"), (3, u "law"), (0, u "(IIIII)Z")] 2

def k1m0 : Method := { name := "<init>", desc := "()V", sig := { parameters := [], returnType := none }, accessFlags := 2, code := none }
def k1c1 : Code := { maxStack := 2, maxLocals := 2, code := method_2_code, exceptionTable := #[], attributes := #[] }
def k1m1 : Method := { name := "unreserved", desc := "(C)Z", sig := { parameters := [.char], returnType := some .boolean }, accessFlags := 10, code := some k1c1 }
def k1c2 : Code := { maxStack := 4, maxLocals := 4, code := method_3_code, exceptionTable := #[], attributes := #[] }
def k1m2 : Method := { name := "len42", desc := "(CCCC)[C", sig := { parameters := [.char, .char, .char, .char], returnType := some (.array .char) }, accessFlags := 10, code := some k1c2 }
def k1c3 : Code := { maxStack := 4, maxLocals := 4, code := method_4_code, exceptionTable := #[], attributes := #[] }
def k1m3 : Method := { name := "len43", desc := "(CCCC)[C", sig := { parameters := [.char, .char, .char, .char], returnType := some (.array .char) }, accessFlags := 10, code := some k1c3 }
def k1c4 : Code := { maxStack := 4, maxLocals := 4, code := method_5_code, exceptionTable := #[], attributes := #[] }
def k1m4 : Method := { name := "len128", desc := "(CCCC)[C", sig := { parameters := [.char, .char, .char, .char], returnType := some (.array .char) }, accessFlags := 10, code := some k1c4 }
def k1c5 : Code := { maxStack := 4, maxLocals := 4, code := method_6_code, exceptionTable := #[], attributes := #[] }
def k1m5 : Method := { name := "len129", desc := "(CCCC)[C", sig := { parameters := [.char, .char, .char, .char], returnType := some (.array .char) }, accessFlags := 10, code := some k1c5 }
def k1c6 : Code := { maxStack := 6, maxLocals := 13, code := code, exceptionTable := #[], attributes := #[] }
def k1m6 : Method := { name := "law", desc := "(IIIII)Z", sig := { parameters := [.int, .int, .int, .int, .int], returnType := some .boolean }, accessFlags := 9, code := some k1c6 }
/-- com/example/eslabon/eslabon/CodeChallengeMethodIsWellFormedPinLaw -/
def k1 : Class := { plain "com/example/eslabon/eslabon/CodeChallengeMethodIsWellFormedPinLaw" (some 0) with
  accessFlags := 49
  interfaces := #[]
  cf := some (fileOf pool1 8 #[] #[{ accessFlags := 2, nameIndex := 5, descriptorIndex := 6, attributes := #[] }, { accessFlags := 10, nameIndex := 11, descriptorIndex := 12, attributes := #[] }, { accessFlags := 10, nameIndex := 26, descriptorIndex := 27, attributes := #[] }, { accessFlags := 10, nameIndex := 30, descriptorIndex := 27, attributes := #[] }, { accessFlags := 10, nameIndex := 33, descriptorIndex := 27, attributes := #[] }, { accessFlags := 10, nameIndex := 36, descriptorIndex := 27, attributes := #[] }, { accessFlags := 9, nameIndex := 46, descriptorIndex := 47, attributes := #[] }] 49 2 #[] #[])
  fields := #[]
  methods := #[k1m0, k1m1, k1m2, k1m3, k1m4, k1m5, k1m6]
  instanceTypes := #[]
  staticTypes := #[]
  resolved := Array.replicate 50 none
  statics := none }

def pool2 : Array CpInfo := pool [(1, .class_ 2), (0, u "java/lang/constant/Constable"), (0, .class_ 4), (0, u "java/lang/Object")] 6

/-- java/lang/constant/Constable -/
def k2 : Class := { plain "java/lang/constant/Constable" (some 0) with
  accessFlags := 1537
  interfaces := #[]
  cf := some (fileOf pool2 1 #[] #[] 1537 3 #[] #[])
  fields := #[]
  methods := #[]
  instanceTypes := #[]
  staticTypes := #[]
  resolved := Array.replicate 11 none
  statics := none }

def pool3 : Array CpInfo := pool [(1, .class_ 2), (0, u "java/lang/Comparable"), (0, .class_ 4), (0, u "java/lang/Object")] 7

/-- java/lang/Comparable -/
def k3 : Class := { plain "java/lang/Comparable" (some 0) with
  accessFlags := 1537
  interfaces := #[]
  cf := some (fileOf pool3 1 #[] #[] 1537 3 #[] #[])
  fields := #[]
  methods := #[]
  instanceTypes := #[]
  staticTypes := #[]
  resolved := Array.replicate 12 none
  statics := none }

def pool4 : Array CpInfo := pool [(1, .class_ 2), (0, u "java/io/Serializable"), (0, .class_ 4), (0, u "java/lang/Object")] 2

/-- java/io/Serializable -/
def k4 : Class := { plain "java/io/Serializable" (some 0) with
  accessFlags := 1537
  interfaces := #[]
  cf := some (fileOf pool4 1 #[] #[] 1537 3 #[] #[])
  fields := #[]
  methods := #[]
  instanceTypes := #[]
  staticTypes := #[]
  resolved := Array.replicate 7 none
  statics := none }

def pool5 : Array CpInfo := pool [(2, .class_ 4), (1, u "java/lang/Enum"), (0, u "name"), (0, u "Ljava/lang/String;"), (2, u "ordinal"), (0, u "I"), (1, .class_ 14), (1, u "java/lang/Object"), (4, u "hash"), (86, .class_ 108), (1, u "java/lang/Enum$EnumDesc"), (2, .class_ 112), (0, u "java/lang/constant/Constable"), (0, .class_ 114), (0, u "java/lang/Comparable"), (0, .class_ 116), (0, u "java/io/Serializable")] 87

/-- java/lang/Enum -/
def k5 : Class := { plain "java/lang/Enum" (some 0) with
  accessFlags := 1057
  interfaces := #[2, 3, 4]
  cf := some (fileOf pool5 2 #[.nestMembers #[106]] #[] 1057 12 #[111, 113, 115] #[{ accessFlags := 18, nameIndex := 5, descriptorIndex := 6, attributes := #[] }, { accessFlags := 18, nameIndex := 9, descriptorIndex := 10, attributes := #[] }, { accessFlags := 2, nameIndex := 19, descriptorIndex := 10, attributes := #[] }])
  fields := #[{ name := "name", type := (.object "java/lang/String"), accessFlags := 18, slot := 0, constantValue := 0 }, { name := "ordinal", type := .int, accessFlags := 18, slot := 1, constantValue := 0 }, { name := "hash", type := .int, accessFlags := 2, slot := 2, constantValue := 0 }]
  methods := #[]
  instanceTypes := #[(.object "java/lang/String"), .int, .int]
  staticTypes := #[]
  resolved := Array.replicate 204 none
  statics := none }

def pool6 : Array CpInfo := pool [(1, .class_ 2), (0, u "com/example/eslabon/eslabon/CodeChallengeMethod"), (2, u "PLAIN"), (0, u "Lcom/example/eslabon/eslabon/CodeChallengeMethod;"), (2, u "S256"), (2, u "$VALUES"), (0, u "[Lcom/example/eslabon/eslabon/CodeChallengeMethod;"), (6, .class_ 22), (1, u "java/lang/Enum"), (8, u "parameterValue"), (0, u "Ljava/lang/String;"), (16, .class_ 51), (1, u "java/lang/String"), (11, .methodref 49 64), (0, .nameAndType 65 66), (0, u "length"), (0, u "()I"), (0, .methodref 49 68), (0, .nameAndType 69 70), (0, u "charAt"), (0, u "(I)C"), (0, .methodref 1 72), (0, .nameAndType 73 74), (0, u "isUnreserved"), (0, u "(C)Z"), (8, u "isWellFormed"), (0, u "(Ljava/lang/String;)Z"), (46, u "MIN_LENGTH"), (0, u "I"), (2, u "MAX_LENGTH")] 21

def k6c0 : Code := { maxStack := 2, maxLocals := 2, code := prog_3_method_7_code, exceptionTable := #[], attributes := #[] }
def k6m0 : Method := { name := "isWellFormed", desc := "(Ljava/lang/String;)Z", sig := { parameters := [(.object "java/lang/String")], returnType := some .boolean }, accessFlags := 8, code := some k6c0 }
def k6c1 : Code := { maxStack := 2, maxLocals := 1, code := prog_3_method_10_code, exceptionTable := #[], attributes := #[] }
def k6m1 : Method := { name := "isUnreserved", desc := "(C)Z", sig := { parameters := [.char], returnType := some .boolean }, accessFlags := 10, code := some k6c1 }
/-- com/example/eslabon/eslabon/CodeChallengeMethod -/
def k6 : Class := { plain "com/example/eslabon/eslabon/CodeChallengeMethod" (some 5) with
  accessFlags := 16432
  interfaces := #[]
  cf := some (fileOf pool6 1 #[] #[{ accessFlags := 8, nameIndex := 83, descriptorIndex := 84, attributes := #[] }, { accessFlags := 10, nameIndex := 73, descriptorIndex := 74, attributes := #[] }] 16432 20 #[] #[{ accessFlags := 16409, nameIndex := 5, descriptorIndex := 6, attributes := #[] }, { accessFlags := 16409, nameIndex := 9, descriptorIndex := 6, attributes := #[] }, { accessFlags := 26, nameIndex := 131, descriptorIndex := 132, attributes := #[] }, { accessFlags := 26, nameIndex := 135, descriptorIndex := 132, attributes := #[] }, { accessFlags := 18, nameIndex := 31, descriptorIndex := 32, attributes := #[] }, { accessFlags := 4122, nameIndex := 12, descriptorIndex := 13, attributes := #[] }])
  fields := #[{ name := "PLAIN", type := (.object "com/example/eslabon/eslabon/CodeChallengeMethod"), accessFlags := 16409, slot := 0, constantValue := 0 }, { name := "S256", type := (.object "com/example/eslabon/eslabon/CodeChallengeMethod"), accessFlags := 16409, slot := 1, constantValue := 0 }, { name := "MIN_LENGTH", type := .int, accessFlags := 26, slot := 2, constantValue := 0 }, { name := "MAX_LENGTH", type := .int, accessFlags := 26, slot := 3, constantValue := 0 }, { name := "parameterValue", type := (.object "java/lang/String"), accessFlags := 18, slot := 3, constantValue := 0 }, { name := "$VALUES", type := (.array (.object "com/example/eslabon/eslabon/CodeChallengeMethod")), accessFlags := 4122, slot := 4, constantValue := 0 }]
  methods := #[k6m0, k6m1]
  instanceTypes := #[(.object "java/lang/String"), .int, .int, (.object "java/lang/String")]
  staticTypes := #[(.object "com/example/eslabon/eslabon/CodeChallengeMethod"), (.object "com/example/eslabon/eslabon/CodeChallengeMethod"), .int, .int, (.array (.object "com/example/eslabon/eslabon/CodeChallengeMethod"))]
  resolved := Array.replicate 157 none
  statics := none }

def pool7 : Array CpInfo := pool [(2, .class_ 4), (1, u "java/lang/CharSequence"), (42, .class_ 48), (0, u "java/lang/CharSequence$1CodePointIterator"), (10, .class_ 60), (0, u "java/lang/CharSequence$1CharIterator"), (5, .class_ 67), (0, u "java/lang/Object")] 63

/-- java/lang/CharSequence -/
def k7 : Class := { plain "java/lang/CharSequence" (some 0) with
  accessFlags := 1537
  interfaces := #[]
  cf := some (fileOf pool7 2 #[.nestMembers #[47, 59]] #[] 1537 66 #[] #[])
  fields := #[]
  methods := #[]
  instanceTypes := #[]
  staticTypes := #[]
  resolved := Array.replicate 131 none
  statics := none }

def pool8 : Array CpInfo := pool [(1, .class_ 2), (0, u "java/lang/constant/ConstantDesc"), (0, .class_ 4), (0, u "java/lang/Object")] 32

/-- java/lang/constant/ConstantDesc -/
def k8 : Class := { plain "java/lang/constant/ConstantDesc" (some 0) with
  accessFlags := 1537
  interfaces := #[]
  cf := some (fileOf pool8 1 #[] #[] 1537 3 #[] #[])
  fields := #[]
  methods := #[]
  instanceTypes := #[]
  staticTypes := #[]
  resolved := Array.replicate 37 none
  statics := none }

def pool9 : Array CpInfo := pool [(1, .methodref 2 3), (0, .class_ 4), (0, .nameAndType 5 6), (0, u "java/lang/Object"), (0, u "<init>"), (0, u "()V"), (2, .fieldref 10 11), (0, .class_ 12), (0, .nameAndType 13 14), (0, u "java/lang/String"), (0, u "value"), (0, u "[B"), (0, .fieldref 10 16), (0, .nameAndType 17 18), (0, u "coder"), (0, u "B"), (2, u "hash"), (0, u "I"), (2, u "hashIsZero"), (0, u "Z"), (0, .methodref 10 28), (0, .nameAndType 5 29), (0, u "([CIILjava/lang/Void;)V"), (8, .fieldref 10 39), (0, .nameAndType 40 26), (0, u "COMPACT_STRINGS"), (1, .class_ 44), (1, u "java/lang/StringUTF16"), (0, u "compress"), (1, .methodref 42 48), (0, .nameAndType 49 50), (0, u "coderFromArrayLen"), (0, u "([BI)B"), (2, u "toBytes"), (53, .class_ 109), (1, u "java/lang/StringLatin1"), (32, u "()Z"), (34, .methodref 42 178), (0, .nameAndType 45 179), (0, u "([CII)[B"), (29, .methodref 10 210), (0, .nameAndType 5 211), (0, u "([BB)V"), (122, u "()I"), (0, .methodref 10 336), (0, .nameAndType 17 337), (0, u "()B"), (25, u "([BI)C"), (5, u "(C)Z"), (21, u "(II)V"), (35, u "(I)C"), (64, .methodref 10 493), (0, .nameAndType 494 142), (0, u "isLatin1"), (0, .methodref 107 496), (0, .nameAndType 497 363), (0, u "charAt"), (0, .methodref 42 496), (2, u "checkIndex"), (5, u "length"), (67, .class_ 576), (0, u "java/lang/CharSequence"), (22, u "CASE_INSENSITIVE_ORDER"), (0, u "Ljava/util/Comparator;"), (181, u "valueOf"), (0, u "(C)Ljava/lang/String;"), (226, u "([C)V"), (4, .methodref 107 1016), (0, .nameAndType 1017 369), (0, u "canEncode"), (0, .methodref 107 1019), (0, .nameAndType 53 1020), (0, u "(C)[B"), (0, .methodref 42 1019), (31, .fieldref 1054 1055), (0, .class_ 1056), (0, .nameAndType 1057 1058), (0, u "jdk/internal/util/Preconditions"), (0, u "SIOOBE_FORMATTER"), (0, u "Ljava/util/function/BiFunction;"), (0, .methodref 1054 1060), (0, .nameAndType 501 1061), (0, u "(IILjava/util/function/BiFunction;)I"), (39, u "serialPersistentFields"), (0, u "[Ljava/io/ObjectStreamField;"), (0, .class_ 1104), (0, u "java/lang/String$CaseInsensitiveComparator"), (1, .class_ 1107), (0, u "java/io/Serializable"), (0, .class_ 1109), (0, u "java/lang/Comparable"), (0, .class_ 1111), (0, u "java/lang/constant/Constable"), (0, .class_ 1113), (0, u "java/lang/constant/ConstantDesc"), (2, u "serialVersionUID"), (0, u "J"), (3, u "REPL"), (0, u "C"), (2, u "LATIN1"), (1, u "UTF16")] 323

def k9m0 : Method := { name := "<init>", desc := "()V", sig := { parameters := [], returnType := none }, accessFlags := 1, code := none }
def k9c1 : Code := { maxStack := 5, maxLocals := 2, code := jdk_42_method_3_code, exceptionTable := #[], attributes := #[] }
def k9m1 : Method := { name := "<init>", desc := "([C)V", sig := { parameters := [(.array .char)], returnType := none }, accessFlags := 1, code := some k9c1 }
def k9c2 : Code := { maxStack := 2, maxLocals := 1, code := jdk_42_method_54_code, exceptionTable := #[], attributes := #[] }
def k9m2 : Method := { name := "length", desc := "()I", sig := { parameters := [], returnType := some .int }, accessFlags := 1, code := some k9c2 }
def k9c3 : Code := { maxStack := 2, maxLocals := 2, code := jdk_42_method_56_code, exceptionTable := #[], attributes := #[] }
def k9m3 : Method := { name := "charAt", desc := "(I)C", sig := { parameters := [.int], returnType := some .char }, accessFlags := 1, code := some k9c3 }
def k9c4 : Code := { maxStack := 4, maxLocals := 1, code := jdk_42_method_139_code, exceptionTable := #[], attributes := #[] }
def k9m4 : Method := { name := "valueOf", desc := "(C)Ljava/lang/String;", sig := { parameters := [.char], returnType := some (.object "java/lang/String") }, accessFlags := 9, code := some k9c4 }
def k9c5 : Code := { maxStack := 4, maxLocals := 6, code := jdk_42_method_149_code, exceptionTable := #[], attributes := #[] }
def k9m5 : Method := { name := "<init>", desc := "([CIILjava/lang/Void;)V", sig := { parameters := [(.array .char), .int, .int, (.object "java/lang/Void")], returnType := none }, accessFlags := 2, code := some k9c5 }
def k9c6 : Code := { maxStack := 2, maxLocals := 3, code := jdk_42_method_151_code, exceptionTable := #[], attributes := #[] }
def k9m6 : Method := { name := "<init>", desc := "([BB)V", sig := { parameters := [(.array .byte), .byte], returnType := none }, accessFlags := 0, code := some k9c6 }
def k9c7 : Code := { maxStack := 1, maxLocals := 1, code := jdk_42_method_152_code, exceptionTable := #[], attributes := #[] }
def k9m7 : Method := { name := "coder", desc := "()B", sig := { parameters := [], returnType := some .byte }, accessFlags := 0, code := some k9c7 }
def k9c8 : Code := { maxStack := 1, maxLocals := 1, code := jdk_42_method_154_code, exceptionTable := #[], attributes := #[] }
def k9m8 : Method := { name := "isLatin1", desc := "()Z", sig := { parameters := [], returnType := some .boolean }, accessFlags := 0, code := some k9c8 }
def k9c9 : Code := { maxStack := 3, maxLocals := 2, code := jdk_42_method_155_code, exceptionTable := #[], attributes := #[] }
def k9m9 : Method := { name := "checkIndex", desc := "(II)V", sig := { parameters := [.int, .int], returnType := none }, accessFlags := 8, code := some k9c9 }
/-- java/lang/String -/
def k9 : Class := { plain "java/lang/String" (some 0) with
  accessFlags := 49
  interfaces := #[4, 3, 7, 2, 8]
  cf := some (fileOf pool9 10 #[.nestMembers #[1103]] #[{ accessFlags := 1, nameIndex := 5, descriptorIndex := 6, attributes := #[] }, { accessFlags := 1, nameIndex := 5, descriptorIndex := 1010, attributes := #[] }, { accessFlags := 1, nameIndex := 507, descriptorIndex := 334, attributes := #[] }, { accessFlags := 1, nameIndex := 497, descriptorIndex := 427, attributes := #[] }, { accessFlags := 9, nameIndex := 782, descriptorIndex := 783, attributes := #[] }, { accessFlags := 2, nameIndex := 5, descriptorIndex := 29, attributes := #[] }, { accessFlags := 0, nameIndex := 5, descriptorIndex := 211, attributes := #[] }, { accessFlags := 0, nameIndex := 17, descriptorIndex := 337, attributes := #[] }, { accessFlags := 0, nameIndex := 494, descriptorIndex := 142, attributes := #[] }, { accessFlags := 8, nameIndex := 501, descriptorIndex := 391, attributes := #[] }] 49 2 #[1106, 1108, 575, 1110, 1112] #[{ accessFlags := 18, nameIndex := 13, descriptorIndex := 14, attributes := #[] }, { accessFlags := 18, nameIndex := 17, descriptorIndex := 18, attributes := #[] }, { accessFlags := 2, nameIndex := 21, descriptorIndex := 22, attributes := #[] }, { accessFlags := 2, nameIndex := 25, descriptorIndex := 26, attributes := #[] }, { accessFlags := 26, nameIndex := 1116, descriptorIndex := 1117, attributes := #[] }, { accessFlags := 24, nameIndex := 40, descriptorIndex := 26, attributes := #[] }, { accessFlags := 26, nameIndex := 1101, descriptorIndex := 1102, attributes := #[] }, { accessFlags := 26, nameIndex := 1121, descriptorIndex := 1122, attributes := #[] }, { accessFlags := 25, nameIndex := 599, descriptorIndex := 600, attributes := #[] }, { accessFlags := 24, nameIndex := 1125, descriptorIndex := 18, attributes := #[] }, { accessFlags := 24, nameIndex := 1127, descriptorIndex := 18, attributes := #[] }])
  fields := #[{ name := "value", type := (.array .byte), accessFlags := 18, slot := 0, constantValue := 0 }, { name := "coder", type := .byte, accessFlags := 18, slot := 1, constantValue := 0 }, { name := "hash", type := .int, accessFlags := 2, slot := 2, constantValue := 0 }, { name := "hashIsZero", type := .boolean, accessFlags := 2, slot := 3, constantValue := 0 }, { name := "serialVersionUID", type := .long, accessFlags := 26, slot := 0, constantValue := 0 }, { name := "COMPACT_STRINGS", type := .boolean, accessFlags := 24, slot := 1, constantValue := 0 }, { name := "serialPersistentFields", type := (.array (.object "java/io/ObjectStreamField")), accessFlags := 26, slot := 2, constantValue := 0 }, { name := "REPL", type := .char, accessFlags := 26, slot := 3, constantValue := 0 }, { name := "CASE_INSENSITIVE_ORDER", type := (.object "java/util/Comparator"), accessFlags := 25, slot := 4, constantValue := 0 }, { name := "LATIN1", type := .byte, accessFlags := 24, slot := 5, constantValue := 0 }, { name := "UTF16", type := .byte, accessFlags := 24, slot := 6, constantValue := 0 }]
  methods := #[k9m0, k9m1, k9m2, k9m3, k9m4, k9m5, k9m6, k9m7, k9m8, k9m9]
  instanceTypes := #[(.array .byte), .byte, .int, .boolean]
  staticTypes := #[.long, .boolean, (.array (.object "java/io/ObjectStreamField")), .char, (.object "java/util/Comparator"), .byte, .byte]
  resolved := Array.replicate 1451 none
  statics := some 0 }

def pool10 : Array CpInfo := pool [(3, .class_ 4), (0, u "java/lang/String"), (1, .class_ 8), (1, u "java/lang/Object"), (0, u "<init>"), (0, u "()V"), (0, .methodref 12 13), (0, .class_ 14), (0, .nameAndType 15 16), (0, u "java/lang/StringUTF16"), (0, u "newBytesLength"), (0, u "(I)I"), (3, .integer 1073741823), (23, .fieldref 12 45), (0, .nameAndType 46 47), (0, u "$assertionsDisabled"), (0, u "Z"), (0, .methodref 12 49), (0, .nameAndType 50 51), (0, u "length"), (0, u "([B)I"), (7, .fieldref 12 60), (0, .nameAndType 61 62), (0, u "HI_BYTE_SHIFT"), (0, u "I"), (0, .fieldref 12 64), (0, .nameAndType 65 62), (0, u "LO_BYTE_SHIFT"), (1, .methodref 12 68), (0, .nameAndType 69 70), (0, u "checkIndex"), (0, u "(I[B)V"), (0, .methodref 12 72), (0, .nameAndType 73 74), (0, u "getChar"), (0, u "([BI)C"), (32, .methodref 12 108), (0, .nameAndType 109 110), (0, u "newBytesFor"), (0, u "(I)[B"), (0, .methodref 12 112), (0, .nameAndType 113 114), (0, u "putChar"), (0, u "([BII)V"), (0, .methodref 12 116), (0, .nameAndType 117 118), (0, u "compress"), (0, u "([CI[BII)I"), (0, .methodref 12 120), (0, .nameAndType 121 122), (0, u "toBytes"), (0, u "([CII)[B"), (138, u "coderFromArrayLen"), (0, u "([BI)B"), (106, .class_ 371), (1, u "java/lang/StringUTF16$LinesSpliterator"), (20, u "charAt"), (21, .methodref 3 415), (0, .nameAndType 69 416), (0, u "(II)V"), (13, u "MAX_LENGTH"), (44, u "(C)[B"), (151, .class_ 628), (0, u "java/lang/StringUTF16$CodePointsSpliterator"), (0, .class_ 630), (0, u "java/lang/StringUTF16$CharsSpliterator")] 4

def k10m0 : Method := { name := "<init>", desc := "()V", sig := { parameters := [], returnType := none }, accessFlags := 0, code := none }
def k10c1 : Code := { maxStack := 1, maxLocals := 1, code := jdk_52_method_2_code, exceptionTable := #[], attributes := #[] }
def k10m1 : Method := { name := "newBytesFor", desc := "(I)[B", sig := { parameters := [.int], returnType := some (.array .byte) }, accessFlags := 9, code := some k10c1 }
def k10c2 : Code := { maxStack := 4, maxLocals := 1, code := jdk_52_method_3_code, exceptionTable := #[], attributes := #[] }
def k10m2 : Method := { name := "newBytesLength", desc := "(I)I", sig := { parameters := [.int], returnType := some .int }, accessFlags := 9, code := some k10c2 }
def k10c3 : Code := { maxStack := 4, maxLocals := 3, code := jdk_52_method_4_code, exceptionTable := #[], attributes := #[] }
def k10m3 : Method := { name := "putChar", desc := "([BII)V", sig := { parameters := [(.array .byte), .int, .int], returnType := none }, accessFlags := 8, code := some k10c3 }
def k10c4 : Code := { maxStack := 3, maxLocals := 2, code := jdk_52_method_5_code, exceptionTable := #[], attributes := #[] }
def k10m4 : Method := { name := "getChar", desc := "([BI)C", sig := { parameters := [(.array .byte), .int], returnType := some .char }, accessFlags := 8, code := some k10c4 }
def k10c5 : Code := { maxStack := 2, maxLocals := 1, code := jdk_52_method_6_code, exceptionTable := #[], attributes := #[] }
def k10m5 : Method := { name := "length", desc := "([B)I", sig := { parameters := [(.array .byte)], returnType := some .int }, accessFlags := 9, code := some k10c5 }
def k10c6 : Code := { maxStack := 4, maxLocals := 5, code := jdk_52_method_14_code, exceptionTable := #[], attributes := #[] }
def k10m6 : Method := { name := "toBytes", desc := "([CII)[B", sig := { parameters := [(.array .char), .int, .int], returnType := some (.array .byte) }, accessFlags := 9, code := some k10c6 }
def k10c7 : Code := { maxStack := 2, maxLocals := 2, code := jdk_52_method_15_code, exceptionTable := #[], attributes := #[] }
def k10m7 : Method := { name := "coderFromArrayLen", desc := "([BI)B", sig := { parameters := [(.array .byte), .int], returnType := some .byte }, accessFlags := 8, code := some k10c7 }
def k10c8 : Code := { maxStack := 5, maxLocals := 6, code := jdk_52_method_16_code, exceptionTable := #[], attributes := #[] }
def k10m8 : Method := { name := "compress", desc := "([CII)[B", sig := { parameters := [(.array .char), .int, .int], returnType := some (.array .byte) }, accessFlags := 9, code := some k10c8 }
def k10c9 : Code := { maxStack := 3, maxLocals := 7, code := jdk_52_method_21_code, exceptionTable := #[], attributes := #[] }
def k10m9 : Method := { name := "compress", desc := "([CI[BII)I", sig := { parameters := [(.array .char), .int, (.array .byte), .int, .int], returnType := some .int }, accessFlags := 9, code := some k10c9 }
def k10c10 : Code := { maxStack := 3, maxLocals := 2, code := jdk_52_method_24_code, exceptionTable := #[], attributes := #[] }
def k10m10 : Method := { name := "toBytes", desc := "(C)[B", sig := { parameters := [.char], returnType := some (.array .byte) }, accessFlags := 9, code := some k10c10 }
def k10c11 : Code := { maxStack := 2, maxLocals := 2, code := jdk_52_method_83_code, exceptionTable := #[], attributes := #[] }
def k10m11 : Method := { name := "charAt", desc := "([BI)C", sig := { parameters := [(.array .byte), .int], returnType := some .char }, accessFlags := 9, code := some k10c11 }
def k10c12 : Code := { maxStack := 2, maxLocals := 2, code := jdk_52_method_91_code, exceptionTable := #[], attributes := #[] }
def k10m12 : Method := { name := "checkIndex", desc := "(I[B)V", sig := { parameters := [.int, (.array .byte)], returnType := none }, accessFlags := 9, code := some k10c12 }
/-- java/lang/StringUTF16 -/
def k10 : Class := { plain "java/lang/StringUTF16" (some 0) with
  accessFlags := 48
  interfaces := #[]
  cf := some (fileOf pool10 12 #[.nestMembers #[627, 629, 369]] #[{ accessFlags := 0, nameIndex := 9, descriptorIndex := 10, attributes := #[] }, { accessFlags := 9, nameIndex := 109, descriptorIndex := 110, attributes := #[] }, { accessFlags := 9, nameIndex := 15, descriptorIndex := 16, attributes := #[] }, { accessFlags := 8, nameIndex := 113, descriptorIndex := 114, attributes := #[] }, { accessFlags := 8, nameIndex := 73, descriptorIndex := 74, attributes := #[] }, { accessFlags := 9, nameIndex := 50, descriptorIndex := 51, attributes := #[] }, { accessFlags := 9, nameIndex := 121, descriptorIndex := 122, attributes := #[] }, { accessFlags := 8, nameIndex := 261, descriptorIndex := 262, attributes := #[] }, { accessFlags := 9, nameIndex := 117, descriptorIndex := 122, attributes := #[] }, { accessFlags := 9, nameIndex := 117, descriptorIndex := 118, attributes := #[] }, { accessFlags := 9, nameIndex := 121, descriptorIndex := 475, attributes := #[] }, { accessFlags := 9, nameIndex := 392, descriptorIndex := 74, attributes := #[] }, { accessFlags := 9, nameIndex := 69, descriptorIndex := 70, attributes := #[] }] 48 6 #[] #[{ accessFlags := 26, nameIndex := 61, descriptorIndex := 62, attributes := #[] }, { accessFlags := 26, nameIndex := 65, descriptorIndex := 62, attributes := #[] }, { accessFlags := 24, nameIndex := 430, descriptorIndex := 62, attributes := #[] }, { accessFlags := 4120, nameIndex := 46, descriptorIndex := 47, attributes := #[] }])
  fields := #[{ name := "HI_BYTE_SHIFT", type := .int, accessFlags := 26, slot := 0, constantValue := 0 }, { name := "LO_BYTE_SHIFT", type := .int, accessFlags := 26, slot := 1, constantValue := 0 }, { name := "MAX_LENGTH", type := .int, accessFlags := 24, slot := 2, constantValue := 0 }, { name := "$assertionsDisabled", type := .boolean, accessFlags := 4120, slot := 3, constantValue := 0 }]
  methods := #[k10m0, k10m1, k10m2, k10m3, k10m4, k10m5, k10m6, k10m7, k10m8, k10m9, k10m10, k10m11, k10m12]
  instanceTypes := #[]
  staticTypes := #[.int, .int, .int, .boolean]
  resolved := Array.replicate 635 none
  statics := some 1 }

def pool11 : Array CpInfo := pool [(1, .class_ 2), (0, u "java/lang/String"), (1, .class_ 6), (1, u "java/lang/Object"), (0, u "<init>"), (0, u "()V"), (0, .methodref 1 10), (0, .nameAndType 11 12), (0, u "checkIndex"), (0, u "(II)V"), (1, .class_ 16), (1, u "java/lang/StringLatin1"), (36, u "([BI)C"), (36, u "canEncode"), (14, u "(C)Z"), (15, u "$assertionsDisabled"), (0, u "Z"), (98, .class_ 223), (1, u "java/lang/StringLatin1$LinesSpliterator"), (28, u "charAt"), (127, u "toBytes"), (1, u "(C)[B"), (7, .class_ 391), (0, u "java/lang/StringLatin1$CharsSpliterator")] 3

def k11m0 : Method := { name := "<init>", desc := "()V", sig := { parameters := [], returnType := none }, accessFlags := 0, code := none }
def k11c1 : Code := { maxStack := 2, maxLocals := 2, code := jdk_43_method_2_code, exceptionTable := #[], attributes := #[] }
def k11m1 : Method := { name := "charAt", desc := "([BI)C", sig := { parameters := [(.array .byte), .int], returnType := some .char }, accessFlags := 9, code := some k11c1 }
def k11c2 : Code := { maxStack := 2, maxLocals := 1, code := jdk_43_method_3_code, exceptionTable := #[], attributes := #[] }
def k11m2 : Method := { name := "canEncode", desc := "(C)Z", sig := { parameters := [.char], returnType := some .boolean }, accessFlags := 9, code := some k11c2 }
def k11c3 : Code := { maxStack := 4, maxLocals := 1, code := jdk_43_method_46_code, exceptionTable := #[], attributes := #[] }
def k11m3 : Method := { name := "toBytes", desc := "(C)[B", sig := { parameters := [.char], returnType := some (.array .byte) }, accessFlags := 9, code := some k11c3 }
/-- java/lang/StringLatin1 -/
def k11 : Class := { plain "java/lang/StringLatin1" (some 0) with
  accessFlags := 48
  interfaces := #[]
  cf := some (fileOf pool11 14 #[.nestMembers #[390, 221]] #[{ accessFlags := 0, nameIndex := 7, descriptorIndex := 8, attributes := #[] }, { accessFlags := 9, nameIndex := 252, descriptorIndex := 53, attributes := #[] }, { accessFlags := 9, nameIndex := 90, descriptorIndex := 105, attributes := #[] }, { accessFlags := 9, nameIndex := 380, descriptorIndex := 382, attributes := #[] }] 48 4 #[] #[{ accessFlags := 4120, nameIndex := 121, descriptorIndex := 122, attributes := #[] }])
  fields := #[{ name := "$assertionsDisabled", type := .boolean, accessFlags := 4120, slot := 0, constantValue := 0 }]
  methods := #[k11m0, k11m1, k11m2, k11m3]
  instanceTypes := #[]
  staticTypes := #[.boolean]
  resolved := Array.replicate 395 none
  statics := none }

def pool12 : Array CpInfo := pool [(2, .class_ 4), (1, u "java/lang/Object"), (0, u "<init>"), (0, u "()V"), (17, .class_ 26), (1, u "jdk/internal/util/Preconditions"), (6, u "checkIndex"), (21, .class_ 56), (0, u "jdk/internal/util/Preconditions$4"), (57, .class_ 115), (0, u "jdk/internal/util/Preconditions$1"), (7, u "SIOOBE_FORMATTER"), (0, u "Ljava/util/function/BiFunction;"), (0, .class_ 126), (0, u "jdk/internal/util/Preconditions$2"), (3, u "AIOOBE_FORMATTER"), (0, .class_ 132), (0, u "jdk/internal/util/Preconditions$3"), (3, u "IOOBE_FORMATTER"), (41, u "(IILjava/util/function/BiFunction;)I")] 15

def k12m0 : Method := { name := "<init>", desc := "()V", sig := { parameters := [], returnType := none }, accessFlags := 1, code := none }
def k12c1 : Code := { maxStack := 3, maxLocals := 3, code := jdk_41_method_11_code, exceptionTable := #[], attributes := #[] }
def k12m1 : Method := { name := "checkIndex", desc := "(IILjava/util/function/BiFunction;)I", sig := { parameters := [.int, .int, (.object "java/util/function/BiFunction")], returnType := some .int }, accessFlags := 9, code := some k12c1 }
/-- jdk/internal/util/Preconditions -/
def k12 : Class := { plain "jdk/internal/util/Preconditions" (some 0) with
  accessFlags := 33
  interfaces := #[]
  cf := some (fileOf pool12 24 #[.nestMembers #[55, 131, 125, 114]] #[{ accessFlags := 1, nameIndex := 5, descriptorIndex := 6, attributes := #[] }, { accessFlags := 9, nameIndex := 33, descriptorIndex := 178, attributes := #[] }] 33 2 #[] #[{ accessFlags := 25, nameIndex := 123, descriptorIndex := 124, attributes := #[] }, { accessFlags := 25, nameIndex := 130, descriptorIndex := 124, attributes := #[] }, { accessFlags := 25, nameIndex := 136, descriptorIndex := 124, attributes := #[] }])
  fields := #[{ name := "SIOOBE_FORMATTER", type := (.object "java/util/function/BiFunction"), accessFlags := 25, slot := 0, constantValue := 0 }, { name := "AIOOBE_FORMATTER", type := (.object "java/util/function/BiFunction"), accessFlags := 25, slot := 1, constantValue := 0 }, { name := "IOOBE_FORMATTER", type := (.object "java/util/function/BiFunction"), accessFlags := 25, slot := 2, constantValue := 0 }]
  methods := #[k12m0, k12m1]
  instanceTypes := #[]
  staticTypes := #[(.object "java/util/function/BiFunction"), (.object "java/util/function/BiFunction"), (.object "java/util/function/BiFunction")]
  resolved := Array.replicate 194 none
  statics := some 2 }

def pool13 : Array CpInfo := pool [(9, u "<init>"), (6, .class_ 18), (1, u "java/lang/Object"), (0, u "()V"), (1, .class_ 23), (1, u "jdk/internal/util/ArraysSupport"), (0, u "LOG2_ARRAY_LONG_INDEX_SCALE"), (0, u "I"), (2, u "U"), (0, u "Ljdk/internal/misc/Unsafe;"), (8, u "BIG_ENDIAN"), (0, u "Z"), (8, u "LOG2_BYTE_BIT_SIZE"), (4, u "LOG2_ARRAY_INT_INDEX_SCALE"), (54, u "JLA"), (0, u "Ljdk/internal/access/JavaLangAccess;"), (11, u "LOG2_ARRAY_BOOLEAN_INDEX_SCALE"), (9, u "LOG2_ARRAY_BYTE_INDEX_SCALE"), (5, u "LOG2_ARRAY_CHAR_INDEX_SCALE"), (5, u "LOG2_ARRAY_SHORT_INDEX_SCALE"), (18, u "LOG2_ARRAY_FLOAT_INDEX_SCALE"), (24, u "LOG2_ARRAY_DOUBLE_INDEX_SCALE"), (89, u "T_BOOLEAN"), (2, u "T_CHAR"), (1, u "T_FLOAT"), (1, u "T_DOUBLE"), (1, u "T_BYTE"), (1, u "T_SHORT"), (1, u "T_INT"), (1, u "T_LONG"), (1, u "SOFT_MAX_ARRAY_LENGTH")] 83

def k13m0 : Method := { name := "<init>", desc := "()V", sig := { parameters := [], returnType := none }, accessFlags := 2, code := none }
/-- jdk/internal/util/ArraysSupport -/
def k13 : Class := { plain "jdk/internal/util/ArraysSupport" (some 0) with
  accessFlags := 33
  interfaces := #[]
  cf := some (fileOf pool13 21 #[] #[{ accessFlags := 2, nameIndex := 9, descriptorIndex := 19, attributes := #[] }] 33 16 #[] #[{ accessFlags := 24, nameIndex := 28, descriptorIndex := 29, attributes := #[] }, { accessFlags := 26, nameIndex := 38, descriptorIndex := 39, attributes := #[] }, { accessFlags := 25, nameIndex := 121, descriptorIndex := 25, attributes := #[] }, { accessFlags := 25, nameIndex := 131, descriptorIndex := 25, attributes := #[] }, { accessFlags := 25, nameIndex := 137, descriptorIndex := 25, attributes := #[] }, { accessFlags := 25, nameIndex := 143, descriptorIndex := 25, attributes := #[] }, { accessFlags := 25, nameIndex := 53, descriptorIndex := 25, attributes := #[] }, { accessFlags := 25, nameIndex := 24, descriptorIndex := 25, attributes := #[] }, { accessFlags := 25, nameIndex := 162, descriptorIndex := 25, attributes := #[] }, { accessFlags := 25, nameIndex := 187, descriptorIndex := 25, attributes := #[] }, { accessFlags := 26, nameIndex := 48, descriptorIndex := 25, attributes := #[] }, { accessFlags := 25, nameIndex := 277, descriptorIndex := 25, attributes := #[] }, { accessFlags := 25, nameIndex := 280, descriptorIndex := 25, attributes := #[] }, { accessFlags := 25, nameIndex := 282, descriptorIndex := 25, attributes := #[] }, { accessFlags := 25, nameIndex := 284, descriptorIndex := 25, attributes := #[] }, { accessFlags := 25, nameIndex := 286, descriptorIndex := 25, attributes := #[] }, { accessFlags := 25, nameIndex := 288, descriptorIndex := 25, attributes := #[] }, { accessFlags := 25, nameIndex := 290, descriptorIndex := 25, attributes := #[] }, { accessFlags := 25, nameIndex := 292, descriptorIndex := 25, attributes := #[] }, { accessFlags := 26, nameIndex := 108, descriptorIndex := 109, attributes := #[] }, { accessFlags := 25, nameIndex := 294, descriptorIndex := 25, attributes := #[] }])
  fields := #[{ name := "U", type := (.object "jdk/internal/misc/Unsafe"), accessFlags := 24, slot := 0, constantValue := 0 }, { name := "BIG_ENDIAN", type := .boolean, accessFlags := 26, slot := 1, constantValue := 0 }, { name := "LOG2_ARRAY_BOOLEAN_INDEX_SCALE", type := .int, accessFlags := 25, slot := 2, constantValue := 0 }, { name := "LOG2_ARRAY_BYTE_INDEX_SCALE", type := .int, accessFlags := 25, slot := 3, constantValue := 0 }, { name := "LOG2_ARRAY_CHAR_INDEX_SCALE", type := .int, accessFlags := 25, slot := 4, constantValue := 0 }, { name := "LOG2_ARRAY_SHORT_INDEX_SCALE", type := .int, accessFlags := 25, slot := 5, constantValue := 0 }, { name := "LOG2_ARRAY_INT_INDEX_SCALE", type := .int, accessFlags := 25, slot := 6, constantValue := 0 }, { name := "LOG2_ARRAY_LONG_INDEX_SCALE", type := .int, accessFlags := 25, slot := 7, constantValue := 0 }, { name := "LOG2_ARRAY_FLOAT_INDEX_SCALE", type := .int, accessFlags := 25, slot := 8, constantValue := 0 }, { name := "LOG2_ARRAY_DOUBLE_INDEX_SCALE", type := .int, accessFlags := 25, slot := 9, constantValue := 0 }, { name := "LOG2_BYTE_BIT_SIZE", type := .int, accessFlags := 26, slot := 10, constantValue := 0 }, { name := "T_BOOLEAN", type := .int, accessFlags := 25, slot := 11, constantValue := 0 }, { name := "T_CHAR", type := .int, accessFlags := 25, slot := 12, constantValue := 0 }, { name := "T_FLOAT", type := .int, accessFlags := 25, slot := 13, constantValue := 0 }, { name := "T_DOUBLE", type := .int, accessFlags := 25, slot := 14, constantValue := 0 }, { name := "T_BYTE", type := .int, accessFlags := 25, slot := 15, constantValue := 0 }, { name := "T_SHORT", type := .int, accessFlags := 25, slot := 16, constantValue := 0 }, { name := "T_INT", type := .int, accessFlags := 25, slot := 17, constantValue := 0 }, { name := "T_LONG", type := .int, accessFlags := 25, slot := 18, constantValue := 0 }, { name := "JLA", type := (.object "jdk/internal/access/JavaLangAccess"), accessFlags := 26, slot := 19, constantValue := 0 }, { name := "SOFT_MAX_ARRAY_LENGTH", type := .int, accessFlags := 25, slot := 20, constantValue := 0 }]
  methods := #[k13m0]
  instanceTypes := #[]
  staticTypes := #[(.object "jdk/internal/misc/Unsafe"), .boolean, .int, .int, .int, .int, .int, .int, .int, .int, .int, .int, .int, .int, .int, .int, .int, .int, .int, (.object "jdk/internal/access/JavaLangAccess"), .int]
  resolved := Array.replicate 378 none
  statics := none }

def pool14 : Array CpInfo := pool [(1, u "java/lang/Cloneable"), (0, .class_ 1), (0, u "java/lang/Object"), (0, .class_ 3)] 3

/-- java/lang/Cloneable -/
def k14 : Class := { plain "java/lang/Cloneable" (some 0) with
  accessFlags := 1537
  interfaces := #[]
  cf := some (fileOf pool14 2 #[] #[] 1537 4 #[] #[])
  fields := #[]
  methods := #[]
  instanceTypes := #[]
  staticTypes := #[]
  resolved := Array.replicate 8 none
  statics := none }

/-- the primitive byte -/
def k15 : Class := { plain "byte" none with kind := .primitive 'B', accessFlags := 0x411 }
/-- [B -/
def k16 : Class := { plain "[B" (some 0) with kind := .array 15 .byte, interfaces := #[14, 4], accessFlags := 1041 }

/-- the primitive char -/
def k17 : Class := { plain "char" none with kind := .primitive 'C', accessFlags := 0x411 }
/-- [C -/
def k18 : Class := { plain "[C" (some 0) with kind := .array 17 .char, interfaces := #[14, 4], accessFlags := 1041 }

/-- the primitive int -/
def k19 : Class := { plain "int" none with kind := .primitive 'I', accessFlags := 0x411 }
/-- [I -/
def k20 : Class := { plain "[I" (some 0) with kind := .array 19 .int, interfaces := #[14, 4], accessFlags := 1041 }

def heap : Heap := #[{ cls := 9, slots := #[.long 0, .int 1, .null, .int 0, .null, .int 0, .int 0], vm := .statics 9 },
  { cls := 10, slots := #[.int 0, .int 8, .int 0, .int 1], vm := .statics 10 },
  { cls := 12, slots := #[.null, .null, .null], vm := .statics 12 }]
def classes : Array Class := #[k0, k1, k2, k3, k4, k5, k6, k7, k8, k9, k10, k11, k12, k13, k14, k15, k16, k17, k18, k19, k20]
def interned : List (Array UInt16 × Addr) := []
def slotsUsed : Nat := 14
def theMethod : MethodId := ⟨1, 6⟩
def args0 : Array Value := #[.int 0, .int 65, .int 65, .int 65, .int 65]
def aboutOver (below : List Frame) : State where
  vm := { classes := classes, interned := interned.toArray }
  heap := heap
  slotsUsed := slotsUsed
  threads := #[{ frames := .invoking theMethod args0 :: below }]
def below0 : List Frame := [.native { method := ⟨0, 0⟩, args := #[] }]
def about1 : State := aboutOver below0
def p0 : Program := .bare "" "" ""
def e0 : Env := launch0.env 0 0 0
theorem w_frames : about1.frames = Frame.invoking theMethod args0 :: below0 := rfl
set_option maxRecDepth 65536 in
theorem w_args : argsFit about1.vm theMethod args0 = true := by decide +kernel
set_option maxRecDepth 65536 in
theorem w_heap : heapFits about1 = true := by decide +kernel
set_option maxRecDepth 65536 in
theorem w_runnable : about1.curStatus? = some .runnable := by decide +kernel
set_option maxRecDepth 65536 in
theorem w_alone : about1.alone = true := by decide +kernel
set_option maxRecDepth 65536 in
theorem w_named : about1.methodNamed? x = some theMethod := by decide +kernel
set_option maxRecDepth 65536 in
theorem w_hears : about1.hears theMethod below0 = true := by decide +kernel
set_option maxRecDepth 65536 in
theorem w_ripe : about1.ripe theMethod args0 below0 = true := by decide +kernel
theorem w_running : about1.status = .running := rfl
set_option maxRecDepth 65536 in
theorem w_room : about1.hasRoom e0.platform room_1 = true :=
  launch0.hasRoom_least _ room_1 (by decide +kernel) (by decide +kernel) (by decide +kernel) (by decide +kernel) (by decide +kernel) (by decide +kernel)
theorem allAtoms_all (ts : List Jvm.Cond) (a : Array Jvm.Value) (st : Jvm.State) : (allAtoms ts).before a st = ts.all (fun c => c.before a st) := by
  induction ts with
  | nil => rfl
  | cons c t ih =>
    show (Jvm.Cond.and c (allAtoms t)).before a st = _
    rw [Jvm.Cond.before_and, ih, List.all_cons]
def words1 : List Jvm.Cond := Jvm.Cond.code x code maxLocals ret :: tables_1
/-- a 'code' word, met by the world's own term for the bytes: nothing is compared byte by byte -/
theorem code_word {y : MethodName} {bytes : ByteArray} {mx : Nat} {rt : Option FieldType} {a : Array Value} {s : State} {m : MethodId} {meth : Method} {c : Code} (h1 : s.methodNamed? y = some m) (h2 : s.vm.method? m = some meth) (h3 : meth.code = some c) (h4 : c.code = bytes)
    (h5 : (c.maxLocals == mx && c.exceptionTable.isEmpty && decide (c.maxStack ≤ mostOperands) && decide (meth.sig.returnType = rt) && !meth.locks && decide (parseMethodDescriptor y.desc = some meth.sig)) = true) : (Jvm.Cond.code y bytes mx rt).before a s = true := by
  simp only [Bool.and_eq_true, beq_iff_eq, Bool.not_eq_true', decide_eq_true_eq] at h5
  obtain ⟨⟨⟨⟨⟨g1, g2⟩, g3⟩, g4⟩, g5⟩, g6⟩ := h5
  simp [Cond.before, Cond.holds, Cond.value, h1, h2, h3, h4, g1, g2, g3, g4, g5, g6]
def isCode : Jvm.Cond → Bool
  | .code _ _ _ _ => true
  | _ => false
theorem all_split {L : List Jvm.Cond} {P : Jvm.Cond → Bool} (h1 : L.all (fun c => isCode c || P c) = true) (h2 : ∀ c ∈ L.filter isCode, P c = true) : L.all P = true := by
  refine List.all_eq_true.mpr fun c hc => ?_
  have h := List.all_eq_true.mp h1 c hc
  rcases Bool.eq_false_or_eq_true (isCode c) with hi | hi
  · exact h2 c (List.mem_filter.mpr ⟨hc, hi⟩)
  · simpa [hi] using h
set_option maxRecDepth 65536 in
theorem w_c0 : (Jvm.Cond.code x code maxLocals ret).before args0 about1 = true := code_word (m := ⟨1, 6⟩) (meth := k1m6) (c := k1c6) (by decide +kernel) rfl rfl rfl (by decide +kernel)
set_option maxRecDepth 65536 in
theorem w_c1 : (Jvm.Cond.code ({ cls := "com/example/eslabon/eslabon/CodeChallengeMethodIsWellFormedPinLaw", name := "unreserved", desc := "(C)Z" } : Jvm.MethodName) method_2_code (2 : Nat) (Option.some Jvm.ClassFile.FieldType.boolean)).before args0 about1 = true := code_word (m := ⟨1, 1⟩) (meth := k1m1) (c := k1c1) (by decide +kernel) rfl rfl rfl (by decide +kernel)
set_option maxRecDepth 65536 in
theorem w_c2 : (Jvm.Cond.code ({ cls := "com/example/eslabon/eslabon/CodeChallengeMethod", name := "isWellFormed", desc := "(Ljava/lang/String;)Z" } : Jvm.MethodName) prog_3_method_7_code (2 : Nat) (Option.some Jvm.ClassFile.FieldType.boolean)).before args0 about1 = true := code_word (m := ⟨6, 0⟩) (meth := k6m0) (c := k6c0) (by decide +kernel) rfl rfl rfl (by decide +kernel)
set_option maxRecDepth 65536 in
theorem w_c3 : (Jvm.Cond.code ({ cls := "java/lang/String", name := "<init>", desc := "([C)V" } : Jvm.MethodName) jdk_42_method_3_code (2 : Nat) (Option.none : Option Jvm.ClassFile.FieldType)).before args0 about1 = true := code_word (m := ⟨9, 1⟩) (meth := k9m1) (c := k9c1) (by decide +kernel) rfl rfl rfl (by decide +kernel)
set_option maxRecDepth 65536 in
theorem w_c4 : (Jvm.Cond.code ({ cls := "java/lang/String", name := "<init>", desc := "([CIILjava/lang/Void;)V" } : Jvm.MethodName) jdk_42_method_149_code (6 : Nat) (Option.none : Option Jvm.ClassFile.FieldType)).before args0 about1 = true := code_word (m := ⟨9, 5⟩) (meth := k9m5) (c := k9c5) (by decide +kernel) rfl rfl rfl (by decide +kernel)
set_option maxRecDepth 65536 in
theorem w_c5 : (Jvm.Cond.code ({ cls := "java/lang/Object", name := "<init>", desc := "()V" } : Jvm.MethodName) object_method_1_code (1 : Nat) (Option.none : Option Jvm.ClassFile.FieldType)).before args0 about1 = true := code_word (m := ⟨0, 0⟩) (meth := k0m0) (c := k0c0) (by decide +kernel) rfl rfl rfl (by decide +kernel)
set_option maxRecDepth 65536 in
theorem w_c6 : (Jvm.Cond.code ({ cls := "java/lang/StringUTF16", name := "compress", desc := "([CII)[B" } : Jvm.MethodName) jdk_52_method_16_code (6 : Nat) (Option.some (Jvm.ClassFile.FieldType.array Jvm.ClassFile.FieldType.byte))).before args0 about1 = true := code_word (m := ⟨10, 8⟩) (meth := k10m8) (c := k10c8) (by decide +kernel) rfl rfl rfl (by decide +kernel)
set_option maxRecDepth 65536 in
theorem w_c7 : (Jvm.Cond.code ({ cls := "java/lang/StringUTF16", name := "compress", desc := "([CI[BII)I" } : Jvm.MethodName) jdk_52_method_21_code (7 : Nat) (Option.some Jvm.ClassFile.FieldType.int)).before args0 about1 = true := code_word (m := ⟨10, 9⟩) (meth := k10m9) (c := k10c9) (by decide +kernel) rfl rfl rfl (by decide +kernel)
set_option maxRecDepth 65536 in
theorem w_c8 : (Jvm.Cond.code ({ cls := "java/lang/StringUTF16", name := "coderFromArrayLen", desc := "([BI)B" } : Jvm.MethodName) jdk_52_method_15_code (2 : Nat) (Option.some Jvm.ClassFile.FieldType.byte)).before args0 about1 = true := code_word (m := ⟨10, 7⟩) (meth := k10m7) (c := k10c7) (by decide +kernel) rfl rfl rfl (by decide +kernel)
set_option maxRecDepth 65536 in
theorem w_c9 : (Jvm.Cond.code ({ cls := "java/lang/String", name := "length", desc := "()I" } : Jvm.MethodName) jdk_42_method_54_code (1 : Nat) (Option.some Jvm.ClassFile.FieldType.int)).before args0 about1 = true := code_word (m := ⟨9, 2⟩) (meth := k9m2) (c := k9c2) (by decide +kernel) rfl rfl rfl (by decide +kernel)
set_option maxRecDepth 65536 in
theorem w_c10 : (Jvm.Cond.code ({ cls := "java/lang/String", name := "coder", desc := "()B" } : Jvm.MethodName) jdk_42_method_152_code (1 : Nat) (Option.some Jvm.ClassFile.FieldType.byte)).before args0 about1 = true := code_word (m := ⟨9, 7⟩) (meth := k9m7) (c := k9c7) (by decide +kernel) rfl rfl rfl (by decide +kernel)
set_option maxRecDepth 65536 in
theorem w_c11 : (Jvm.Cond.code ({ cls := "com/example/eslabon/eslabon/CodeChallengeMethodIsWellFormedPinLaw", name := "len129", desc := "(CCCC)[C" } : Jvm.MethodName) method_6_code (4 : Nat) (Option.some (Jvm.ClassFile.FieldType.array Jvm.ClassFile.FieldType.char))).before args0 about1 = true := code_word (m := ⟨1, 5⟩) (meth := k1m5) (c := k1c5) (by decide +kernel) rfl rfl rfl (by decide +kernel)
set_option maxRecDepth 65536 in
theorem w_c12 : (Jvm.Cond.code ({ cls := "java/lang/StringUTF16", name := "toBytes", desc := "([CII)[B" } : Jvm.MethodName) jdk_52_method_14_code (5 : Nat) (Option.some (Jvm.ClassFile.FieldType.array Jvm.ClassFile.FieldType.byte))).before args0 about1 = true := code_word (m := ⟨10, 6⟩) (meth := k10m6) (c := k10c6) (by decide +kernel) rfl rfl rfl (by decide +kernel)
set_option maxRecDepth 65536 in
theorem w_c13 : (Jvm.Cond.code ({ cls := "java/lang/StringUTF16", name := "newBytesFor", desc := "(I)[B" } : Jvm.MethodName) jdk_52_method_2_code (1 : Nat) (Option.some (Jvm.ClassFile.FieldType.array Jvm.ClassFile.FieldType.byte))).before args0 about1 = true := code_word (m := ⟨10, 1⟩) (meth := k10m1) (c := k10c1) (by decide +kernel) rfl rfl rfl (by decide +kernel)
set_option maxRecDepth 65536 in
theorem w_c14 : (Jvm.Cond.code ({ cls := "java/lang/StringUTF16", name := "newBytesLength", desc := "(I)I" } : Jvm.MethodName) jdk_52_method_3_code (1 : Nat) (Option.some Jvm.ClassFile.FieldType.int)).before args0 about1 = true := code_word (m := ⟨10, 2⟩) (meth := k10m2) (c := k10c2) (by decide +kernel) rfl rfl rfl (by decide +kernel)
set_option maxRecDepth 65536 in
theorem w_c15 : (Jvm.Cond.code ({ cls := "java/lang/StringUTF16", name := "putChar", desc := "([BII)V" } : Jvm.MethodName) jdk_52_method_4_code (3 : Nat) (Option.none : Option Jvm.ClassFile.FieldType)).before args0 about1 = true := code_word (m := ⟨10, 3⟩) (meth := k10m3) (c := k10c3) (by decide +kernel) rfl rfl rfl (by decide +kernel)
set_option maxRecDepth 65536 in
theorem w_c16 : (Jvm.Cond.code ({ cls := "java/lang/StringUTF16", name := "getChar", desc := "([BI)C" } : Jvm.MethodName) jdk_52_method_5_code (2 : Nat) (Option.some Jvm.ClassFile.FieldType.char)).before args0 about1 = true := code_word (m := ⟨10, 4⟩) (meth := k10m4) (c := k10c4) (by decide +kernel) rfl rfl rfl (by decide +kernel)
set_option maxRecDepth 65536 in
theorem w_c17 : (Jvm.Cond.code ({ cls := "java/lang/String", name := "valueOf", desc := "(C)Ljava/lang/String;" } : Jvm.MethodName) jdk_42_method_139_code (1 : Nat) (Option.some (Jvm.ClassFile.FieldType.object "java/lang/String"))).before args0 about1 = true := code_word (m := ⟨9, 4⟩) (meth := k9m4) (c := k9c4) (by decide +kernel) rfl rfl rfl (by decide +kernel)
set_option maxRecDepth 65536 in
theorem w_c18 : (Jvm.Cond.code ({ cls := "java/lang/StringLatin1", name := "canEncode", desc := "(C)Z" } : Jvm.MethodName) jdk_43_method_3_code (1 : Nat) (Option.some Jvm.ClassFile.FieldType.boolean)).before args0 about1 = true := code_word (m := ⟨11, 2⟩) (meth := k11m2) (c := k11c2) (by decide +kernel) rfl rfl rfl (by decide +kernel)
set_option maxRecDepth 65536 in
theorem w_c19 : (Jvm.Cond.code ({ cls := "java/lang/StringUTF16", name := "toBytes", desc := "(C)[B" } : Jvm.MethodName) jdk_52_method_24_code (2 : Nat) (Option.some (Jvm.ClassFile.FieldType.array Jvm.ClassFile.FieldType.byte))).before args0 about1 = true := code_word (m := ⟨10, 10⟩) (meth := k10m10) (c := k10c10) (by decide +kernel) rfl rfl rfl (by decide +kernel)
set_option maxRecDepth 65536 in
theorem w_c20 : (Jvm.Cond.code ({ cls := "java/lang/String", name := "<init>", desc := "([BB)V" } : Jvm.MethodName) jdk_42_method_151_code (3 : Nat) (Option.none : Option Jvm.ClassFile.FieldType)).before args0 about1 = true := code_word (m := ⟨9, 6⟩) (meth := k9m6) (c := k9c6) (by decide +kernel) rfl rfl rfl (by decide +kernel)
set_option maxRecDepth 65536 in
theorem w_c21 : (Jvm.Cond.code ({ cls := "java/lang/StringLatin1", name := "toBytes", desc := "(C)[B" } : Jvm.MethodName) jdk_43_method_46_code (1 : Nat) (Option.some (Jvm.ClassFile.FieldType.array Jvm.ClassFile.FieldType.byte))).before args0 about1 = true := code_word (m := ⟨11, 3⟩) (meth := k11m3) (c := k11c3) (by decide +kernel) rfl rfl rfl (by decide +kernel)
set_option maxRecDepth 65536 in
theorem w_c22 : (Jvm.Cond.code ({ cls := "com/example/eslabon/eslabon/CodeChallengeMethodIsWellFormedPinLaw", name := "len128", desc := "(CCCC)[C" } : Jvm.MethodName) method_5_code (4 : Nat) (Option.some (Jvm.ClassFile.FieldType.array Jvm.ClassFile.FieldType.char))).before args0 about1 = true := code_word (m := ⟨1, 4⟩) (meth := k1m4) (c := k1c4) (by decide +kernel) rfl rfl rfl (by decide +kernel)
set_option maxRecDepth 65536 in
theorem w_c23 : (Jvm.Cond.code ({ cls := "java/lang/String", name := "charAt", desc := "(I)C" } : Jvm.MethodName) jdk_42_method_56_code (2 : Nat) (Option.some Jvm.ClassFile.FieldType.char)).before args0 about1 = true := code_word (m := ⟨9, 3⟩) (meth := k9m3) (c := k9c3) (by decide +kernel) rfl rfl rfl (by decide +kernel)
set_option maxRecDepth 65536 in
theorem w_c24 : (Jvm.Cond.code ({ cls := "java/lang/String", name := "isLatin1", desc := "()Z" } : Jvm.MethodName) jdk_42_method_154_code (1 : Nat) (Option.some Jvm.ClassFile.FieldType.boolean)).before args0 about1 = true := code_word (m := ⟨9, 8⟩) (meth := k9m8) (c := k9c8) (by decide +kernel) rfl rfl rfl (by decide +kernel)
set_option maxRecDepth 65536 in
theorem w_c25 : (Jvm.Cond.code ({ cls := "java/lang/StringUTF16", name := "charAt", desc := "([BI)C" } : Jvm.MethodName) jdk_52_method_83_code (2 : Nat) (Option.some Jvm.ClassFile.FieldType.char)).before args0 about1 = true := code_word (m := ⟨10, 11⟩) (meth := k10m11) (c := k10c11) (by decide +kernel) rfl rfl rfl (by decide +kernel)
set_option maxRecDepth 65536 in
theorem w_c26 : (Jvm.Cond.code ({ cls := "java/lang/StringUTF16", name := "checkIndex", desc := "(I[B)V" } : Jvm.MethodName) jdk_52_method_91_code (2 : Nat) (Option.none : Option Jvm.ClassFile.FieldType)).before args0 about1 = true := code_word (m := ⟨10, 12⟩) (meth := k10m12) (c := k10c12) (by decide +kernel) rfl rfl rfl (by decide +kernel)
set_option maxRecDepth 65536 in
theorem w_c27 : (Jvm.Cond.code ({ cls := "java/lang/StringUTF16", name := "length", desc := "([B)I" } : Jvm.MethodName) jdk_52_method_6_code (1 : Nat) (Option.some Jvm.ClassFile.FieldType.int)).before args0 about1 = true := code_word (m := ⟨10, 5⟩) (meth := k10m5) (c := k10c5) (by decide +kernel) rfl rfl rfl (by decide +kernel)
set_option maxRecDepth 65536 in
theorem w_c28 : (Jvm.Cond.code ({ cls := "java/lang/String", name := "checkIndex", desc := "(II)V" } : Jvm.MethodName) jdk_42_method_155_code (2 : Nat) (Option.none : Option Jvm.ClassFile.FieldType)).before args0 about1 = true := code_word (m := ⟨9, 9⟩) (meth := k9m9) (c := k9c9) (by decide +kernel) rfl rfl rfl (by decide +kernel)
set_option maxRecDepth 65536 in
theorem w_c29 : (Jvm.Cond.code ({ cls := "jdk/internal/util/Preconditions", name := "checkIndex", desc := "(IILjava/util/function/BiFunction;)I" } : Jvm.MethodName) jdk_41_method_11_code (3 : Nat) (Option.some Jvm.ClassFile.FieldType.int)).before args0 about1 = true := code_word (m := ⟨12, 1⟩) (meth := k12m1) (c := k12c1) (by decide +kernel) rfl rfl rfl (by decide +kernel)
set_option maxRecDepth 65536 in
theorem w_c30 : (Jvm.Cond.code ({ cls := "com/example/eslabon/eslabon/CodeChallengeMethod", name := "isUnreserved", desc := "(C)Z" } : Jvm.MethodName) prog_3_method_10_code (1 : Nat) (Option.some Jvm.ClassFile.FieldType.boolean)).before args0 about1 = true := code_word (m := ⟨6, 1⟩) (meth := k6m1) (c := k6c1) (by decide +kernel) rfl rfl rfl (by decide +kernel)
set_option maxRecDepth 65536 in
theorem w_c31 : (Jvm.Cond.code ({ cls := "com/example/eslabon/eslabon/CodeChallengeMethodIsWellFormedPinLaw", name := "len43", desc := "(CCCC)[C" } : Jvm.MethodName) method_4_code (4 : Nat) (Option.some (Jvm.ClassFile.FieldType.array Jvm.ClassFile.FieldType.char))).before args0 about1 = true := code_word (m := ⟨1, 3⟩) (meth := k1m3) (c := k1c3) (by decide +kernel) rfl rfl rfl (by decide +kernel)
set_option maxRecDepth 65536 in
theorem w_c32 : (Jvm.Cond.code ({ cls := "com/example/eslabon/eslabon/CodeChallengeMethodIsWellFormedPinLaw", name := "len42", desc := "(CCCC)[C" } : Jvm.MethodName) method_3_code (4 : Nat) (Option.some (Jvm.ClassFile.FieldType.array Jvm.ClassFile.FieldType.char))).before args0 about1 = true := code_word (m := ⟨1, 2⟩) (meth := k1m2) (c := k1c2) (by decide +kernel) rfl rfl rfl (by decide +kernel)
set_option maxRecDepth 65536 in
theorem w_c33 : (Jvm.Cond.code ({ cls := "java/lang/StringLatin1", name := "charAt", desc := "([BI)C" } : Jvm.MethodName) jdk_43_method_2_code (2 : Nat) (Option.some Jvm.ClassFile.FieldType.char)).before args0 about1 = true := code_word (m := ⟨11, 1⟩) (meth := k11m1) (c := k11c1) (by decide +kernel) rfl rfl rfl (by decide +kernel)
def codes1 : List Jvm.Cond := [Jvm.Cond.code x code maxLocals ret, Jvm.Cond.code ({ cls := "com/example/eslabon/eslabon/CodeChallengeMethodIsWellFormedPinLaw", name := "unreserved", desc := "(C)Z" } : Jvm.MethodName) method_2_code (2 : Nat) (Option.some Jvm.ClassFile.FieldType.boolean), Jvm.Cond.code ({ cls := "com/example/eslabon/eslabon/CodeChallengeMethod", name := "isWellFormed", desc := "(Ljava/lang/String;)Z" } : Jvm.MethodName) prog_3_method_7_code (2 : Nat) (Option.some Jvm.ClassFile.FieldType.boolean), Jvm.Cond.code ({ cls := "java/lang/String", name := "<init>", desc := "([C)V" } : Jvm.MethodName) jdk_42_method_3_code (2 : Nat) (Option.none : Option Jvm.ClassFile.FieldType), Jvm.Cond.code ({ cls := "java/lang/String", name := "<init>", desc := "([CIILjava/lang/Void;)V" } : Jvm.MethodName) jdk_42_method_149_code (6 : Nat) (Option.none : Option Jvm.ClassFile.FieldType), Jvm.Cond.code ({ cls := "java/lang/Object", name := "<init>", desc := "()V" } : Jvm.MethodName) object_method_1_code (1 : Nat) (Option.none : Option Jvm.ClassFile.FieldType), Jvm.Cond.code ({ cls := "java/lang/StringUTF16", name := "compress", desc := "([CII)[B" } : Jvm.MethodName) jdk_52_method_16_code (6 : Nat) (Option.some (Jvm.ClassFile.FieldType.array Jvm.ClassFile.FieldType.byte)), Jvm.Cond.code ({ cls := "java/lang/StringUTF16", name := "compress", desc := "([CI[BII)I" } : Jvm.MethodName) jdk_52_method_21_code (7 : Nat) (Option.some Jvm.ClassFile.FieldType.int), Jvm.Cond.code ({ cls := "java/lang/StringUTF16", name := "coderFromArrayLen", desc := "([BI)B" } : Jvm.MethodName) jdk_52_method_15_code (2 : Nat) (Option.some Jvm.ClassFile.FieldType.byte), Jvm.Cond.code ({ cls := "java/lang/String", name := "length", desc := "()I" } : Jvm.MethodName) jdk_42_method_54_code (1 : Nat) (Option.some Jvm.ClassFile.FieldType.int), Jvm.Cond.code ({ cls := "java/lang/String", name := "coder", desc := "()B" } : Jvm.MethodName) jdk_42_method_152_code (1 : Nat) (Option.some Jvm.ClassFile.FieldType.byte), Jvm.Cond.code ({ cls := "com/example/eslabon/eslabon/CodeChallengeMethodIsWellFormedPinLaw", name := "len129", desc := "(CCCC)[C" } : Jvm.MethodName) method_6_code (4 : Nat) (Option.some (Jvm.ClassFile.FieldType.array Jvm.ClassFile.FieldType.char)), Jvm.Cond.code ({ cls := "java/lang/StringUTF16", name := "toBytes", desc := "([CII)[B" } : Jvm.MethodName) jdk_52_method_14_code (5 : Nat) (Option.some (Jvm.ClassFile.FieldType.array Jvm.ClassFile.FieldType.byte)), Jvm.Cond.code ({ cls := "java/lang/StringUTF16", name := "newBytesFor", desc := "(I)[B" } : Jvm.MethodName) jdk_52_method_2_code (1 : Nat) (Option.some (Jvm.ClassFile.FieldType.array Jvm.ClassFile.FieldType.byte)), Jvm.Cond.code ({ cls := "java/lang/StringUTF16", name := "newBytesLength", desc := "(I)I" } : Jvm.MethodName) jdk_52_method_3_code (1 : Nat) (Option.some Jvm.ClassFile.FieldType.int), Jvm.Cond.code ({ cls := "java/lang/StringUTF16", name := "putChar", desc := "([BII)V" } : Jvm.MethodName) jdk_52_method_4_code (3 : Nat) (Option.none : Option Jvm.ClassFile.FieldType), Jvm.Cond.code ({ cls := "java/lang/StringUTF16", name := "getChar", desc := "([BI)C" } : Jvm.MethodName) jdk_52_method_5_code (2 : Nat) (Option.some Jvm.ClassFile.FieldType.char), Jvm.Cond.code ({ cls := "java/lang/String", name := "valueOf", desc := "(C)Ljava/lang/String;" } : Jvm.MethodName) jdk_42_method_139_code (1 : Nat) (Option.some (Jvm.ClassFile.FieldType.object "java/lang/String")), Jvm.Cond.code ({ cls := "java/lang/StringLatin1", name := "canEncode", desc := "(C)Z" } : Jvm.MethodName) jdk_43_method_3_code (1 : Nat) (Option.some Jvm.ClassFile.FieldType.boolean), Jvm.Cond.code ({ cls := "java/lang/StringUTF16", name := "toBytes", desc := "(C)[B" } : Jvm.MethodName) jdk_52_method_24_code (2 : Nat) (Option.some (Jvm.ClassFile.FieldType.array Jvm.ClassFile.FieldType.byte)), Jvm.Cond.code ({ cls := "java/lang/String", name := "<init>", desc := "([BB)V" } : Jvm.MethodName) jdk_42_method_151_code (3 : Nat) (Option.none : Option Jvm.ClassFile.FieldType), Jvm.Cond.code ({ cls := "java/lang/StringLatin1", name := "toBytes", desc := "(C)[B" } : Jvm.MethodName) jdk_43_method_46_code (1 : Nat) (Option.some (Jvm.ClassFile.FieldType.array Jvm.ClassFile.FieldType.byte)), Jvm.Cond.code ({ cls := "com/example/eslabon/eslabon/CodeChallengeMethodIsWellFormedPinLaw", name := "len128", desc := "(CCCC)[C" } : Jvm.MethodName) method_5_code (4 : Nat) (Option.some (Jvm.ClassFile.FieldType.array Jvm.ClassFile.FieldType.char)), Jvm.Cond.code ({ cls := "java/lang/String", name := "charAt", desc := "(I)C" } : Jvm.MethodName) jdk_42_method_56_code (2 : Nat) (Option.some Jvm.ClassFile.FieldType.char), Jvm.Cond.code ({ cls := "java/lang/String", name := "isLatin1", desc := "()Z" } : Jvm.MethodName) jdk_42_method_154_code (1 : Nat) (Option.some Jvm.ClassFile.FieldType.boolean), Jvm.Cond.code ({ cls := "java/lang/StringUTF16", name := "charAt", desc := "([BI)C" } : Jvm.MethodName) jdk_52_method_83_code (2 : Nat) (Option.some Jvm.ClassFile.FieldType.char), Jvm.Cond.code ({ cls := "java/lang/StringUTF16", name := "checkIndex", desc := "(I[B)V" } : Jvm.MethodName) jdk_52_method_91_code (2 : Nat) (Option.none : Option Jvm.ClassFile.FieldType), Jvm.Cond.code ({ cls := "java/lang/StringUTF16", name := "length", desc := "([B)I" } : Jvm.MethodName) jdk_52_method_6_code (1 : Nat) (Option.some Jvm.ClassFile.FieldType.int), Jvm.Cond.code ({ cls := "java/lang/String", name := "checkIndex", desc := "(II)V" } : Jvm.MethodName) jdk_42_method_155_code (2 : Nat) (Option.none : Option Jvm.ClassFile.FieldType), Jvm.Cond.code ({ cls := "jdk/internal/util/Preconditions", name := "checkIndex", desc := "(IILjava/util/function/BiFunction;)I" } : Jvm.MethodName) jdk_41_method_11_code (3 : Nat) (Option.some Jvm.ClassFile.FieldType.int), Jvm.Cond.code ({ cls := "com/example/eslabon/eslabon/CodeChallengeMethod", name := "isUnreserved", desc := "(C)Z" } : Jvm.MethodName) prog_3_method_10_code (1 : Nat) (Option.some Jvm.ClassFile.FieldType.boolean), Jvm.Cond.code ({ cls := "com/example/eslabon/eslabon/CodeChallengeMethodIsWellFormedPinLaw", name := "len43", desc := "(CCCC)[C" } : Jvm.MethodName) method_4_code (4 : Nat) (Option.some (Jvm.ClassFile.FieldType.array Jvm.ClassFile.FieldType.char)), Jvm.Cond.code ({ cls := "com/example/eslabon/eslabon/CodeChallengeMethodIsWellFormedPinLaw", name := "len42", desc := "(CCCC)[C" } : Jvm.MethodName) method_3_code (4 : Nat) (Option.some (Jvm.ClassFile.FieldType.array Jvm.ClassFile.FieldType.char)), Jvm.Cond.code ({ cls := "java/lang/StringLatin1", name := "charAt", desc := "([BI)C" } : Jvm.MethodName) jdk_43_method_2_code (2 : Nat) (Option.some Jvm.ClassFile.FieldType.char)]
set_option maxRecDepth 65536 in
theorem codes_eq : words1.filter isCode = codes1 := rfl
theorem w_codes : ∀ c ∈ words1.filter isCode, c.before args0 about1 = true := by
  rw [codes_eq]
  intro c hc
  simp only [codes1, List.mem_cons, List.not_mem_nil, or_false] at hc
  rcases hc with rfl | rfl | rfl | rfl | rfl | rfl | rfl | rfl | rfl | rfl | rfl | rfl | rfl | rfl | rfl | rfl | rfl | rfl | rfl | rfl | rfl | rfl | rfl | rfl | rfl | rfl | rfl | rfl | rfl | rfl | rfl | rfl | rfl | rfl
  · exact w_c0
  · exact w_c1
  · exact w_c2
  · exact w_c3
  · exact w_c4
  · exact w_c5
  · exact w_c6
  · exact w_c7
  · exact w_c8
  · exact w_c9
  · exact w_c10
  · exact w_c11
  · exact w_c12
  · exact w_c13
  · exact w_c14
  · exact w_c15
  · exact w_c16
  · exact w_c17
  · exact w_c18
  · exact w_c19
  · exact w_c20
  · exact w_c21
  · exact w_c22
  · exact w_c23
  · exact w_c24
  · exact w_c25
  · exact w_c26
  · exact w_c27
  · exact w_c28
  · exact w_c29
  · exact w_c30
  · exact w_c31
  · exact w_c32
  · exact w_c33
set_option maxRecDepth 65536 in
theorem w_t1 : (words1.take 24).all (fun c => isCode c || c.before args0 about1) = true := by decide +kernel
set_option maxRecDepth 65536 in
theorem w_t2 : ((words1.drop 24).take 24).all (fun c => isCode c || c.before args0 about1) = true := by decide +kernel
set_option maxRecDepth 65536 in
theorem w_t3 : (((words1.drop 24).drop 24).take 24).all (fun c => isCode c || c.before args0 about1) = true := by decide +kernel
set_option maxRecDepth 65536 in
theorem w_t4 : ((((words1.drop 24).drop 24).drop 24).take 24).all (fun c => isCode c || c.before args0 about1) = true := by decide +kernel
set_option maxRecDepth 65536 in
theorem w_t5 : (((((words1.drop 24).drop 24).drop 24).drop 24).take 24).all (fun c => isCode c || c.before args0 about1) = true := by decide +kernel
set_option maxRecDepth 65536 in
theorem w_t6 : (((((words1.drop 24).drop 24).drop 24).drop 24).drop 24).all (fun c => isCode c || c.before args0 about1) = true := by decide +kernel
theorem w_tables : (allAtoms (Jvm.Cond.code x code maxLocals ret :: tables_1)).before args0 about1 = true := by
  rw [allAtoms_all]
  show words1.all (fun c => c.before args0 about1) = true
  refine all_split ?_ w_codes
  rw [← List.take_append_drop 24 words1, List.all_append, w_t1, ← List.take_append_drop 24 (words1.drop 24), List.all_append, w_t2, ← List.take_append_drop 24 ((words1.drop 24).drop 24), List.all_append, w_t3, ← List.take_append_drop 24 (((words1.drop 24).drop 24).drop 24), List.all_append, w_t4, ← List.take_append_drop 24 ((((words1.drop 24).drop 24).drop 24).drop 24), List.all_append, w_t5, w_t6]
  rfl
set_option maxRecDepth 65536 in
theorem w_rest : rest_1_c.before args0 about1 = true := by decide +kernel
set_option maxRecDepth 65536 in
theorem w_case : (Jvm.Cond.and given_1 narrow_1).before args0 about1 = true := by decide +kernel
set_option maxRecDepth 65536 in
theorem w_consts : constsHeld consts_1 about1 := Jvm.Lit.constsHeldB_iff.mp (by decide +kernel)
theorem w_applies : (headSpec (Jvm.Cond.code x code maxLocals ret :: tables_1) room_1).applies x e0.platform about1 = true :=
  (Spec.applies_iff w_frames).mpr ⟨w_running, w_runnable, w_alone, w_named, w_hears, w_ripe, w_room, w_tables⟩
theorem atStart : AtStart classFile x code maxLocals ret World_1 tables_1 room_1 Calls_1 rest_1 Pre_1 launch0 p0 e0 about1 theMethod args0 below0 :=
  ⟨lists_1, trivial, launch0.admits_env _ _ _, launch0.least_env, fairChoices_fair.cas, fairChoices_fair.clock, w_frames, w_args, w_heap, w_applies, ⟨w_consts, trivial⟩, w_rest, w_case⟩
end start1
theorem witness_1 : WitnessClaimed_1 := ⟨start1.p0, start1.e0, start1.about1, start1.theMethod, start1.args0, start1.below0, start1.atStart⟩
end Jvm.Pilot.@@N@@
