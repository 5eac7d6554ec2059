import JvmDerived
import JvmDerived.Pilot.@@N@@Statement
import JvmDerived.Pilot.@@N@@Code
set_option linter.unusedVariables false
set_option linter.unusedSimpArgs false
/- laws to paste: Road.backV, Road.eqW, Road.chN, Road.codOf (cut by pick.py; bodies as the Statement names them) -/
namespace Jvm.Pilot.@@N@@
namespace StrChars
open Jvm Sem ClassFile Op Lib Jvm.Stand Jvm.Free.XT Jvm.Free.ALB Jvm.Free.JM Jvm.Free
open Jvm.Lib.Cold (StaticIs)
/-- a char array whose places are chars -/
def Ch (a : Addr) (A : Cell) (U : State) : Prop := Arr .char a A U ∧ Typed .char A
theorem Ch.mv {a : Addr} {A : Cell} {U U' : State} (h : Ch a A U) (hal : U.vm.Alike U'.vm) (hh : U'.heap = U.heap) : Ch a A U' := ⟨h.1.mv hal hh, h.2⟩
theorem Ch.keep {a : Addr} {A : Cell} {U U' : State} (h : Ch a A U) (hal : U.vm.Alike U'.vm) (hk : U'.heap[a]? = some A) : Ch a A U' := ⟨h.1.keep hal hk, h.2⟩
/-- what place i of a char[]'s cell holds -/
def cv (A : Cell) (i : Nat) : Int32 := match A.slots[i]? with | some (.int x) => x | _ => 0
theorem Ch.get {a : Addr} {A : Cell} {U : State} (h : Ch a A U) {i : Nat} (hi : i < A.slots.size) : A.slots[i]? = some (.int (cv A i)) := by
  have e := Array.getElem?_eq_getElem hi
  have f := h.2 i _ e
  unfold cv; rw [e]
  generalize A.slots[i] = v at f
  cases v <;> simp [fits] at f ⊢
/-- the byte that i2b leaves of a char -/
def lo8 (x : Int32) : Int32 := x.toInt8.toInt32
theorem fits_lo8 (y : Int32) : fits .byte (.int (lo8 y)) = true := by
  have h1 := y.toInt8.le_toInt
  have h2 := y.toInt8.toInt_lt
  simp only [lo8, fits, Bool.and_eq_true, decide_eq_true_eq, Int32.le_iff_toInt_le, Int8.toInt_toInt32, show (-128 : Int32).toInt = -128 from by decide, show (127 : Int32).toInt = 127 from by decide]
  omega
/-- A' is A but that each place j of lo .. hi - 1 holds f j -/
def Laid (A A' : Cell) (lo hi : Nat) (f : Nat → Value) : Prop := A'.cls = A.cls ∧ A'.vm = A.vm ∧ A'.slots.size = A.slots.size ∧ ∀ i, A'.slots[i]? = if lo ≤ i ∧ i < hi then some (f i) else A.slots[i]?
theorem Laid.zero (A : Cell) (lo : Nat) (f : Nat → Value) : Laid A A lo (lo + 0) f := ⟨rfl, rfl, rfl, fun i => by rw [if_neg (by omega)]⟩
theorem Laid.step {A Ak : Cell} {lo k : Nat} {f : Nat → Value} {v : Value} (h : Laid A Ak lo k f) (hlo : lo ≤ k) (hk : k < Ak.slots.size) (hv : v = f k) : Laid A (Ak.setSlot k v) lo (k + 1) f := by
  refine ⟨h.1, h.2.1, by simpa [Cell.setSlot] using h.2.2.1, fun i => ?_⟩
  by_cases e : k = i
  · subst e; rw [Cell.slots_setSlot_self v hk, if_pos (by omega), hv]
  · rw [Cell.slots_setSlot_ne v e, h.2.2.2 i]
    by_cases q : lo ≤ i ∧ i < k
    · rw [if_pos q, if_pos (by omega)]
    · rw [if_neg q, if_neg (by omega)]
def U16 : String := "java/lang/StringUTF16"
namespace Cmp5
def yN : MethodName := ⟨"java/lang/StringUTF16", "compress", "([CI[BII)I"⟩
abbrev yB : ByteArray := jdk_52_method_21_code
theorem d0 : decode yB 0 = .ok (.iconst 0, 1) := by decide +kernel
theorem d1 : decode yB 1 = .ok (.istore 5, 2) := by decide +kernel
theorem d3 : decode yB 3 = .ok (.iload 5, 2) := by decide +kernel
theorem d5 : decode yB 5 = .ok (.iload 4, 2) := by decide +kernel
theorem d7 : decode yB 7 = .ok (.if_icmp (.ge) 37, 3) := by decide +kernel
theorem d10 : decode yB 10 = .ok (.aload_n 0, 1) := by decide +kernel
theorem d11 : decode yB 11 = .ok (.iload_n 1, 1) := by decide +kernel
theorem d12 : decode yB 12 = .ok (.caload, 1) := by decide +kernel
theorem d13 : decode yB 13 = .ok (.istore 6, 2) := by decide +kernel
theorem d15 : decode yB 15 = .ok (.iload 6, 2) := by decide +kernel
theorem d17 : decode yB 17 = .ok (.sipush 255, 3) := by decide +kernel
theorem d20 : decode yB 20 = .ok (.if_icmp (.le) 6, 3) := by decide +kernel
theorem d26 : decode yB 26 = .ok (.aload_n 2, 1) := by decide +kernel
theorem d27 : decode yB 27 = .ok (.iload_n 3, 1) := by decide +kernel
theorem d28 : decode yB 28 = .ok (.iload 6, 2) := by decide +kernel
theorem d30 : decode yB 30 = .ok (.i2b, 1) := by decide +kernel
theorem d31 : decode yB 31 = .ok (.bastore, 1) := by decide +kernel
theorem d32 : decode yB 32 = .ok (.iinc 1 1, 3) := by decide +kernel
theorem d35 : decode yB 35 = .ok (.iinc 3 1, 3) := by decide +kernel
theorem d38 : decode yB 38 = .ok (.iinc 5 1, 3) := by decide +kernel
theorem d41 : decode yB 41 = .ok (.goto (-38), 3) := by decide +kernel
theorem d44 : decode yB 44 = .ok (.iload 4, 2) := by decide +kernel
theorem d46 : decode yB 46 = .ok (.ireturn, 1) := by decide +kernel
def site : List Cond := []
def tab : Cond := tabOf yN yB 7 (some .int) site
def P (b : Addr) (A : Cell) (d : Addr) (B : Cell) (o q len : Nat) (args : Array Value) (s : State) : Prop := args = #[.ref b, .int (Int32.ofNat o), .ref d, .int (Int32.ofNat q), .int (Int32.ofNat len)] ∧ Ch b A s ∧ Arr .byte d B s ∧ b ≠ d ∧ o + len ≤ A.slots.size ∧ q + len ≤ B.slots.size ∧ ∀ i, i < len → ¬ 255 < cv A (o + i)
def E (b : Addr) (A : Cell) (d : Addr) (B : Cell) (o q len : Nat) (r : Option Value) (s u : State) : Prop := r = some (.int (Int32.ofNat len)) ∧ ∃ B', Put d B' s u ∧ Laid B B' q (q + len) (fun j => Value.int (lo8 (cv A (o + (j - q)))))
/-- no char of the range above 255: len; the places written hold each char's low byte -/
theorem law (l : Launch) (b : Addr) (A : Cell) (d : Addr) (B : Cell) (o q len : Nat) : Law l yN 5 5 0 0 yB 7 (some .int) site (P b A d B o q len) (E b A d B o q len) (copyLocs d q len) 0 0 := by
  refine Law.of_walk (plainFor_of_name (by decide +kernel)) (by decide +kernel) (by decide +kernel) (by decide) (fun _ _ h => by rw [h.1]; rfl) (fun _ U U' hal hh h => ⟨h.1, h.2.1.mv hal hh, h.2.2.1.mv hal hh, h.2.2.2⟩) (fun r U U' V V' h1 hal h2 h => ⟨h.1, h.2.elim fun B' q => ⟨B', q.1.mv h1 h2, q.2⟩⟩) ?_
  intro p e s m args below meth c s₁ X0 hexec hbytes hml hret hlk hnm hown hh0 W hP
  obtain ⟨rfl, hA, hB, hne, l1, l2, hp⟩ := hP
  have c1 : Steps p.tables e below (s₁.setTop (entryFrame m #[.ref b, .int (Int32.ofNat o), .ref d, .int (Int32.ofNat q), .int (Int32.ofNat len)] 7)) (s₁.setTop (mkF m 0 #[.val (.ref b), .val (.int (Int32.ofNat o)), .val (.ref d), .val (.int (Int32.ofNat q)), .val (.int (Int32.ofNat len)), .unset, .unset] [])) := entry rfl
  have hA0 := hA.1.mv X0.warmed.alike hh0
  have hB0 := hB.mv X0.warmed.alike hh0
  have a31 := hA.1.2.2.2
  have c2 : Steps p.tables e below (s₁.setTop (entryFrame m #[.ref b, .int (Int32.ofNat o), .ref d, .int (Int32.ofNat q), .int (Int32.ofNat len)] 7)) (s₁.setTop (mkF m 3 #[.val (.ref b), .val (.int (Int32.ofNat o)), .val (.ref d), .val (.int (Int32.ofNat q)), .val (.int (Int32.ofNat len)), .val (.int 0), .unset] [])) := c1.trans (by
    refine iconstV X0.here hexec rfl 0 (hb hbytes d0) (by decide) ?_
    refine XS.istore X0.here hexec rfl (hb hbytes d1) rfl rfl ?_
    exact Steps.refl _)
  have loop : ∀ (r i : Nat), i + r = len → ∀ (z : Slot), (z = .unset ∨ ∃ w, z = .val w ∧ w.category = 1) → ∀ (Tl : State) (Bk : Cell), Stand p l e { frames := 0, locals := 0, cells := 0, slots := 0 } s m #[.ref b, .int (Int32.ofNat o), .ref d, .int (Int32.ofNat q), .int (Int32.ofNat len)] below meth c Tl ([] ++ copyLocs d q i) 0 0 → Put d Bk s₁ Tl → Laid B Bk q (q + i) (fun j => Value.int (lo8 (cv A (o + (j - q))))) →
      Steps p.tables e below (s₁.setTop (entryFrame m #[.ref b, .int (Int32.ofNat o), .ref d, .int (Int32.ofNat q), .int (Int32.ofNat len)] 7)) (Tl.setTop (mkF m 3 #[.val (.ref b), .val (.int (Int32.ofNat (o + i))), .val (.ref d), .val (.int (Int32.ofNat (q + i))), .val (.int (Int32.ofNat len)), .val (.int (Int32.ofNat i)), z] [])) → ∃ (T' : State) (B' : Cell) (z' : Slot), Stand p l e { frames := 0, locals := 0, cells := 0, slots := 0 } s m #[.ref b, .int (Int32.ofNat o), .ref d, .int (Int32.ofNat q), .int (Int32.ofNat len)] below meth c T' ([] ++ copyLocs d q len) 0 0 ∧ Put d B' s₁ T' ∧ Laid B B' q (q + len) (fun j => Value.int (lo8 (cv A (o + (j - q))))) ∧
      Steps p.tables e below (s₁.setTop (entryFrame m #[.ref b, .int (Int32.ofNat o), .ref d, .int (Int32.ofNat q), .int (Int32.ofNat len)] 7)) (T'.setTop (mkF m 3 #[.val (.ref b), .val (.int (Int32.ofNat (o + len))), .val (.ref d), .val (.int (Int32.ofNat (q + len))), .val (.int (Int32.ofNat len)), .val (.int (Int32.ofNat len)), z'] [])) := by
    intro r
    induction r with
    | zero =>
      intro i hi z hz Tl Bk Xl pl fl cl
      have hil : i = len := by omega
      rw [hil] at Xl fl cl
      exact ⟨Tl, Bk, z, Xl, pl, fl, cl⟩
    | succ r ih =>
      intro i hi z hz Tl Bk Xl pl fl cl
      have all := X0.warmed.alike.symm.trans Xl.warmed.alike
      have hAl := hA0.keep all (pl.other hne hA0.1)
      have hBk := hB0.like all pl.1 fl.1 fl.2.1 fl.2.2.1
      have hlt : q + i < Bk.slots.size := by rw [fl.2.2.1]; omega
      have c3 : Steps p.tables e below (s₁.setTop (entryFrame m #[.ref b, .int (Int32.ofNat o), .ref d, .int (Int32.ofNat q), .int (Int32.ofNat len)] 7)) (Tl.setTop (mkF m 12 #[.val (.ref b), .val (.int (Int32.ofNat (o + i))), .val (.ref d), .val (.int (Int32.ofNat (q + i))), .val (.int (Int32.ofNat len)), .val (.int (Int32.ofNat i)), z] [.int (Int32.ofNat (o + i)), .ref b])) := cl.trans (by
        refine XS.iload Xl.here hexec rfl (hb hbytes d3) rfl ?_
        refine XS.iload Xl.here hexec rfl (hb hbytes d5) rfl ?_
        refine XS.icmpNo Xl.here hexec rfl (hb hbytes d7) rfl (ii_ge_f (lt32 (by omega) (by omega))) ?_
        refine XS.aloadN Xl.here hexec rfl (hb hbytes d10) rfl rfl ?_
        refine XS.iloadN Xl.here hexec rfl (hb hbytes d11) rfl ?_
        exact Steps.refl _)
      have c4 : Steps p.tables e below (s₁.setTop (entryFrame m #[.ref b, .int (Int32.ofNat o), .ref d, .int (Int32.ofNat q), .int (Int32.ofNat len)] 7)) (Tl.setTop (mkF m 13 #[.val (.ref b), .val (.int (Int32.ofNat (o + i))), .val (.ref d), .val (.int (Int32.ofNat (q + i))), .val (.int (Int32.ofNat len)), .val (.int (Int32.ofNat i)), z] [.int (cv A (o + i))])) := c3.trans (by
        refine Xl.aget hexec hAl rfl (hA.get (i := o + i) (by omega)) rfl rfl (hb hbytes d12) ?_
        exact Steps.refl _)
      have c5 : Steps p.tables e below (s₁.setTop (entryFrame m #[.ref b, .int (Int32.ofNat o), .ref d, .int (Int32.ofNat q), .int (Int32.ofNat len)] 7)) (Tl.setTop (mkF m 15 #[.val (.ref b), .val (.int (Int32.ofNat (o + i))), .val (.ref d), .val (.int (Int32.ofNat (q + i))), .val (.int (Int32.ofNat len)), .val (.int (Int32.ofNat i)), .val (.int (cv A (o + i)))] [])) := c4.trans (by
        refine XS.istoreS Xl.here hexec rfl (hb hbytes d13) rfl rfl hz ?_
        exact Steps.refl _)
      have c6 : Steps p.tables e below (s₁.setTop (entryFrame m #[.ref b, .int (Int32.ofNat o), .ref d, .int (Int32.ofNat q), .int (Int32.ofNat len)] 7)) (Tl.setTop (mkF m 31 #[.val (.ref b), .val (.int (Int32.ofNat (o + i))), .val (.ref d), .val (.int (Int32.ofNat (q + i))), .val (.int (Int32.ofNat len)), .val (.int (Int32.ofNat i)), .val (.int (cv A (o + i)))] [.int (lo8 (cv A (o + i))), .int (Int32.ofNat (q + i)), .ref d])) := c5.trans (by
        refine XS.iload Xl.here hexec rfl (hb hbytes d15) rfl ?_
        refine sipushV Xl.here hexec rfl 255 (hb hbytes d17) (by decide) ?_
        refine XS.icmpYes Xl.here hexec rfl (pc0 := 20) rfl (hb hbytes d20) rfl (ii_le_t (hp i (by omega))) (by decide) rfl ?_
        refine XS.aloadN Xl.here hexec rfl (hb hbytes d26) rfl rfl ?_
        refine XS.iloadN Xl.here hexec rfl (hb hbytes d27) rfl ?_
        refine XS.iload Xl.here hexec rfl (hb hbytes d28) rfl ?_
        refine i2b Xl.here hexec rfl (hb hbytes d30) rfl ?_
        exact Steps.refl _)
      obtain ⟨T7, X7, p7, st7⟩ := Xl.aput hexec hBk rfl hlt rfl (fits_lo8 (cv A (o + i))) (g := (mkF m 31 #[.val (.ref b), .val (.int (Int32.ofNat (o + i))), .val (.ref d), .val (.int (Int32.ofNat (q + i))), .val (.int (Int32.ofNat len)), .val (.int (Int32.ofNat i)), .val (.int (cv A (o + i)))] [.int (lo8 (cv A (o + i))), .int (Int32.ofNat (q + i)), .ref d])) rfl (rest := []) rfl (hb hbytes d31)
      have c8 : Steps p.tables e below (s₁.setTop (entryFrame m #[.ref b, .int (Int32.ofNat o), .ref d, .int (Int32.ofNat q), .int (Int32.ofNat len)] 7)) (T7.setTop (mkF m 32 #[.val (.ref b), .val (.int (Int32.ofNat (o + i))), .val (.ref d), .val (.int (Int32.ofNat (q + i))), .val (.int (Int32.ofNat len)), .val (.int (Int32.ofNat i)), .val (.int (cv A (o + i)))] [])) := c6.trans (st7 _ (Steps.refl _))
      have c9 : Steps p.tables e below (s₁.setTop (entryFrame m #[.ref b, .int (Int32.ofNat o), .ref d, .int (Int32.ofNat q), .int (Int32.ofNat len)] 7)) (T7.setTop (mkF m 3 #[.val (.ref b), .val (.int (Int32.ofNat (o + i) + 1)), .val (.ref d), .val (.int (Int32.ofNat (q + i) + 1)), .val (.int (Int32.ofNat len)), .val (.int (Int32.ofNat i + 1)), .val (.int (cv A (o + i)))] [])) := c8.trans (by
        refine iincV X7.here hexec rfl 1 (hb hbytes d32) (by decide) rfl rfl ?_
        refine iincV X7.here hexec rfl 1 (hb hbytes d35) (by decide) rfl rfl ?_
        refine iincV X7.here hexec rfl 1 (hb hbytes d38) (by decide) rfl rfl ?_
        refine XS.goto X7.here hexec rfl (pc0 := 41) rfl (hb hbytes d41) (by decide) rfl ?_
        exact Steps.refl _)
      have c10 : Steps p.tables e below (s₁.setTop (entryFrame m #[.ref b, .int (Int32.ofNat o), .ref d, .int (Int32.ofNat q), .int (Int32.ofNat len)] 7)) (T7.setTop (mkF m 3 #[.val (.ref b), .val (.int (Int32.ofNat (o + (i + 1)))), .val (.ref d), .val (.int (Int32.ofNat (q + (i + 1)))), .val (.int (Int32.ofNat len)), .val (.int (Int32.ofNat (i + 1))), .val (.int (cv A (o + i)))] [])) := by
        have := c9
        rw [succ32, succ32, succ32] at this
        exact this
      exact ih (i + 1) (by omega) _ (Or.inr ⟨_, rfl, rfl⟩) T7 _ (by rw [copyLocs_step, ← List.append_assoc]; exact X7) (pl.trans p7) (fl.step (by omega) hlt (by simp)) c10
  obtain ⟨T9, B9, z9, X9, p9, f9, g9⟩ := loop len 0 (by omega) .unset (Or.inl rfl) s₁ B (by simpa [copyLocs] using X0) ⟨hB0.1, fun _ _ => rfl, rfl⟩ (Laid.zero _ _ _) c2
  have c11 : Steps p.tables e below (s₁.setTop (entryFrame m #[.ref b, .int (Int32.ofNat o), .ref d, .int (Int32.ofNat q), .int (Int32.ofNat len)] 7)) (T9.setTop (mkF m 46 #[.val (.ref b), .val (.int (Int32.ofNat (o + len))), .val (.ref d), .val (.int (Int32.ofNat (q + len))), .val (.int (Int32.ofNat len)), .val (.int (Int32.ofNat len)), z9] [.int (Int32.ofNat len)])) := g9.trans (by
    refine XS.iload X9.here hexec rfl (hb hbytes d3) rfl ?_
    refine XS.iload X9.here hexec rfl (hb hbytes d5) rfl ?_
    refine XS.icmpYes X9.here hexec rfl (pc0 := 7) rfl (hb hbytes d7) rfl (ii_ge_t (nlt32 (by omega) (Nat.le_refl _))) (by decide) rfl ?_
    refine XS.iload X9.here hexec rfl (hb hbytes d44) rfl ?_
    exact Steps.refl _)
  exact ⟨T9, some (.int (Int32.ofNat len)), _, _, _, X9, by simp, rfl, rfl, (fun h => by cases h), ⟨rfl, B9, p9.from hh0, f9⟩, fun fs hl => c11.trans (X9.ireturnOut hexec hret rfl (Or.inl rfl) (hb hbytes d46) hl)⟩
end Cmp5
namespace Cmp3
def yN : MethodName := ⟨"java/lang/StringUTF16", "compress", "([CII)[B"⟩
abbrev yB : ByteArray := jdk_52_method_16_code
theorem d0 : decode yB 0 = .ok (.iload_n 2, 1) := by decide +kernel
theorem d1 : decode yB 1 = .ok (.newarray .byte, 2) := by decide +kernel
theorem d3 : decode yB 3 = .ok (.astore_n 3, 1) := by decide +kernel
theorem d4 : decode yB 4 = .ok (.aload_n 0, 1) := by decide +kernel
theorem d5 : decode yB 5 = .ok (.iload_n 1, 1) := by decide +kernel
theorem d6 : decode yB 6 = .ok (.aload_n 3, 1) := by decide +kernel
theorem d7 : decode yB 7 = .ok (.iconst 0, 1) := by decide +kernel
theorem d8 : decode yB 8 = .ok (.iload_n 2, 1) := by decide +kernel
theorem d9 : decode yB 9 = .ok (.invokestatic 115, 3) := by decide +kernel
theorem d12 : decode yB 12 = .ok (.istore 4, 2) := by decide +kernel
theorem d14 : decode yB 14 = .ok (.iload 4, 2) := by decide +kernel
theorem d16 : decode yB 16 = .ok (.iload_n 2, 1) := by decide +kernel
theorem d17 : decode yB 17 = .ok (.if_icmp (.eq) 40, 3) := by decide +kernel
theorem d57 : decode yB 57 = .ok (.aload_n 3, 1) := by decide +kernel
theorem d58 : decode yB 58 = .ok (.areturn, 1) := by decide +kernel
def site : List Cond := [.arrayClass .byte, Cmp5.tab] ++ staticW U16 115 Cmp5.yN
def tab : Cond := tabOf yN yB 6 (some (.array .byte)) site
def P (b : Addr) (A : Cell) (o len : Nat) (args : Array Value) (s : State) : Prop := args = #[.ref b, .int (Int32.ofNat o), .int (Int32.ofNat len)] ∧ Ch b A s ∧ o + len ≤ A.slots.size ∧ len ≤ 536870912 ∧ ∀ i, i < len → ¬ 255 < cv A (o + i)
def E (b : Addr) (A : Cell) (o len : Nat) (r : Option Value) (s u : State) : Prop := NewArr .byte "[B" len (fun j => .int (lo8 (cv A (o + j)))) r s u ∧ u.heap.size = s.heap.size + 1
/-- no char of the range above 255: a new byte[] of their low bytes -/
theorem law (l : Launch) (b : Addr) (A : Cell) (o len : Nat) : Law l yN 3 3 1 18 yB 6 (some (.array .byte)) site (P b A o len) (E b A o len) [] 1 len := by
  refine Law.of_walk (plainFor_of_name (by decide +kernel)) (by decide +kernel) (by decide +kernel) (by decide) (fun _ _ h => by rw [h.1]; rfl) (fun _ U U' hal hh h => ⟨h.1, h.2.1.mv hal hh, h.2.2⟩) (fun r U U' V V' h1 hal h2 h => ⟨NewArr.mv r U U' V V' h1 hal h2 h.1, by rw [h1, h2]; exact h.2⟩) ?_
  intro p e s m args below meth c s₁ X0 hexec hbytes hml hret hlk hnm hown hh0 W hP
  obtain ⟨rfl, hA, l1, l2, hp⟩ := hP
  have a31 := hA.1.2.2.2
  have c1 : Steps p.tables e below (s₁.setTop (entryFrame m #[.ref b, .int (Int32.ofNat o), .int (Int32.ofNat len)] 6)) (s₁.setTop (mkF m 0 #[.val (.ref b), .val (.int (Int32.ofNat o)), .val (.int (Int32.ofNat len)), .unset, .unset, .unset] [])) := entry rfl
  have c2 : Steps p.tables e below (s₁.setTop (entryFrame m #[.ref b, .int (Int32.ofNat o), .int (Int32.ofNat len)] 6)) (s₁.setTop (mkF m 1 #[.val (.ref b), .val (.int (Int32.ofNat o)), .val (.int (Int32.ofNat len)), .unset, .unset, .unset] [.int (Int32.ofNat len)])) := c1.trans (by
    refine XS.iloadN X0.here hexec rfl (hb hbytes d0) rfl ?_
    exact Steps.refl _)
  obtain ⟨T3, B3, X3, ba3, bs3, bv3, bh3, bf3, st3⟩ := X0.anew hexec (atype := .byte) (wk W (.arrayClass .byte)) rfl (by show len * 1 ≤ _; omega) (by omega) (g := (mkF m 1 #[.val (.ref b), .val (.int (Int32.ofNat o)), .val (.int (Int32.ofNat len)), .unset, .unset, .unset] [.int (Int32.ofNat len)])) rfl (hb hbytes d1) (rest := []) rfl (Nat.le_refl _) (by show 0 + len ≤ len; omega)
  rw [hh0] at ba3 st3
  have kp3 : XT.Kept s T3 := (XT.Kept.of_eq hh0).push bh3
  have hA3 := hA.keep X3.warmed.alike (kp3 _ _ hA.1.1)
  have hne : b ≠ s.heap.size := hA.1.ne
  have c4 : Steps p.tables e below (s₁.setTop (entryFrame m #[.ref b, .int (Int32.ofNat o), .int (Int32.ofNat len)] 6)) (T3.setTop (mkF m 3 #[.val (.ref b), .val (.int (Int32.ofNat o)), .val (.int (Int32.ofNat len)), .unset, .unset, .unset] [.ref s.heap.size])) := c2.trans (st3 _ (Steps.refl _))
  have c5 : Steps p.tables e below (s₁.setTop (entryFrame m #[.ref b, .int (Int32.ofNat o), .int (Int32.ofNat len)] 6)) (T3.setTop (mkF m 9 #[.val (.ref b), .val (.int (Int32.ofNat o)), .val (.int (Int32.ofNat len)), .val (.ref s.heap.size), .unset, .unset] [.int (Int32.ofNat len), .int 0, .ref s.heap.size, .int (Int32.ofNat o), .ref b])) := c4.trans (by
    refine XS.astoreN X3.here hexec rfl (hb hbytes d3) rfl rfl rfl ?_
    refine XS.aloadN X3.here hexec rfl (hb hbytes d4) rfl rfl ?_
    refine XS.iloadN X3.here hexec rfl (hb hbytes d5) rfl ?_
    refine XS.aloadN X3.here hexec rfl (hb hbytes d6) rfl rfl ?_
    refine iconstV X3.here hexec rfl 0 (hb hbytes d7) (by decide) ?_
    refine XS.iloadN X3.here hexec rfl (hb hbytes d8) rfl ?_
    exact Steps.refl _)
  obtain ⟨v6, T6, X6, E6, g6⟩ := X3.callS hexec (Cmp5.law l b A s.heap.size B3 o 0 len) hown (wks W (staticW U16 115 Cmp5.yN)) (wk W Cmp5.tab) (W := 0) (Nat.le_of_ble_eq_true rfl) (Nat.le_of_ble_eq_true rfl) (Nat.le_refl _) (by show 0 + len + 0 ≤ len; omega) (g := (mkF m 9 #[.val (.ref b), .val (.int (Int32.ofNat o)), .val (.int (Int32.ofNat len)), .val (.ref s.heap.size), .unset, .unset] [.int (Int32.ofNat len), .int (Int32.ofNat 0), .ref s.heap.size, .int (Int32.ofNat o), .ref b])) rfl (by rw [hml]; rfl) c5 (argsL := [.ref b, .int (Int32.ofNat o), .ref s.heap.size, .int (Int32.ofNat 0), .int (Int32.ofNat len)]) (rest := []) rfl rfl (by show 2 * 0 + 0 ≤ _; decide) (hb hbytes d9) (⟨rfl, hA3, ba3, hne, l1, by rw [bs3]; simp, hp⟩)
  obtain ⟨rfl, B6, p6, f6⟩ := E6
  have c7 : Steps p.tables e below (s₁.setTop (entryFrame m #[.ref b, .int (Int32.ofNat o), .int (Int32.ofNat len)] 6)) (T6.setTop (mkF m 12 #[.val (.ref b), .val (.int (Int32.ofNat o)), .val (.int (Int32.ofNat len)), .val (.ref s.heap.size), .unset, .unset] [.int (Int32.ofNat len)])) := g6
  have c8 : Steps p.tables e below (s₁.setTop (entryFrame m #[.ref b, .int (Int32.ofNat o), .int (Int32.ofNat len)] 6)) (T6.setTop (mkF m 58 #[.val (.ref b), .val (.int (Int32.ofNat o)), .val (.int (Int32.ofNat len)), .val (.ref s.heap.size), .val (.int (Int32.ofNat len)), .unset] [.ref s.heap.size])) := c7.trans (by
    refine XS.istore X6.here hexec rfl (hb hbytes d12) rfl rfl ?_
    refine XS.iload X6.here hexec rfl (hb hbytes d14) rfl ?_
    refine XS.iloadN X6.here hexec rfl (hb hbytes d16) rfl ?_
    refine XS.icmpYes X6.here hexec rfl (pc0 := 17) rfl (hb hbytes d17) rfl (ii_eq_t rfl) (by decide) rfl ?_
    refine XS.aloadN X6.here hexec rfl (hb hbytes d57) rfl rfl ?_
    exact Steps.refl _)
  have X8 := X6.wide (L' := []) (cells' := 1) (slots' := len) (fun x hx hlt => by
    simp only [List.nil_append, copyLocs, List.mem_map, List.mem_range] at hx
    obtain ⟨i, -, rfl⟩ := hx
    exact absurd hlt (Nat.lt_irrefl _)) (Nat.le_refl _) (by omega)
  exact ⟨T6, some (.ref s.heap.size), _, _, _, X8, rfl, rfl, rfl, (fun h => by cases h), ⟨⟨rfl, B6, ba3.like (X3.warmed.alike.symm.trans X6.warmed.alike) p6.1 f6.1 f6.2.1 f6.2.2.1, f6.2.1.trans bv3, by rw [X6.warmed.alike.findClass, f6.1]; exact bf3, by rw [f6.2.2.1, bs3]; simp, fun j hj => by rw [f6.2.2.2 j, if_pos (by omega)]; rfl, kp3.put p6 (Nat.le_refl _)⟩, by rw [p6.2.2, bh3, hh0]; simp⟩, fun fs hl => c8.trans (X8.areturnOut hexec rfl hret rfl (hb hbytes d58) hl)⟩
end Cmp3
namespace CodL
def yN : MethodName := ⟨"java/lang/StringUTF16", "coderFromArrayLen", "([BI)B"⟩
abbrev yB : ByteArray := jdk_52_method_15_code
theorem d0 : decode yB 0 = .ok (.iload_n 1, 1) := by decide +kernel
theorem d1 : decode yB 1 = .ok (.aload_n 0, 1) := by decide +kernel
theorem d2 : decode yB 2 = .ok (.arraylength, 1) := by decide +kernel
theorem d3 : decode yB 3 = .ok (.isub, 1) := by decide +kernel
theorem d4 : decode yB 4 = .ok (.bipush 31, 2) := by decide +kernel
theorem d6 : decode yB 6 = .ok (.iushr, 1) := by decide +kernel
theorem d7 : decode yB 7 = .ok (.i2b, 1) := by decide +kernel
theorem d8 : decode yB 8 = .ok (.ireturn, 1) := by decide +kernel
def site : List Cond := []
def tab : Cond := tabOf yN yB 2 (some .byte) site
def P (d : Addr) (B : Cell) (args : Array Value) (s : State) : Prop := args = #[.ref d, .int (Int32.ofNat B.slots.size)] ∧ Arr .byte d B s
def E (r : Option Value) (s u : State) : Prop := XT.PureE (some (.int 0)) r s u
/-- an array as long as the number of chars: LATIN1 -/
theorem law (l : Launch) (d : Addr) (B : Cell) : Law l yN 2 2 0 0 yB 2 (some .byte) site (P d B) E [] 0 0 := by
  refine Law.of_walk (plainFor_of_name (by decide +kernel)) (by decide +kernel) (by decide +kernel) (by decide) (fun _ _ h => by rw [h.1]; rfl) (fun _ U U' hal hh h => ⟨h.1, h.2.mv hal hh⟩) (fun r U U' V V' h1 hal h2 h => XT.PureE.mv r U U' V V' h1 hal h2 h) ?_
  intro p e s m args below meth c s₁ X0 hexec hbytes hml hret hlk hnm hown hh0 W hP
  obtain ⟨rfl, hB⟩ := hP
  have hB0 := hB.mv X0.warmed.alike hh0
  have c1 : Steps p.tables e below (s₁.setTop (entryFrame m #[.ref d, .int (Int32.ofNat B.slots.size)] 2)) (s₁.setTop (mkF m 0 #[.val (.ref d), .val (.int (Int32.ofNat B.slots.size))] [])) := entry rfl
  have c2 : Steps p.tables e below (s₁.setTop (entryFrame m #[.ref d, .int (Int32.ofNat B.slots.size)] 2)) (s₁.setTop (mkF m 2 #[.val (.ref d), .val (.int (Int32.ofNat B.slots.size))] [.ref d, .int (Int32.ofNat B.slots.size)])) := c1.trans (by
    refine XS.iloadN X0.here hexec rfl (hb hbytes d0) rfl ?_
    refine XS.aloadN X0.here hexec rfl (hb hbytes d1) rfl rfl ?_
    exact Steps.refl _)
  have c3 : Steps p.tables e below (s₁.setTop (entryFrame m #[.ref d, .int (Int32.ofNat B.slots.size)] 2)) (s₁.setTop (mkF m 8 #[.val (.ref d), .val (.int (Int32.ofNat B.slots.size))] [.int (lo8 (ushr (Int32.ofNat B.slots.size - Int32.ofNat B.slots.size) 31))])) := c2.trans (by
    refine X0.alen hexec hB0 rfl rfl (hb hbytes d2) ?_
    refine XS.isub X0.here hexec rfl (hb hbytes d3) rfl ?_
    refine bipushV X0.here hexec rfl 31 (hb hbytes d4) (by decide) ?_
    refine iushr X0.here hexec rfl (hb hbytes d6) rfl ?_
    refine i2b X0.here hexec rfl (hb hbytes d7) rfl ?_
    exact Steps.refl _)
  have e0 : lo8 (ushr (Int32.ofNat B.slots.size - Int32.ofNat B.slots.size) 31) = 0 := by rw [Int32.sub_self]; decide
  rw [e0] at c3
  exact ⟨s₁, some (.int 0), _, _, _, X0, rfl, rfl, rfl, (fun h => by cases h), ⟨rfl, hh0⟩, fun fs hl => c3.trans (X0.ireturnOut hexec hret rfl (Or.inr (Or.inr (Or.inl rfl))) (hb hbytes d8) hl)⟩
end CodL
/-- the String at a is Latin-1 over a new byte[] (the heap's one new cell): the low bytes of the len chars of A from o on; every cell but a is kept -/
def Got (a : Addr) (D : Cell) (fV fC : Field) (A : Cell) (o len : Nat) (r : Option Value) (s u : State) : Prop := r = none ∧ ∃ D' V : Cell, Blank "java/lang/String" a D' u ∧ Same D D' [fV.slot, fC.slot] ∧ D'.slots[fV.slot]? = some (.ref s.heap.size) ∧ D'.slots[fC.slot]? = some (.int 0) ∧ Arr .byte s.heap.size V u ∧ V.vm = .none ∧ u.vm.findClass "[B" = some V.cls ∧ V.slots.size = len ∧ (∀ j, j < len → V.slots[j]? = some (.int (lo8 (cv A (o + j))))) ∧ (∀ (y : Addr) (c : Cell), y ≠ a → s.heap[y]? = some c → u.heap[y]? = some c) ∧ u.heap.size = s.heap.size + 1
theorem Got.mv {a : Addr} {D A : Cell} {fV fC : Field} {o len : Nat} : ∀ r (U U' V V' : State), U'.heap = U.heap → V.vm.Alike V'.vm → V'.heap = V.heap → Got a D fV fC A o len r U V → Got a D fV fC A o len r U' V' :=
  fun r U U' V V' h1 hal h2 ⟨e0, D', X, a1, a2, a3, a4, a5, a6, a7, a8, a9, a10, a11⟩ => ⟨e0, D', X, a1.mv hal h2, a2, by rw [h1]; exact a3, a4, by rw [h1]; exact a5.mv hal h2, a6, by rw [hal.findClass]; exact a7, a8, a9, by rw [h1, h2]; exact a10, by rw [h1, h2]; exact a11⟩
namespace New4
def yN : MethodName := ⟨"java/lang/String", "<init>", "([CIILjava/lang/Void;)V"⟩
abbrev yB : ByteArray := jdk_42_method_149_code
theorem d0 : decode yB 0 = .ok (.aload_n 0, 1) := by decide +kernel
theorem d1 : decode yB 1 = .ok (.invokespecial 1, 3) := by decide +kernel
theorem d4 : decode yB 4 = .ok (.iload_n 3, 1) := by decide +kernel
theorem d5 : decode yB 5 = .ok (.ifCond (.ne) 22, 3) := by decide +kernel
theorem d27 : decode yB 27 = .ok (.getstatic 38, 3) := by decide +kernel
theorem d30 : decode yB 30 = .ok (.ifCond (.eq) 28, 3) := by decide +kernel
theorem d33 : decode yB 33 = .ok (.aload_n 1, 1) := by decide +kernel
theorem d34 : decode yB 34 = .ok (.iload_n 2, 1) := by decide +kernel
theorem d35 : decode yB 35 = .ok (.iload_n 3, 1) := by decide +kernel
theorem d36 : decode yB 36 = .ok (.invokestatic 177, 3) := by decide +kernel
theorem d39 : decode yB 39 = .ok (.astore 5, 2) := by decide +kernel
theorem d41 : decode yB 41 = .ok (.aload_n 0, 1) := by decide +kernel
theorem d42 : decode yB 42 = .ok (.aload 5, 2) := by decide +kernel
theorem d44 : decode yB 44 = .ok (.iload_n 3, 1) := by decide +kernel
theorem d45 : decode yB 45 = .ok (.invokestatic 47, 3) := by decide +kernel
theorem d48 : decode yB 48 = .ok (.putfield 15, 3) := by decide +kernel
theorem d51 : decode yB 51 = .ok (.aload_n 0, 1) := by decide +kernel
theorem d52 : decode yB 52 = .ok (.aload 5, 2) := by decide +kernel
theorem d54 : decode yB 54 = .ok (.putfield 9, 3) := by decide +kernel
theorem d57 : decode yB 57 = .ok (.return_, 1) := by decide +kernel
def site : List Cond := [.fieldLink "java/lang/String" 38 "java/lang/String" "COMPACT_STRINGS" "Z", Cmp3.tab, CodL.tab, .laysFinal "java/lang/String" "java/lang/String" "value" "[B", .fieldLink "java/lang/String" 9 "java/lang/String" "value" "[B", .laysFinal "java/lang/String" "java/lang/String" "coder" "B", .fieldLink "java/lang/String" 15 "java/lang/String" "coder" "B"] ++ objW "java/lang/String" 1 ++ staticW "java/lang/String" 177 Cmp3.yN ++ staticW "java/lang/String" 47 CodL.yN
def tab : Cond := tabOf yN yB 6 none site
def P (a : Addr) (D : Cell) (fV fC : Field) (b : Addr) (A : Cell) (z : Int32) (o len : Nat) (args : Array Value) (s : State) : Prop := args = #[.ref a, .ref b, .int (Int32.ofNat o), .int (Int32.ofNat len), .null] ∧ Blank "java/lang/String" a D s ∧ Found "java/lang/String" "value" "[B" fV s ∧ Found "java/lang/String" "coder" "B" fC s ∧ Ch b A s ∧ StaticIs s "java/lang/String" "COMPACT_STRINGS" "Z" (.int z) ∧ ¬ z = 0 ∧ 0 < len ∧ o + len ≤ A.slots.size ∧ len ≤ 536870912 ∧ ∀ i, i < len → ¬ 255 < cv A (o + i)
def E (a : Addr) (D : Cell) (fV fC : Field) (A : Cell) (o len : Nat) (r : Option Value) (s u : State) : Prop := Got a D fV fC A o len r s u
/-- len > 0, no char of the range above 255: a Latin-1 String of their low bytes -/
theorem law (l : Launch) (a : Addr) (D : Cell) (fV fC : Field) (b : Addr) (A : Cell) (z : Int32) (o len : Nat) : Law l yN 5 4 2 35 yB 6 none site (P a D fV fC b A z o len) (E a D fV fC A o len) [⟨a, fC.slot⟩, ⟨a, fV.slot⟩] 1 len := by
  refine Law.of_walk (plainFor_of_name (by decide +kernel)) (by decide +kernel) (by decide +kernel) (by decide) (fun _ _ h => by rw [h.1]; rfl) (fun _ U U' hal hh h => ⟨h.1, h.2.1.mv hal hh, h.2.2.1.al hal, h.2.2.2.1.al hal, h.2.2.2.2.1.mv hal hh, h.2.2.2.2.2.1.there hal hh, h.2.2.2.2.2.2⟩) (fun r U U' V V' h1 hal h2 h => Got.mv r U U' V V' h1 hal h2 h) ?_
  intro p e s m args below meth c s₁ X0 hexec hbytes hml hret hlk hnm hown hh0 W hP
  obtain ⟨rfl, hB, f1, f2, hA, s1, hz, l0, l1, l2, hp⟩ := hP
  have a31 := hA.1.2.2.2
  have c1 : Steps p.tables e below (s₁.setTop (entryFrame m #[.ref a, .ref b, .int (Int32.ofNat o), .int (Int32.ofNat len), .null] 6)) (s₁.setTop (mkF m 0 #[.val (.ref a), .val (.ref b), .val (.int (Int32.ofNat o)), .val (.int (Int32.ofNat len)), .val .null, .unset] [])) := entry rfl
  have c2 : Steps p.tables e below (s₁.setTop (entryFrame m #[.ref a, .ref b, .int (Int32.ofNat o), .int (Int32.ofNat len), .null] 6)) (s₁.setTop (mkF m 1 #[.val (.ref a), .val (.ref b), .val (.int (Int32.ofNat o)), .val (.int (Int32.ofNat len)), .val .null, .unset] [.ref a])) := c1.trans (by
    refine XS.aloadN X0.here hexec rfl (hb hbytes d0) rfl rfl ?_
    exact Steps.refl _)
  obtain ⟨T3, X3, q3, st3⟩ := X0.oinit hexec hown (wks W (objW "java/lang/String" 1)) (g := (mkF m 1 #[.val (.ref a), .val (.ref b), .val (.int (Int32.ofNat o)), .val (.int (Int32.ofNat len)), .val .null, .unset] [.ref a])) rfl (by rw [hml]; rfl) (rest := []) rfl (hb hbytes d1) (W := 0) (by show 2 * 0 + 0 ≤ _; decide) (Nat.le_of_ble_eq_true rfl) (Nat.le_of_ble_eq_true rfl)
  have hh3 := q3.trans hh0
  have c4 : Steps p.tables e below (s₁.setTop (entryFrame m #[.ref a, .ref b, .int (Int32.ofNat o), .int (Int32.ofNat len), .null] 6)) (T3.setTop (mkF m 27 #[.val (.ref a), .val (.ref b), .val (.int (Int32.ofNat o)), .val (.int (Int32.ofNat len)), .val .null, .unset] [])) := (c2.trans (st3 _ (Steps.refl _))).trans (by
    refine XS.iloadN X3.here hexec rfl (hb hbytes d4) rfl ?_
    refine XS.ifYes X3.here hexec rfl (pc0 := 5) rfl (hb hbytes d5) rfl (i0_ne_t (nz32 (by omega) l0)) (by decide) rfl ?_
    exact Steps.refl _)
  obtain ⟨T5, X5, q5, st5⟩ := X3.sget hexec hown (wk W (.fieldLink "java/lang/String" 38 "java/lang/String" "COMPACT_STRINGS" "Z")) s1 (fun _ _ h => by rw [hh3]; exact h) (g := (mkF m 27 #[.val (.ref a), .val (.ref b), .val (.int (Int32.ofNat o)), .val (.int (Int32.ofNat len)), .val .null, .unset] [])) rfl (hb hbytes d27)
  have hh5 := q5.trans hh3
  have c6 : Steps p.tables e below (s₁.setTop (entryFrame m #[.ref a, .ref b, .int (Int32.ofNat o), .int (Int32.ofNat len), .null] 6)) (T5.setTop (mkF m 30 #[.val (.ref a), .val (.ref b), .val (.int (Int32.ofNat o)), .val (.int (Int32.ofNat len)), .val .null, .unset] [.int z])) := c4.trans (st5 _ (Steps.refl _))
  have c7 : Steps p.tables e below (s₁.setTop (entryFrame m #[.ref a, .ref b, .int (Int32.ofNat o), .int (Int32.ofNat len), .null] 6)) (T5.setTop (mkF m 36 #[.val (.ref a), .val (.ref b), .val (.int (Int32.ofNat o)), .val (.int (Int32.ofNat len)), .val .null, .unset] [.int (Int32.ofNat len), .int (Int32.ofNat o), .ref b])) := c6.trans (by
    refine XS.ifNo X5.here hexec rfl (hb hbytes d30) rfl (i0_eq_f hz) ?_
    refine XS.aloadN X5.here hexec rfl (hb hbytes d33) rfl rfl ?_
    refine XS.iloadN X5.here hexec rfl (hb hbytes d34) rfl ?_
    refine XS.iloadN X5.here hexec rfl (hb hbytes d35) rfl ?_
    exact Steps.refl _)
  obtain ⟨v8, T8, X8, E8, g8⟩ := X5.callS hexec (Cmp3.law l b A o len) hown (wks W (staticW "java/lang/String" 177 Cmp3.yN)) (wk W Cmp3.tab) (W := 0) (Nat.le_of_ble_eq_true rfl) (Nat.le_of_ble_eq_true rfl) (Nat.le_refl _) (by show 0 + len ≤ len; omega) (g := (mkF m 36 #[.val (.ref a), .val (.ref b), .val (.int (Int32.ofNat o)), .val (.int (Int32.ofNat len)), .val .null, .unset] [.int (Int32.ofNat len), .int (Int32.ofNat o), .ref b])) rfl (by rw [hml]; rfl) c7 (argsL := [.ref b, .int (Int32.ofNat o), .int (Int32.ofNat len)]) (rest := []) rfl rfl (by show 2 * 0 + 0 ≤ _; decide) (hb hbytes d36) (⟨rfl, hA.mv X5.warmed.alike hh5, l1, l2, hp⟩)
  obtain ⟨e8, z8⟩ := E8
  obtain ⟨rfl, N, n1, n2, n3, n4, n5, n6⟩ := NewArr.mv _ T5 s _ _ hh5.symm (Vm.Alike.refl _) rfl e8
  rw [hh5] at z8
  have hB1 := hB.keep X8.warmed.alike (n6 _ _ hB.1)
  have hne : s.heap.size ≠ a := (Nat.ne_of_lt (Array.getElem?_eq_some_iff.mp hB.1).1).symm
  have c9 : Steps p.tables e below (s₁.setTop (entryFrame m #[.ref a, .ref b, .int (Int32.ofNat o), .int (Int32.ofNat len), .null] 6)) (T8.setTop (mkF m 39 #[.val (.ref a), .val (.ref b), .val (.int (Int32.ofNat o)), .val (.int (Int32.ofNat len)), .val .null, .unset] [.ref s.heap.size])) := g8
  have c10 : Steps p.tables e below (s₁.setTop (entryFrame m #[.ref a, .ref b, .int (Int32.ofNat o), .int (Int32.ofNat len), .null] 6)) (T8.setTop (mkF m 45 #[.val (.ref a), .val (.ref b), .val (.int (Int32.ofNat o)), .val (.int (Int32.ofNat len)), .val .null, .val (.ref s.heap.size)] [.int (Int32.ofNat N.slots.size), .ref s.heap.size, .ref a])) := by
    have hc : Steps p.tables e below (s₁.setTop (entryFrame m #[.ref a, .ref b, .int (Int32.ofNat o), .int (Int32.ofNat len), .null] 6)) (T8.setTop (mkF m 45 #[.val (.ref a), .val (.ref b), .val (.int (Int32.ofNat o)), .val (.int (Int32.ofNat len)), .val .null, .val (.ref s.heap.size)] [.int (Int32.ofNat len), .ref s.heap.size, .ref a])) := c9.trans (by
      refine XS.astore X8.here hexec rfl (hb hbytes d39) rfl rfl rfl ?_
      refine XS.aloadN X8.here hexec rfl (hb hbytes d41) rfl rfl ?_
      refine XS.aload X8.here hexec rfl (hb hbytes d42) rfl rfl ?_
      refine XS.iloadN X8.here hexec rfl (hb hbytes d44) rfl ?_
      exact Steps.refl _)
    rw [n4]; exact hc
  obtain ⟨v11, T11, X11, E11, g11⟩ := X8.callS hexec (CodL.law l s.heap.size N) hown (wks W (staticW "java/lang/String" 47 CodL.yN)) (wk W CodL.tab) (W := 1) (Nat.le_of_ble_eq_true rfl) (Nat.le_of_ble_eq_true rfl) (Nat.le_refl _) (by show 0 + len + 0 ≤ len; omega) (g := (mkF m 45 #[.val (.ref a), .val (.ref b), .val (.int (Int32.ofNat o)), .val (.int (Int32.ofNat len)), .val .null, .val (.ref s.heap.size)] [.int (Int32.ofNat N.slots.size), .ref s.heap.size, .ref a])) rfl (by rw [hml]; rfl) c10 (argsL := [.ref s.heap.size, .int (Int32.ofNat N.slots.size)]) (rest := [.ref a]) rfl rfl (by show 2 * 0 + (1 + 0) ≤ _; decide) (hb hbytes d45) (⟨rfl, n1⟩)
  obtain ⟨rfl, q11⟩ := E11
  have hB11 := hB1.mv (X8.warmed.alike.symm.trans X11.warmed.alike) q11
  have c12 : Steps p.tables e below (s₁.setTop (entryFrame m #[.ref a, .ref b, .int (Int32.ofNat o), .int (Int32.ofNat len), .null] 6)) (T11.setTop (mkF m 48 #[.val (.ref a), .val (.ref b), .val (.int (Int32.ofNat o)), .val (.int (Int32.ofNat len)), .val .null, .val (.ref s.heap.size)] [.int 0, .ref a])) := g11
  obtain ⟨T13, X13, p13, bl13, sl13, st13⟩ := X11.finit hexec hown (wk W (.fieldLink "java/lang/String" 15 "java/lang/String" "coder" "B")) (Or.inr ⟨_, (wk W (.laysFinal "java/lang/String" "java/lang/String" "coder" "B"))⟩) (Or.inl ⟨rfl, hnm⟩) f2 (Or.inl rfl) hB11 (t := .byte) (by decide +kernel) rfl (g := (mkF m 48 #[.val (.ref a), .val (.ref b), .val (.int (Int32.ofNat o)), .val (.int (Int32.ofNat len)), .val .null, .val (.ref s.heap.size)] [.int 0, .ref a])) rfl (rest := []) rfl (hb hbytes d48)
  have c14 : Steps p.tables e below (s₁.setTop (entryFrame m #[.ref a, .ref b, .int (Int32.ofNat o), .int (Int32.ofNat len), .null] 6)) (T13.setTop (mkF m 54 #[.val (.ref a), .val (.ref b), .val (.int (Int32.ofNat o)), .val (.int (Int32.ofNat len)), .val .null, .val (.ref s.heap.size)] [.ref s.heap.size, .ref a])) := (c12.trans (st13 _ (Steps.refl _))).trans (by
    refine XS.aloadN X13.here hexec rfl (hb hbytes d51) rfl rfl ?_
    refine XS.aload X13.here hexec rfl (hb hbytes d52) rfl rfl ?_
    exact Steps.refl _)
  obtain ⟨T15, X15, p15, bl15, sl15, st15⟩ := X13.finit hexec hown (wk W (.fieldLink "java/lang/String" 9 "java/lang/String" "value" "[B")) (Or.inr ⟨_, (wk W (.laysFinal "java/lang/String" "java/lang/String" "value" "[B"))⟩) (Or.inl ⟨rfl, hnm⟩) f1 (Or.inl rfl) bl13 (t := (.array .byte)) (by decide +kernel) rfl (g := (mkF m 54 #[.val (.ref a), .val (.ref b), .val (.int (Int32.ofNat o)), .val (.int (Int32.ofNat len)), .val .null, .val (.ref s.heap.size)] [.ref s.heap.size, .ref a])) rfl (rest := []) rfl (hb hbytes d54)
  have c16 : Steps p.tables e below (s₁.setTop (entryFrame m #[.ref a, .ref b, .int (Int32.ofNat o), .int (Int32.ofNat len), .null] 6)) (T15.setTop (mkF m 57 #[.val (.ref a), .val (.ref b), .val (.int (Int32.ofNat o)), .val (.int (Int32.ofNat len)), .val .null, .val (.ref s.heap.size)] [])) := c14.trans (st15 _ (Steps.refl _))
  have ap := apart (Or.inr ⟨_, (wk W (.laysFinal "java/lang/String" "java/lang/String" "value" "[B"))⟩) (Or.inr ⟨_, (wk W (.laysFinal "java/lang/String" "java/lang/String" "coder" "B"))⟩) f1 f2 (t₁ := .array .byte) (t₂ := .byte) (by decide +kernel) (by decide +kernel) (by decide)
  have al := X8.warmed.alike.symm.trans X15.warmed.alike
  have n7 : T11.heap[s.heap.size]? = some N := by rw [q11]; exact n1.1
  exact ⟨T15, none, _, _, _, X15, by simp, rfl, by omega, (fun _ => rfl), ⟨rfl, _, N, bl15, ((Same.refl D _).set _ (by simp)).set _ (by simp), sl15, (Cell.slots_setSlot_ne _ ap).trans sl13, n1.keep al (p15.other hne (p13.other hne n7)), n2, by rw [al.findClass]; exact n3, n4, n5, fun y c h1 h2 => p15.other h1 (p13.other h1 (by rw [q11]; exact n6 y c h2)), by rw [p15.2.2, p13.2.2, q11]; exact z8⟩, fun fs hl => c16.trans (X15.returnOut hexec hret (hb hbytes d57) hl)⟩
end New4
namespace New1
def yN : MethodName := ⟨"java/lang/String", "<init>", "([C)V"⟩
abbrev yB : ByteArray := jdk_42_method_3_code
theorem d0 : decode yB 0 = .ok (.aload_n 0, 1) := by decide +kernel
theorem d1 : decode yB 1 = .ok (.aload_n 1, 1) := by decide +kernel
theorem d2 : decode yB 2 = .ok (.iconst 0, 1) := by decide +kernel
theorem d3 : decode yB 3 = .ok (.aload_n 1, 1) := by decide +kernel
theorem d4 : decode yB 4 = .ok (.arraylength, 1) := by decide +kernel
theorem d5 : decode yB 5 = .ok (.aconst_null, 1) := by decide +kernel
theorem d6 : decode yB 6 = .ok (.invokespecial 27, 3) := by decide +kernel
theorem d9 : decode yB 9 = .ok (.return_, 1) := by decide +kernel
def site : List Cond := [New4.tab] ++ initW "java/lang/String" 27 New4.yN
def tab : Cond := tabOf yN yB 2 none site
def P (a : Addr) (D : Cell) (fV fC : Field) (b : Addr) (A : Cell) (z : Int32) (args : Array Value) (s : State) : Prop := args = #[.ref a, .ref b] ∧ Blank "java/lang/String" a D s ∧ Found "java/lang/String" "value" "[B" fV s ∧ Found "java/lang/String" "coder" "B" fC s ∧ Ch b A s ∧ StaticIs s "java/lang/String" "COMPACT_STRINGS" "Z" (.int z) ∧ ¬ z = 0 ∧ 0 < A.slots.size ∧ A.slots.size ≤ 536870912 ∧ ∀ i, i < A.slots.size → ¬ 255 < cv A i
def E (a : Addr) (D : Cell) (fV fC : Field) (A : Cell) (r : Option Value) (s u : State) : Prop := Got a D fV fC A 0 A.slots.size r s u
/-- new String(chars), not empty, no char above 255: a Latin-1 String of their low bytes -/
theorem law (l : Launch) (a : Addr) (D : Cell) (fV fC : Field) (b : Addr) (A : Cell) (z : Int32) : Law l yN 2 1 3 52 yB 2 none site (P a D fV fC b A z) (E a D fV fC A) [⟨a, fC.slot⟩, ⟨a, fV.slot⟩] 1 A.slots.size := by
  refine Law.of_walk (plainFor_of_name (by decide +kernel)) (by decide +kernel) (by decide +kernel) (by decide) (fun _ _ h => by rw [h.1]; rfl) (fun _ U U' hal hh h => ⟨h.1, h.2.1.mv hal hh, h.2.2.1.al hal, h.2.2.2.1.al hal, h.2.2.2.2.1.mv hal hh, h.2.2.2.2.2.1.there hal hh, h.2.2.2.2.2.2⟩) (fun r U U' V V' h1 hal h2 h => Got.mv r U U' V V' h1 hal h2 h) ?_
  intro p e s m args below meth c s₁ X0 hexec hbytes hml hret hlk hnm hown hh0 W hP
  obtain ⟨rfl, hB, f1, f2, hA, s1, hz, l0, l2, hp⟩ := hP
  have c1 : Steps p.tables e below (s₁.setTop (entryFrame m #[.ref a, .ref b] 2)) (s₁.setTop (mkF m 0 #[.val (.ref a), .val (.ref b)] [])) := entry rfl
  have c2 : Steps p.tables e below (s₁.setTop (entryFrame m #[.ref a, .ref b] 2)) (s₁.setTop (mkF m 6 #[.val (.ref a), .val (.ref b)] [.null, .int (Int32.ofNat A.slots.size), .int 0, .ref b, .ref a])) := c1.trans (by
    refine XS.aloadN X0.here hexec rfl (hb hbytes d0) rfl rfl ?_
    refine XS.aloadN X0.here hexec rfl (hb hbytes d1) rfl rfl ?_
    refine iconstV X0.here hexec rfl 0 (hb hbytes d2) (by decide) ?_
    refine XS.aloadN X0.here hexec rfl (hb hbytes d3) rfl rfl ?_
    refine X0.alen hexec (hA.1.mv X0.warmed.alike hh0) rfl rfl (hb hbytes d4) ?_
    refine XS.aconstNull X0.here hexec rfl (hb hbytes d5) ?_
    exact Steps.refl _)
  obtain ⟨v3, T3, X3, E3, g3⟩ := X0.callN hexec (New4.law l a D fV fC b A z 0 A.slots.size) rfl hown (wks W (initW "java/lang/String" 27 New4.yN)) (W New4.tab (by simp only [site, List.mem_cons, List.mem_append, true_or, or_true])) (W := 0) (Nat.le_of_ble_eq_true rfl) (Nat.le_of_ble_eq_true rfl) (Nat.le_refl _) (by show 0 + A.slots.size ≤ A.slots.size; omega) (g := (mkF m 6 #[.val (.ref a), .val (.ref b)] [.null, .int (Int32.ofNat A.slots.size), .int (Int32.ofNat 0), .ref b, .ref a])) rfl (by rw [hml]; rfl) c2 (argsL := [.ref b, .int (Int32.ofNat 0), .int (Int32.ofNat A.slots.size), .null]) (rest := []) rfl rfl (by show 2 * 0 + 0 ≤ _; decide) (hb hbytes d6) (⟨rfl, hB.mv X0.warmed.alike hh0, f1.al X0.warmed.alike, f2.al X0.warmed.alike, hA.mv X0.warmed.alike hh0, s1.there X0.warmed.alike hh0, hz, l0, by omega, l2, fun i hi => by rw [Nat.zero_add]; exact hp i hi⟩)
  have e0 := Got.mv _ s₁ s _ _ hh0.symm (Vm.Alike.refl _) rfl E3
  obtain rfl := e0.1
  have c4 : Steps p.tables e below (s₁.setTop (entryFrame m #[.ref a, .ref b] 2)) (T3.setTop (mkF m 9 #[.val (.ref a), .val (.ref b)] [])) := g3
  exact ⟨T3, none, _, _, _, X3, by simp, rfl, by omega, (fun _ => rfl), e0, fun fs hl => c4.trans (X3.returnOut hexec hret (hb hbytes d9) hl)⟩
theorem pays {l : Launch} {R : Room} {p : Program} {e : Env} {below : List Frame} {s : State} {sargs : Array Value} {len W : Nat} (a : Addr) (D : Cell) (fV fC : Field) (b : Addr) (A : Cell) (z : Int32) (htab : tab.before sargs s = true) (hfr : 4 ≤ R.frames) (hlo : W + 65 ≤ R.locals) :
    Back l R p e below s sargs yN len W (fun A₁ a₁ => A₁.cells + 1 ≤ R.cells ∧ A₁.slots + A.slots.size ≤ R.slots ∧ P a D fV fC b A z a₁ A₁.U) (fun A₁ _ v₁ B₁ => E a D fV fC A v₁ A₁.U B₁.U ∧ B₁.locs = A₁.locs ++ [⟨a, fC.slot⟩, ⟨a, fV.slot⟩] ∧ B₁.cells = A₁.cells + 1 ∧ B₁.slots = A₁.slots + A.slots.size) :=
  (law l a D fV fC b A z).pays htab hfr (by omega)
end New1
/-- the byte, read back as charAt reads it, is the char -/
theorem lo8_mask {x : Int32} (h0 : ¬ x < 0) (h1 : ¬ 255 < x) : lo8 x &&& 255 = x := by
  have t : ∀ k : Fin 256, lo8 (Int32.ofNat k.val) &&& 255 = Int32.ofNat k.val := by decide +kernel
  rw [Int32.lt_iff_toInt_lt] at h0 h1
  have e0 : (0 : Int32).toInt = 0 := rfl
  have e1 : (255 : Int32).toInt = 255 := rfl
  obtain ⟨k, hk⟩ : ∃ k : Nat, x.toInt = k := ⟨x.toInt.toNat, by omega⟩
  have hx : x = Int32.ofNat k := Int32.toInt_inj.mp (by rw [hk, Int32.toInt_ofNat_small (by omega)])
  rw [hx]
  exact t ⟨k, by omega⟩
end StrChars
namespace StrChars.Road
open Jvm Sem ClassFile Op Lib Jvm.Stand Jvm.Free Jvm.Free.XT
open Jvm.Lib.Cold (StaticIs)
abbrev ST : String := "java/lang/String"
/-- every table word that New1's law asks, flat -/
abbrev words : List Jvm.Cond := [.code New1.yN New1.yB 2 none, .initialized ST, .methodLink ST 27 New4.yN, .instanceMethod New4.yN,
  .code New4.yN New4.yB 6 none, .fieldLink ST 38 ST "COMPACT_STRINGS" "Z", .laysFinal ST ST "value" "[B", .fieldLink ST 9 ST "value" "[B", .laysFinal ST ST "coder" "B", .fieldLink ST 15 ST "coder" "B",
  .methodLink ST 1 Lib.objectInit, .instanceMethod Lib.objectInit, .code Lib.objectInit ⟨#[0xb1]⟩ 1 none, .methodLink ST 177 Cmp3.yN, .static Cmp3.yN, .methodLink ST 47 CodL.yN, .static CodL.yN,
  .code Cmp3.yN Cmp3.yB 6 (some (.array .byte)), .initialized U16, .arrayClass .byte, .methodLink U16 115 Cmp5.yN, .static Cmp5.yN, .code Cmp5.yN Cmp5.yB 7 (some .int), .code CodL.yN CodL.yB 2 (some .byte)]
theorem tab_of {a : Array Value} {s : State} (h : ∀ w ∈ words, w.before a s = true) : New1.tab.before a s = true := by
  have h5 : Cmp5.tab.before a s = true := unparts (wk h (.code Cmp5.yN Cmp5.yB 7 (some .int))) (wks h (.initialized Cmp5.yN.cls :: Cmp5.site))
  have hc : CodL.tab.before a s = true := unparts (wk h (.code CodL.yN CodL.yB 2 (some .byte))) (wks h (.initialized CodL.yN.cls :: CodL.site))
  have q5 : ∀ w ∈ Cmp5.tab :: words, w.before a s = true := fun w hw => (List.mem_cons.mp hw).elim (fun e => e ▸ h5) (h w)
  have h3 : Cmp3.tab.before a s = true := unparts (wk q5 (.code Cmp3.yN Cmp3.yB 6 (some (.array .byte)))) (wks q5 (.initialized Cmp3.yN.cls :: Cmp3.site))
  have q3 : ∀ w ∈ Cmp3.tab :: CodL.tab :: words, w.before a s = true := fun w hw => (List.mem_cons.mp hw).elim (fun e => e ▸ h3) fun hw => (List.mem_cons.mp hw).elim (fun e => e ▸ hc) (h w)
  have h4 : New4.tab.before a s = true := unparts (wk q3 (.code New4.yN New4.yB 6 none)) (wks q3 (.initialized New4.yN.cls :: New4.site))
  have q4 : ∀ w ∈ New4.tab :: words, w.before a s = true := fun w hw => (List.mem_cons.mp hw).elim (fun e => e ▸ h4) (h w)
  exact unparts (wk q4 (.code New1.yN New1.yB 2 none)) (wks q4 (.initialized New1.yN.cls :: New1.site))
/-- the words ride from the start Z to the walk's own state -/
theorem moved {Z s : State} {a0 args : Array Value} (hZ : Z.Warmed39 s.vm) (hw : ∀ d ∈ words, d.before a0 Z = true) : ∀ d ∈ words, d.before args s = true := fun d hd => by
  have q := hw d hd
  have t : ∀ d ∈ words, d = .arrayClass .byte ∨ (d.onTables && d.keepsFace) = true := by decide +kernel
  rcases t d hd with rfl | t
  · exact RoadKit.mvA hZ q
  · exact RoadKit.mv hZ q t
/-- WHAT COMES BACK, over the tables of the start Z: h the heap at the call, h' behind it -/
def Q (Z : State) (x : Addr) (A : Cell) (h : Heap) (v : Option Value) (h' : Heap) (L : List Loc) : Prop := v = none ∧ (∀ y ∈ L, y.base = x) ∧ RoadKit.Keep h h' [x] ∧ h'.size = h.size + 1 ∧ RoadKit.Exa Z h' x ST ∧ RoadKit.Fld Z h' x ST "value" "[B" (.ref h.size) ∧ RoadKit.Fld Z h' x ST "coder" "B" (.int 0) ∧
  (∃ V : Cell, RoadKit.Arr Z h' h.size V .byte ∧ V.vm = .none ∧ Z.vm.findClass "[B" = some V.cls ∧ V.slots.size = A.slots.size ∧ ∀ j, j < A.slots.size → V.slots[j]? = some (.int (lo8 (cv A j)))) ∧
  ∀ (O n d : String) (w : Value), RoadKit.Fld Z h x O n d w → RoadKit.slotOf Z O n d ≠ RoadKit.slotOf Z ST "value" "[B" → RoadKit.slotOf Z O n d ≠ RoadKit.slotOf Z ST "coder" "B" → RoadKit.Fld Z h' x O n d w
/-- **new String(chars) AT A CALL, IN THE ROAD'S FORM**: for specialBack behind newO: x the fresh String, b the char[] with the cell A -/
theorem back {p : Program} {l : Launch} {e : Env} {R : Room} {s : State} {args : Array Value} {below : List Frame} {len W : Nat} {Z : State} {a0 : Array Value} {h : Heap} (hZ : Z.Warmed39 s.vm) (hw : ∀ d ∈ words, d.before a0 Z = true) {kI : Nat} (wi : (Jvm.Cond.instantiable ST kI).before a0 Z = true)
    {x b : Addr} {A : Cell} {z : Int32} {v0 c0 : Value} (E : RoadKit.Exa Z h x ST) (V : RoadKit.Fld Z h x ST "value" "[B" v0) (C : RoadKit.Fld Z h x ST "coder" "B" c0) (K : RoadKit.Arr Z h b A .char) (hty : Typed .char A) (S : RoadKit.Sta Z h ST "COMPACT_STRINGS" "Z" (.int z)) (hz : ¬ z = 0)
    (l0 : 0 < A.slots.size) (l2 : A.slots.size ≤ 536870912) (hp : ∀ i, i < A.slots.size → ¬ 255 < cv A i) (hfr : 4 ≤ R.frames) (hlo : W + 65 ≤ R.locals) :
    Back l R p e below s args New1.yN len W (fun P a => a = #[.ref x, .ref b] ∧ P.U.heap = h ∧ P.cells + 1 ≤ R.cells ∧ P.slots + A.slots.size ≤ R.slots)
      (fun P _ v B => ∃ L, Q Z x A h v B.U.heap L ∧ B.locs = P.locs ++ L ∧ B.cells = P.cells + 1 ∧ B.slots = P.slots + A.slots.size) := by
  intro m meth c P g ig mk a X hg hsize hdg hW hn hp'
  obtain ⟨rfl, rfl, r1, r2⟩ := hp'
  have al : Z.vm.Alike P.U.vm := hZ.alike.trans X.warmed.alike
  obtain ⟨D, cfV, kV, iV, fV, hD, gV, stV, knV, obV, asV, slV⟩ := id V
  obtain ⟨D', cfC, kC, iC, fC, hD', gC, stC, -, -, asC, slC⟩ := id C
  cases hD.symm.trans hD'
  obtain ⟨D2, kD, e1, e2, e3, e4, e5⟩ := id E
  cases hD.symm.trans e1
  obtain ⟨c2, k2, i1, i2, i3, -⟩ := Cond.instantiable_spec wi
  cases e2.symm.trans i1
  cases e3.symm.trans i2
  obtain ⟨kU, u1, u2⟩ := al.2.2 _ _ e3
  have hB : Blank ST x D P.U := ⟨hD, ⟨knV, fun q hq => by rw [hq] at obV; cases obV⟩, by rw [al.findClass]; exact e2, kU, u1, by rw [u2]; exact i3, by rw [u2]; exact e5 i3⟩
  have F1 : Found ST "value" "[B" fV P.U := ⟨SBG.found_only al ⟨cfV, kV, iV, gV⟩, stV⟩
  have F2 : Found ST "coder" "B" fC P.U := ⟨SBG.found_only al ⟨cfC, kC, iC, gC⟩, stC⟩
  have hA : Ch b A P.U := ⟨⟨K.1, State.isArrayOf_alike al K.2.1, K.2.2, by omega⟩, hty⟩
  have hS : StaticIs P.U ST "COMPACT_STRINGS" "Z" (.int z) := by
    obtain ⟨cfS, iS, kS, fS, st, cS, t1, t2, t3, t4, t5, t6, t7⟩ := S
    exact StaticIs.there (s := { Z with heap := P.U.heap }) ⟨cfS, iS, kS, fS, st, cS, t1, t2, t3, t4, t5, (fun q => by rw [q] at t6; cases t6), t7⟩ al rfl
  obtain ⟨v, B, X', ⟨⟨hv, E', V', q1, q2, q3, q4, q5, q6, q7, q8, q9, q10, q11⟩, hl, hc, hs⟩, st⟩ := New1.pays x D fV fC b A z (tab_of (moved hZ hw)) hfr hlo m meth c P g ig mk _ X hg hsize hdg hW hn ⟨r1, r2, rfl, hB, F1, F2, hA, hS, hz, l0, l2, hp⟩
  have al' : Z.vm.Alike B.U.vm := hZ.alike.trans X'.warmed.alike
  have hsz : E'.slots.size = D.slots.size := by
    obtain ⟨-, -, -, kB, w1, w2, w3⟩ := q1
    obtain ⟨kB', y1, y2⟩ := al'.2.2 _ _ e3
    rw [q2.2.1] at w1
    cases w1.symm.trans y1
    rw [w3, e5 i3, y2]
  refine ⟨v, B, X', ⟨_, ⟨hv, ?_, ⟨by omega, fun y cy hy hn' => q10 y cy (by simpa using hn') hy, fun y cy hy => ?_⟩, q11, ⟨E', _, q1.1, by rw [q2.2.1]; exact e2, by rw [q2.2.1]; exact e3, by rw [q2.1]; exact obV, fun _ => by rw [hsz]; exact e5 i3⟩,
    ⟨E', cfV, kV, iV, fV, q1.1, gV, stV, by rw [q2.1]; exact knV, by rw [q2.1]; exact obV, by rw [q2.2.1]; exact asV, q3⟩, ⟨E', cfC, kC, iC, fC, q1.1, gC, stC, by rw [q2.1]; exact knV, by rw [q2.1]; exact obV, by rw [q2.2.1]; exact asC, q4⟩,
    ⟨V', ⟨q5.1, State.isArrayOf_alike al'.symm q5.2.1, q5.2.2.1⟩, q6, by rw [← al'.findClass]; exact q7, q8, fun j hj => by have := q9 j hj; rwa [Nat.zero_add] at this⟩, fun O n d w F n1 n2 => ?_⟩, hl, hc, hs⟩, st⟩
  · intro y hy
    simp only [List.mem_cons, List.not_mem_nil, or_false] at hy
    rcases hy with rfl | rfl <;> rfl
  · by_cases q : y = x
    · subst q
      cases hD.symm.trans hy
      exact ⟨E', q1.1, q2.2.1, q2.1, hsz⟩
    · exact ⟨cy, q10 y cy q hy, rfl, rfl, rfl⟩
  · obtain ⟨D3, cf, k, i, f, g1, g2, g3, g4, g5, g6, g7⟩ := F
    cases hD.symm.trans g1
    simp only [RoadKit.slotOf, g2, gV, gC, Option.map_some, Option.getD_some] at n1 n2
    exact ⟨E', cf, k, i, f, q1.1, g2, g3, by rw [q2.1]; exact g4, by rw [q2.1]; exact g5, by rw [q2.2.1]; exact g6, by rw [q2.2.2 f.slot (by simp [n1, n2])]; exact g7⟩
end StrChars.Road
namespace StrChars.Road
open Jvm Sem ClassFile Op Lib Jvm.Stand Jvm.Free Jvm.Free.XT
/-- WHAT COMES BACK, the byte[] as a list of values -/
def QA (Z : State) (x : Addr) (zn : Int32) (cs : List Int32) (h : Heap) (v : Option Value) (h' : Heap) (L : List Loc) : Prop := v = none ∧ (∀ y ∈ L, y.base = x) ∧ RoadKit.Keep h h' [x] ∧ h'.size = h.size + 1 ∧ RoadKit.Exa Z h' x ST ∧ RoadKit.Fld Z h' x ST "value" "[B" (.ref h.size) ∧ RoadKit.Fld Z h' x ST "coder" "B" (.int 0) ∧
  (∃ kb, Z.vm.findClass "[B" = some kb ∧ RoadKit.Arv Z h' h.size kb .byte zn (cs.map fun c => .int (lo8 c)) (.int 0)) ∧
  ∀ (O n d : String) (w : Value), RoadKit.Fld Z h x O n d w → RoadKit.slotOf Z O n d ≠ RoadKit.slotOf Z ST "value" "[B" → RoadKit.slotOf Z O n d ≠ RoadKit.slotOf Z ST "coder" "B" → RoadKit.Fld Z h' x O n d w
/-- **new String(chars) AT A CALL, THE ARRAYS AS LISTS**: the char[] at b holds cs, not empty, no char above 255 -/
theorem backArv {p : Program} {l : Launch} {e : Env} {R : Room} {s : State} {args : Array Value} {below : List Frame} {len W : Nat} {Z : State} {a0 : Array Value} {h : Heap} (hZ : Z.Warmed39 s.vm) (hw : ∀ d ∈ words, d.before a0 Z = true) {kI : Nat} (wi : (Jvm.Cond.instantiable ST kI).before a0 Z = true)
    {x b : Addr} {k : ClassId} {zn z : Int32} {cs : List Int32} {dv v0 c0 : Value} (E : RoadKit.Exa Z h x ST) (V : RoadKit.Fld Z h x ST "value" "[B" v0) (C : RoadKit.Fld Z h x ST "coder" "B" c0) (K : RoadKit.Arv Z h b k .char zn (cs.map Value.int) dv) (S : RoadKit.Sta Z h ST "COMPACT_STRINGS" "Z" (.int z)) (hz : ¬ z = 0)
    (hlen : zn.toNatClampNeg = cs.length) (h0 : 0 < cs.length) (hbig : cs.length ≤ 536870912) (hall : ∀ c ∈ cs, ¬ 255 < c) (hfr : 4 ≤ R.frames) (hlo : W + 65 ≤ R.locals) :
    Back l R p e below s args New1.yN len W (fun P a => a = #[.ref x, .ref b] ∧ P.U.heap = h ∧ P.cells + 1 ≤ R.cells ∧ P.slots + cs.length ≤ R.slots)
      (fun P _ v B => ∃ L, QA Z x zn cs h v B.U.heap L ∧ B.locs = P.locs ++ L ∧ B.cells = P.cells + 1 ∧ B.slots = P.slots + cs.length) := by
  obtain ⟨A, K1, K2, K3, K4, K5, K6⟩ := K
  have e : A.slots.size = cs.length := K3.trans hlen
  have hat : ∀ (i : Nat) (hi : i < cs.length), A.slots[i]? = some (.int cs[i]) := fun i hi => by rw [K5 i (by omega)]; simp [List.getD_eq_getElem?_getD, hi]
  have hcv : ∀ (i : Nat) (hi : i < cs.length), cv A i = cs[i] := fun i hi => by unfold cv; rw [hat i hi]
  have hty : Typed .char A := fun i v hv => by
    have hi : i < A.slots.size := (Array.getElem?_eq_some_iff.mp hv).1
    have q := K5 i hi
    rw [hv] at q
    rw [Option.some.inj q]
    exact K6 i hi
  refine Back.mono (back hZ hw wi E V C K1 hty S hz (by omega) (by omega) (fun i hi => by rw [hcv i (by omega)]; exact hall _ (List.getElem_mem _)) hfr hlo) (fun P a hp => ⟨hp.1, hp.2.1, hp.2.2.1, by rw [e]; exact hp.2.2.2⟩) (fun P a v B hp hq => ?_)
  obtain ⟨L, ⟨q1, q2, q3, q4, q5, q6, q7, ⟨V', v1, v2, v3, v4, v5⟩, q9⟩, hl, hc, hs⟩ := hq
  refine ⟨L, ⟨q1, q2, q3, q4, q5, q6, q7, ⟨V'.cls, v3, V', v1, rfl, by rw [v4, e, hlen], K4, fun i hi => ?_, fun i hi => ?_⟩, q9⟩, hl, hc, by rw [hs, e]⟩
  · have hi' : i < cs.length := by omega
    rw [v5 i (by omega), hcv i hi']; simp [List.getD_eq_getElem?_getD, hi']
  · have hi' : i < cs.length := by omega
    simp only [List.getD_eq_getElem?_getD, List.getElem?_map, List.getElem?_eq_getElem hi', Option.map_some, Option.getD_some]
    exact fits_lo8 _
end StrChars.Road
namespace StrChars.Road
open Jvm Sem ClassFile Op Lib Jvm.Stand Jvm.Free Jvm.Free.XT
/-- WHAT COMES BACK, in the writer's own shape -/
def QV (Z : State) (x : Addr) (N : Int32) (bs : List Int32) (h : Heap) (n0 : Nat) (v : Option Value) (h' : Heap) (L : List Loc) : Prop := v = none ∧ RoadKit.Fr n0 L ∧ RoadKit.Keep h h' [x] ∧ RoadKit.Exa Z h' x ST ∧ RoadKit.Fld Z h' x ST "coder" "B" (.int 0) ∧
  ∃ (t : Addr) (kb : ClassId), n0 ≤ t ∧ h.size ≤ t ∧ ¬ t = x ∧ RoadKit.Fld Z h' x ST "value" "[B" (.ref t) ∧ RoadKit.Arv Z h' t kb .byte N (bs.map Value.int) (.int 0)
/-- **new String(chars) AT A CALL, FOR THE WRITER**: a char[] of n known ints, each 0 to 255 -/
theorem backV {p : Program} {l : Launch} {e : Env} {R : Room} {s : State} {args : Array Value} {below : List Frame} {len W : Nat} {Z : State} {a0 : Array Value} {h : Heap} (hZ : Z.Warmed39 s.vm) (hw : ∀ d ∈ words, d.before a0 Z = true) {kI : Nat} (wi : (Jvm.Cond.instantiable ST kI).before a0 Z = true)
    {x b : Addr} {kC : ClassId} {cs bs : List Int32} {d v0 c0 : Value} {z N : Int32} {n n0 : Nat} (hx0 : n0 ≤ x) (hh0 : n0 ≤ h.size) (E : RoadKit.Exa Z h x ST) (V : RoadKit.Fld Z h x ST "value" "[B" v0) (C : RoadKit.Fld Z h x ST "coder" "B" c0) (K : RoadKit.Arv Z h b kC .char N (cs.map Value.int) d) (S : RoadKit.Sta Z h ST "COMPACT_STRINGS" "Z" (.int z)) (hz : ¬ z = 0)
    (hn : cs.length = n) (hN : N = Int32.ofNat n) (l0 : 0 < n) (l2 : n ≤ 4000) (hp : ∀ c ∈ cs, ¬ c < 0 ∧ ¬ (255 : Int32) < c) (hb : bs = cs.map (fun c => c.toInt8.toInt32)) (hfr : 4 ≤ R.frames) (hlo : W + 65 ≤ R.locals) :
    Back l R p e below s args (⟨"java/lang/String", "<init>", "([C)V"⟩ : MethodName) len W (fun P a => a = #[.ref x, .ref b] ∧ P.U.heap = h ∧ P.cells + 1 ≤ R.cells ∧ P.slots + n ≤ R.slots)
      (fun P _ v B => ∃ L, QV Z x N bs h n0 v B.U.heap L ∧ B.locs = P.locs ++ L ∧ B.cells = P.cells + 1 ∧ B.slots = P.slots + n) := by
  subst hn hN hb
  refine Back.mono (backArv hZ hw wi E V C K S hz (n32 (by omega)) l0 (by omega) (fun c hc => (hp c hc).2) hfr hlo) (fun P a hp => hp) (fun P a v B hp hq => ?_)
  obtain ⟨L, ⟨q1, q2, q3, q4, q5, q6, q7, ⟨kb, v1, v2⟩, q9⟩, hl, hc, hs⟩ := hq
  exact ⟨L, ⟨q1, fun y hy => by rw [q2 y hy]; exact hx0, q3, q5, q7, h.size, kb, hh0, Nat.le_refl _, Nat.ne_of_gt E.lt, q6, by rw [List.map_map]; exact v2⟩, hl, hc, hs⟩
end StrChars.Road
namespace StrChars
open Jvm Sem ClassFile Op Lib Jvm.Stand Jvm.Free.XT Jvm.Free.ALB Jvm.Free.JM Jvm.Free
open Jvm.Lib.Cold (StaticIs)
def hi8 (x : Int32) : Int32 := lo8 (x >>> ((8 : Int32) &&& 31))
/-- what StringUTF16.getChar makes of two bytes -/
def pairCh (u v : Int32) : Int32 := (((u &&& 255) <<< ((0 : Int32) &&& 31)) ||| ((v &&& 255) <<< ((8 : Int32) &&& 31))).toUInt32.toUInt16.toUInt32.toInt32
theorem lo8_and (x : Int32) : (lo8 x &&& 255).toBitVec.toNat = x.toBitVec.toNat % 256 := by
  have h : (lo8 x).toBitVec = (x.toBitVec.signExtend 8).signExtend 32 := by rw [lo8, Int8.toBitVec_toInt32, Int32.toBitVec_toInt8]
  rw [Int32.toBitVec_and, BitVec.toNat_and, h]
  have e : ((x.toBitVec.signExtend 8).signExtend 32).toNat % 256 = x.toBitVec.toNat % 256 := by
    rw [BitVec.toNat_signExtend]
    have hlt := x.toBitVec.isLt
    simp only [BitVec.toNat_setWidth, BitVec.toNat_signExtend]
    split <;> split <;> omega
  rw [← e]
  exact Nat.and_two_pow_sub_one_eq_mod _ 8
theorem pair_says {c : Int32} (h0 : ¬ c < 0) (h1 : ¬ 65535 < c) : pairCh (lo8 c) (hi8 c) = c := by
  rw [Int32.lt_iff_toInt_lt] at h0 h1
  have e0 : (0 : Int32).toInt = 0 := rfl
  have e1 : (65535 : Int32).toInt = 65535 := rfl
  have hc : c.toInt = c.toBitVec.toNat := by
    have := c.toBitVec.isLt
    have e : c.toInt = c.toBitVec.toInt := rfl
    rw [e] at h0 h1
    rw [e]
    rw [BitVec.toInt_eq_toNat_cond] at h0 h1 ⊢
    split at h0 <;> split <;> omega
  have hn : c.toBitVec.toNat < 65536 := by omega
  have a1 := lo8_and c
  have a2 : (hi8 c &&& 255).toBitVec.toNat = c.toBitVec.toNat / 256 := by
    rw [hi8, lo8_and]
    have e : ((8 : Int32) &&& 31) = 8 := by decide
    rw [e, Int32.toBitVec_shiftRight]
    have e2 : ((8 : Int32).toBitVec.smod 32) = 8#32 := by decide
    rw [e2, BitVec.sshiftRight_eq', BitVec.toNat_sshiftRight_of_msb_false (by rw [BitVec.msb_eq_false_iff_two_mul_lt]; omega)]
    show c.toBitVec.toNat >>> 8 % 256 = _
    rw [Nat.shiftRight_eq_div_pow]
    omega
  unfold pairCh
  apply Int32.toBitVec_inj.mp
  apply BitVec.eq_of_toNat_eq
  have f0 : ((0 : Int32) &&& 31) = 0 := by decide
  have f8 : ((8 : Int32) &&& 31) = 8 := by decide
  rw [f0, f8]
  have g : (((lo8 c &&& 255) <<< (0 : Int32)) ||| ((hi8 c &&& 255) <<< (8 : Int32))).toBitVec.toNat = c.toBitVec.toNat := by
    rw [Int32.toBitVec_or, Int32.toBitVec_shiftLeft, Int32.toBitVec_shiftLeft]
    have s0 : ((0 : Int32).toBitVec.smod 32) = 0#32 := by decide
    have s8 : ((8 : Int32).toBitVec.smod 32) = 8#32 := by decide
    rw [s0, s8, BitVec.toNat_or]
    simp only [BitVec.shiftLeft_eq', BitVec.toNat_shiftLeft, a1, a2]
    show (c.toBitVec.toNat % 256) <<< 0 % 2 ^ 32 ||| (c.toBitVec.toNat / 256) <<< 8 % 2 ^ 32 = _
    rw [Nat.shiftLeft_zero, Nat.mod_eq_of_lt (show c.toBitVec.toNat % 256 < 2 ^ 32 by omega), Nat.mod_eq_of_lt (show (c.toBitVec.toNat / 256) <<< 8 < 2 ^ 32 by rw [Nat.shiftLeft_eq]; omega), Nat.or_comm, ← Nat.shiftLeft_add_eq_or_of_lt (by omega), Nat.shiftLeft_eq]
    omega
  show BitVec.toNat (((((lo8 c &&& 255) <<< (0 : Int32)) ||| ((hi8 c &&& 255) <<< (8 : Int32))).toBitVec.setWidth 16).setWidth 32) = _
  rw [BitVec.toNat_setWidth, BitVec.toNat_setWidth, g]
  omega
end StrChars
namespace StrChars
open Jvm Sem ClassFile Op Lib Jvm.Stand Jvm.Free.XT Jvm.Free.ALB Jvm.Free.JM Jvm.Free
open Jvm.Lib.Cold (StaticIs)
/-- charAt's cast of a byte read back -/
def chr8 (u : Int32) : Int32 := (u &&& 255).toUInt32.toUInt16.toUInt32.toInt32
theorem chr8_lo8 {c : Int32} (h0 : ¬ c < 0) (h1 : ¬ 255 < c) : chr8 (lo8 c) = c := by
  have t : ∀ k : Fin 256, (Int32.ofNat k.val).toUInt32.toUInt16.toUInt32.toInt32 = Int32.ofNat k.val := by decide +kernel
  unfold chr8
  rw [lo8_mask h0 h1]
  rw [Int32.lt_iff_toInt_lt] at h0 h1
  have e0 : (0 : Int32).toInt = 0 := rfl
  have e1 : (255 : Int32).toInt = 255 := rfl
  obtain ⟨k, hk⟩ : ∃ k : Nat, c.toInt = k := ⟨c.toInt.toNat, by omega⟩
  have hx : c = Int32.ofNat k := Int32.toInt_inj.mp (by rw [hk, Int32.toInt_ofNat_small (by omega)])
  rw [hx]
  exact t ⟨k, by omega⟩
theorem narrow_ch {c : Int32} (h0 : ¬ c < 0) (h1 : ¬ 65535 < c) : narrow .char (.int c) = .int c := by
  have q : narrow .char (.int (pairCh (lo8 c) (hi8 c))) = .int (pairCh (lo8 c) (hi8 c)) := narrow_c _
  rwa [pair_says h0 h1] at q
/-- the array's cell V codes the n chars f 0 .. f (n - 1) by the coder cd, as the JDK does: coder 1 just where some char is above 255 -/
def Cod (cd : Int32) (n : Nat) (f : Nat → Int32) (V : Cell) : Prop := (cd = 0 ∧ V.slots.size = n ∧ ∀ j, j < n → V.slots[j]? = some (.int (lo8 (f j))) ∧ ¬ 255 < f j) ∨ (cd = 1 ∧ V.slots.size = 2 * n ∧ (∀ j, j < n → V.slots[2 * j]? = some (.int (lo8 (f j))) ∧ V.slots[2 * j + 1]? = some (.int (hi8 (f j)))) ∧ ∃ j, j < n ∧ 255 < f j)
theorem Cod.cd {cd : Int32} {n : Nat} {f : Nat → Int32} {V : Cell} (h : Cod cd n f V) : cd = 0 ∨ cd = 1 := h.imp (fun q => q.1) fun q => q.1
/-- **x is a String of the n chars f 0 .. f (n - 1)**, Latin-1 or UTF-16; its array at t has the cell V -/
def Txt (x t : Addr) (V : Cell) (cd : Int32) (n : Nat) (f : Nat → Int32) (U : State) : Prop := Exact "java/lang/String" x U ∧ Has x "java/lang/String" "value" "[B" (.ref t) U ∧ Has x "java/lang/String" "coder" "B" (.int cd) U ∧ XT.Arr .byte t V U ∧ Cod cd n f V ∧ ∀ j, j < n → ¬ f j < 0 ∧ ¬ 65535 < f j
theorem Txt.mv {x t : Addr} {V : Cell} {cd : Int32} {n : Nat} {f : Nat → Int32} {U U' : State} (h : Txt x t V cd n f U) (hal : U.vm.Alike U'.vm) (hh : U'.heap = U.heap) : Txt x t V cd n f U' := ⟨h.1.mv hal hh, h.2.1.mv hal hh, h.2.2.1.mv hal hh, h.2.2.2.1.mv hal hh, h.2.2.2.2⟩
namespace IsL
def yN : MethodName := ⟨"java/lang/String", "isLatin1", "()Z"⟩
abbrev yB : ByteArray := jdk_42_method_154_code
theorem d0 : decode yB 0 = .ok (.getstatic 38, 3) := by decide +kernel
theorem d3 : decode yB 3 = .ok (.ifCond (.eq) 14, 3) := by decide +kernel
theorem d6 : decode yB 6 = .ok (.aload_n 0, 1) := by decide +kernel
theorem d7 : decode yB 7 = .ok (.getfield 15, 3) := by decide +kernel
theorem d10 : decode yB 10 = .ok (.ifCond (.ne) 7, 3) := by decide +kernel
theorem d13 : decode yB 13 = .ok (.iconst 1, 1) := by decide +kernel
theorem d14 : decode yB 14 = .ok (.goto 4, 3) := by decide +kernel
theorem d17 : decode yB 17 = .ok (.iconst 0, 1) := by decide +kernel
theorem d18 : decode yB 18 = .ok (.ireturn, 1) := by decide +kernel
def site : List Cond := [.fieldLink "java/lang/String" 38 "java/lang/String" "COMPACT_STRINGS" "Z", .fieldLink "java/lang/String" 15 "java/lang/String" "coder" "B"]
def tab : Cond := tabOf yN yB 1 (some .boolean) site
def P (x : Addr) (cd z : Int32) (args : Array Value) (s : State) : Prop := args = #[.ref x] ∧ Has x "java/lang/String" "coder" "B" (.int cd) s ∧ (cd = 0 ∨ cd = 1) ∧ StaticIs s "java/lang/String" "COMPACT_STRINGS" "Z" (.int z) ∧ ¬ z = 0
def E (cd : Int32) (r : Option Value) (s u : State) : Prop := XT.PureE (some (.int (1 - cd))) r s u
theorem law (l : Launch) (x : Addr) (cd z : Int32) : Law l yN 1 0 0 0 yB 1 (some .boolean) site (P x cd z) (E cd) [] 0 0 := by
  refine Law.of_walk (plainFor_of_name (by decide +kernel)) (by decide +kernel) (by decide +kernel) (by decide) (fun _ _ h => by rw [h.1]; rfl) (fun _ U U' hal hh h => ⟨h.1, h.2.1.mv hal hh, h.2.2.1, h.2.2.2.1.there hal hh, h.2.2.2.2⟩) (fun r U U' V V' h1 hal h2 h => XT.PureE.mv r U U' V V' h1 hal h2 h) ?_
  intro p e s m args below meth c s₁ X0 hexec hbytes hml hret hlk hnm hown hh0 W hP
  obtain ⟨rfl, hx, hc, s1, hz⟩ := hP
  have c1 : Steps p.tables e below (s₁.setTop (entryFrame m #[.ref x] 1)) (s₁.setTop (mkF m 0 #[.val (.ref x)] [])) := entry rfl
  obtain ⟨T2, X2, q2, st2⟩ := X0.sget hexec hown (wk W (.fieldLink "java/lang/String" 38 "java/lang/String" "COMPACT_STRINGS" "Z")) s1 (fun _ _ h => by rw [hh0]; exact h) (g := (mkF m 0 #[.val (.ref x)] [])) rfl (hb hbytes d0)
  have hh2 := q2.trans hh0
  have c3 : Steps p.tables e below (s₁.setTop (entryFrame m #[.ref x] 1)) (T2.setTop (mkF m 7 #[.val (.ref x)] [.ref x])) := (c1.trans (st2 _ (Steps.refl _))).trans (by
    refine XS.ifNo X2.here hexec rfl (hb hbytes d3) rfl (i0_eq_f hz) ?_
    refine XS.aloadN X2.here hexec rfl (hb hbytes d6) rfl rfl ?_
    exact Steps.refl _)
  obtain ⟨T4, X4, q4, st4⟩ := X2.hget hexec hown (wk W (.fieldLink "java/lang/String" 15 "java/lang/String" "coder" "B")) (hx.mv X2.warmed.alike hh2) (g := (mkF m 7 #[.val (.ref x)] [.ref x])) rfl (rest := []) rfl (hb hbytes d7)
  have c5 : Steps p.tables e below (s₁.setTop (entryFrame m #[.ref x] 1)) (T4.setTop (mkF m 10 #[.val (.ref x)] [.int cd])) := c3.trans (st4 _ (Steps.refl _))
  have c6 : Steps p.tables e below (s₁.setTop (entryFrame m #[.ref x] 1)) (T4.setTop (mkF m 18 #[.val (.ref x)] [.int (1 - cd)])) := by
    rcases hc with rfl | rfl
    · exact c5.trans (by
        refine XS.ifNo X4.here hexec rfl (hb hbytes d10) rfl (i0_ne_f rfl) ?_
        refine iconstV X4.here hexec rfl 1 (hb hbytes d13) (by decide) ?_
        refine XS.goto X4.here hexec rfl (pc0 := 14) rfl (hb hbytes d14) (by decide) rfl ?_
        exact Steps.refl _)
    · exact c5.trans (by
        refine XS.ifYes X4.here hexec rfl (pc0 := 10) rfl (hb hbytes d10) rfl (i0_ne_t (by decide)) (by decide) rfl ?_
        refine iconstV X4.here hexec rfl 0 (hb hbytes d17) (by decide) ?_
        exact Steps.refl _)
  exact ⟨T4, some (.int (1 - cd)), _, _, _, X4, rfl, rfl, rfl, (fun h => by cases h), ⟨rfl, q4.trans hh2⟩, fun fs hl => c6.trans (X4.ireturnOut hexec hret (by rcases hc with rfl | rfl <;> rfl) (Or.inr (Or.inl rfl)) (hb hbytes d18) hl)⟩
end IsL
namespace LChA
def yN : MethodName := ⟨"java/lang/StringLatin1", "charAt", "([BI)C"⟩
abbrev yB : ByteArray := jdk_43_method_2_code
theorem d0 : decode yB 0 = .ok (.iload_n 1, 1) := by decide +kernel
theorem d1 : decode yB 1 = .ok (.aload_n 0, 1) := by decide +kernel
theorem d2 : decode yB 2 = .ok (.arraylength, 1) := by decide +kernel
theorem d3 : decode yB 3 = .ok (.invokestatic 9, 3) := by decide +kernel
theorem d6 : decode yB 6 = .ok (.aload_n 0, 1) := by decide +kernel
theorem d7 : decode yB 7 = .ok (.iload_n 1, 1) := by decide +kernel
theorem d8 : decode yB 8 = .ok (.baload, 1) := by decide +kernel
theorem d9 : decode yB 9 = .ok (.sipush 255, 3) := by decide +kernel
theorem d12 : decode yB 12 = .ok (.iand, 1) := by decide +kernel
theorem d13 : decode yB 13 = .ok (.i2c, 1) := by decide +kernel
theorem d14 : decode yB 14 = .ok (.ireturn, 1) := by decide +kernel
def site : List Cond := [JO.Str_checkIndex.tab] ++ staticW "java/lang/StringLatin1" 9 JO.Str_checkIndex.yN
def tab : Cond := tabOf yN yB 2 (some .char) site
def P (t : Addr) (V : Cell) (i : Nat) (u : Int32) (fm : Value) (args : Array Value) (s : State) : Prop := args = #[.ref t, .int (Int32.ofNat i)] ∧ XT.Arr .byte t V s ∧ V.slots[i]? = some (.int u) ∧ (StaticIs s "jdk/internal/util/Preconditions" "SIOOBE_FORMATTER" "Ljava/util/function/BiFunction;" fm ∧ fm.isRef = true)
def E (u : Int32) (r : Option Value) (s w : State) : Prop := XT.PureE (some (.int (chr8 u))) r s w
theorem law (l : Launch) (t : Addr) (V : Cell) (i : Nat) (u : Int32) (fm : Value) : Law l yN 2 2 2 27 yB 2 (some .char) site (P t V i u fm) (E u) [] 0 0 := by
  refine Law.of_walk (plainFor_of_name (by decide +kernel)) (by decide +kernel) (by decide +kernel) (by decide) (fun _ _ h => by rw [h.1]; rfl) (fun _ U U' hal hh h => ⟨h.1, h.2.1.mv hal hh, h.2.2.1, h.2.2.2.1.there hal hh, h.2.2.2.2⟩) (fun r U U' V V' h1 hal h2 h => XT.PureE.mv r U U' V V' h1 hal h2 h) ?_
  intro p e s m args below meth c s₁ X0 hexec hbytes hml hret hlk hnm hown hh0 W hP
  obtain ⟨rfl, hV, hu, s1, rf⟩ := hP
  have v31 := hV.2.2.2
  have hi : i < V.slots.size := (Array.getElem?_eq_some_iff.mp hu).1
  have c1 : Steps p.tables e below (s₁.setTop (entryFrame m #[.ref t, .int (Int32.ofNat i)] 2)) (s₁.setTop (mkF m 0 #[.val (.ref t), .val (.int (Int32.ofNat i))] [])) := entry rfl
  have c2 : Steps p.tables e below (s₁.setTop (entryFrame m #[.ref t, .int (Int32.ofNat i)] 2)) (s₁.setTop (mkF m 3 #[.val (.ref t), .val (.int (Int32.ofNat i))] [.int (Int32.ofNat V.slots.size), .int (Int32.ofNat i)])) := c1.trans (by
    refine XS.iloadN X0.here hexec rfl (hb hbytes d0) rfl ?_
    refine XS.aloadN X0.here hexec rfl (hb hbytes d1) rfl rfl ?_
    refine X0.alen hexec (hV.mv X0.warmed.alike hh0) rfl rfl (hb hbytes d2) ?_
    exact Steps.refl _)
  obtain ⟨v3, T3, X3, E3, g3⟩ := X0.callS hexec (JO.Str_checkIndex.law l (Int32.ofNat i) (Int32.ofNat V.slots.size) fm) hown (wks W (staticW "java/lang/StringLatin1" 9 JO.Str_checkIndex.yN)) (wk W JO.Str_checkIndex.tab) (W := 0) (Nat.le_of_ble_eq_true rfl) (Nat.le_of_ble_eq_true rfl) (Nat.le_refl _) (Nat.le_refl _) (g := (mkF m 3 #[.val (.ref t), .val (.int (Int32.ofNat i))] [.int (Int32.ofNat V.slots.size), .int (Int32.ofNat i)])) rfl (by rw [hml]; rfl) c2 (argsL := [.int (Int32.ofNat i), .int (Int32.ofNat V.slots.size)]) (rest := []) rfl rfl (by show 2 * 0 + 0 ≤ _; decide) (hb hbytes d3) (⟨rfl, rf, s1.there X0.warmed.alike hh0, Int32.ofNat_not_neg (by omega), lt32 v31 hi⟩)
  obtain ⟨rfl, q3⟩ := E3
  have hh3 := q3.trans hh0
  have c4 : Steps p.tables e below (s₁.setTop (entryFrame m #[.ref t, .int (Int32.ofNat i)] 2)) (T3.setTop (mkF m 14 #[.val (.ref t), .val (.int (Int32.ofNat i))] [.int (chr8 u)])) := Steps.trans g3 (by
    refine XS.aloadN X3.here hexec rfl (hb hbytes d6) rfl rfl ?_
    refine XS.iloadN X3.here hexec rfl (hb hbytes d7) rfl ?_
    refine X3.aget hexec (hV.mv X3.warmed.alike hh3) rfl hu rfl rfl (hb hbytes d8) ?_
    refine sipushV X3.here hexec rfl 255 (hb hbytes d9) (by decide) ?_
    refine XS.iand X3.here hexec rfl (hb hbytes d12) rfl ?_
    refine i2c X3.here hexec rfl (hb hbytes d13) rfl ?_
    exact Steps.refl _)
  exact ⟨T3, some (.int (chr8 u)), _, _, _, X3, rfl, rfl, rfl, (fun h => by cases h), ⟨rfl, hh3⟩, fun fs hl => c4.trans (X3.ireturnOut hexec hret (narrow_c _) (Or.inr (Or.inr (Or.inr (Or.inl rfl)))) (hb hbytes d14) hl)⟩
end LChA
end StrChars
namespace StrChars.Road
open Jvm Sem ClassFile Op Lib Jvm.Stand Jvm.Free Jvm.Free.XT
open Jvm.Lib.Cold (StaticIs)
theorem consq {a : Array Value} {s : State} {c : Jvm.Cond} {L : List Jvm.Cond} (h0 : c.before a s = true) (h : ∀ w ∈ L, w.before a s = true) : ∀ w ∈ c :: L, w.before a s = true := fun w hw => (List.mem_cons.mp hw).elim (fun e => e ▸ h0) (h w)
/-- the bytes of the chars cs, low before high -/
def wideBytes : List Int32 → List Value
  | [] => []
  | c :: cs => .int (lo8 c) :: .int (hi8 c) :: wideBytes cs
theorem wide_lo (d : Value) : ∀ (cs : List Int32) (j : Nat), j < cs.length → (wideBytes cs).getD (2 * j) d = .int (lo8 (cs.getD j 0))
  | [], j, h => absurd h (Nat.not_lt_zero j)
  | c :: cs, 0, _ => rfl
  | c :: cs, j + 1, h => by
    have q := wide_lo d cs j (by simpa using h)
    rw [show 2 * (j + 1) = 2 * j + 1 + 1 from by omega]
    simpa [wideBytes] using q
theorem wide_hi (d : Value) : ∀ (cs : List Int32) (j : Nat), j < cs.length → (wideBytes cs).getD (2 * j + 1) d = .int (hi8 (cs.getD j 0))
  | [], j, h => absurd h (Nat.not_lt_zero j)
  | c :: cs, 0, _ => rfl
  | c :: cs, j + 1, h => by
    have q := wide_hi d cs j (by simpa using h)
    rw [show 2 * (j + 1) + 1 = 2 * j + 1 + 1 + 1 from by omega]
    simpa [wideBytes] using q
theorem low_at (d : Value) (cs : List Int32) (j : Nat) (h : j < cs.length) : (cs.map fun c => Value.int (lo8 c)).getD j d = .int (lo8 (cs.getD j 0)) := by
  simp [List.getD_eq_getElem?_getD, h]
/-- an array of N2 bytes vs codes the chars cs by the coder cd -/
def CodA (cs : List Int32) (cd N2 : Int32) (vs : List Value) : Prop := (cd = 0 ∧ N2 = Int32.ofNat cs.length ∧ vs = (cs.map fun c => Value.int (lo8 c)) ∧ ∀ c ∈ cs, ¬ 255 < c) ∨ (cd = 1 ∧ N2 = Int32.ofNat (2 * cs.length) ∧ vs = wideBytes cs ∧ ∃ c ∈ cs, 255 < c)
theorem CodA.cod {cs : List Int32} {cd N2 : Int32} {vs : List Value} {V : Cell} (h : CodA cs cd N2 vs) (hn : 2 * cs.length < 2 ^ 31) (hs : V.slots.size = N2.toNatClampNeg) (hv : RoadKit.Has V vs (.int 0)) : Cod cd cs.length (fun j => cs.getD j 0) V := by
  rcases h with ⟨rfl, rfl, rfl, h⟩ | ⟨rfl, rfl, rfl, c, hc, hw⟩
  · rw [n32 (by omega)] at hs
    exact Or.inl ⟨rfl, hs, fun j hj => ⟨by rw [hv j (by omega), low_at _ _ _ hj], by
      have e : cs.getD j 0 = cs[j] := by simp [List.getD_eq_getElem?_getD, hj]
      show ¬ 255 < cs.getD j 0
      rw [e]; exact h _ (List.getElem_mem _)⟩⟩
  · rw [n32 (by omega)] at hs
    obtain ⟨j, hj, rfl⟩ := List.getElem_of_mem hc
    exact Or.inr ⟨rfl, hs, fun j hj => ⟨by rw [hv _ (by omega), wide_lo _ _ _ hj], by rw [hv _ (by omega), wide_hi _ _ _ hj]⟩, j, hj, by
      have e : cs.getD j 0 = cs[j] := by simp [List.getD_eq_getElem?_getD, hj]
      show 255 < cs.getD j 0
      rw [e]; exact hw⟩
/-- an object of exactly java/lang/String, its two fields found: as the laws ask it -/
theorem strObj {Z U : State} {a0 : Array Value} {kI : Nat} (wi : (Jvm.Cond.instantiable ST kI).before a0 Z = true) (al : Z.vm.Alike U.vm) {x : Addr} {v0 c0 : Value} (E : RoadKit.Exa Z U.heap x ST) (V : RoadKit.Fld Z U.heap x ST "value" "[B" v0) (C : RoadKit.Fld Z U.heap x ST "coder" "B" c0) :
    ∃ (D : Cell) (fV fC : Field), Blank ST x D U ∧ Found ST "value" "[B" fV U ∧ Found ST "coder" "B" fC U ∧ D.slots[fV.slot]? = some v0 ∧ D.slots[fC.slot]? = some c0 ∧ RoadKit.slotOf Z ST "value" "[B" = fV.slot ∧ RoadKit.slotOf Z ST "coder" "B" = fC.slot := by
  obtain ⟨D, cfV, kV, iV, fV, hD, gV, stV, knV, obV, asV, slV⟩ := V
  obtain ⟨D', cfC, kC, iC, fC, hD', gC, stC, -, -, asC, slC⟩ := C
  cases hD.symm.trans hD'
  obtain ⟨D2, kD, e1, e2, e3, e4, e5⟩ := E
  cases hD.symm.trans e1
  obtain ⟨c2, k2, i1, i2, i3, -⟩ := Cond.instantiable_spec wi
  cases e2.symm.trans i1
  cases e3.symm.trans i2
  obtain ⟨kU, u1, u2⟩ := al.2.2 _ _ e3
  exact ⟨D, fV, fC, ⟨hD, ⟨knV, fun q hq => by rw [hq] at obV; cases obV⟩, by rw [al.findClass]; exact e2, kU, u1, by rw [u2]; exact i3, by rw [u2]; exact e5 i3⟩, ⟨SBG.found_only al ⟨cfV, kV, iV, gV⟩, stV⟩, ⟨SBG.found_only al ⟨cfC, kC, iC, gC⟩, stC⟩, slV, slC, by simp [RoadKit.slotOf, gV], by simp [RoadKit.slotOf, gC]⟩
theorem sta_is {Z U : State} (al : Z.vm.Alike U.vm) {C n d : String} {v : Value} (S : RoadKit.Sta Z U.heap C n d v) : StaticIs U C n d v := by
  obtain ⟨cfS, iS, kS, fS, st, cS, t1, t2, t3, t4, t5, t6, t7⟩ := S
  exact StaticIs.there (s := { Z with heap := U.heap }) ⟨cfS, iS, kS, fS, st, cS, t1, t2, t3, t4, t5, (fun q => by rw [q] at t6; cases t6), t7⟩ al rfl
end StrChars.Road
namespace StrChars
open Jvm Sem ClassFile Op Lib Jvm.Stand Jvm.Free.XT Jvm.Free.ALB Jvm.Free.JM Jvm.Free
open Jvm.Lib.Cold (StaticIs)
/-- what place i of a byte[]'s cell holds -/
def yv (A : Cell) (i : Nat) : Int32 := match A.slots[i]? with | some (.int x) => x | _ => 0
theorem yv_get {a : Addr} {A : Cell} {U : State} (h : XT.Arr .byte a A U) (ht : Typed .byte A) {i : Nat} (hi : i < A.slots.size) : A.slots[i]? = some (.int (yv A i)) := by
  have e := Array.getElem?_eq_getElem hi
  have f := ht i _ e
  unfold yv; rw [e]
  generalize A.slots[i] = v at f
  cases v <;> simp [fits] at f ⊢
/-- the two arrays are equal, place for place -/
def EqC (A B : Cell) : Prop := A.slots.size = B.slots.size ∧ ∀ i, i < A.slots.size → yv A i = yv B i
/-- a boolean that says whether p -/
def Says01 (q : Prop) (r : Option Value) (s u : State) : Prop := ∃ v : Int32, r = some (.int v) ∧ u.heap = s.heap ∧ ((v = 1 ∧ q) ∨ (v = 0 ∧ ¬ q))
theorem Says01.mv {q : Prop} : ∀ r (U U' V V' : State), U'.heap = U.heap → V.vm.Alike V'.vm → V'.heap = V.heap → Says01 q r U V → Says01 q r U' V' :=
  fun r U U' V V' h1 _ h2 ⟨v, a, b, c⟩ => ⟨v, a, by rw [h1, h2]; exact b, c⟩
namespace LEq
def yN : MethodName := ⟨"java/lang/StringLatin1", "equals", "([B[B)Z"⟩
abbrev yB : ByteArray := jdk_43_method_13_code
theorem d0 : decode yB 0 = .ok (.aload_n 0, 1) := by decide +kernel
theorem d1 : decode yB 1 = .ok (.arraylength, 1) := by decide +kernel
theorem d2 : decode yB 2 = .ok (.aload_n 1, 1) := by decide +kernel
theorem d3 : decode yB 3 = .ok (.arraylength, 1) := by decide +kernel
theorem d4 : decode yB 4 = .ok (.if_icmp (.ne) 30, 3) := by decide +kernel
theorem d7 : decode yB 7 = .ok (.iconst 0, 1) := by decide +kernel
theorem d8 : decode yB 8 = .ok (.istore_n 2, 1) := by decide +kernel
theorem d9 : decode yB 9 = .ok (.iload_n 2, 1) := by decide +kernel
theorem d10 : decode yB 10 = .ok (.aload_n 0, 1) := by decide +kernel
theorem d11 : decode yB 11 = .ok (.arraylength, 1) := by decide +kernel
theorem d12 : decode yB 12 = .ok (.if_icmp (.ge) 20, 3) := by decide +kernel
theorem d15 : decode yB 15 = .ok (.aload_n 0, 1) := by decide +kernel
theorem d16 : decode yB 16 = .ok (.iload_n 2, 1) := by decide +kernel
theorem d17 : decode yB 17 = .ok (.baload, 1) := by decide +kernel
theorem d18 : decode yB 18 = .ok (.aload_n 1, 1) := by decide +kernel
theorem d19 : decode yB 19 = .ok (.iload_n 2, 1) := by decide +kernel
theorem d20 : decode yB 20 = .ok (.baload, 1) := by decide +kernel
theorem d21 : decode yB 21 = .ok (.if_icmp (.eq) 5, 3) := by decide +kernel
theorem d24 : decode yB 24 = .ok (.iconst 0, 1) := by decide +kernel
theorem d25 : decode yB 25 = .ok (.ireturn, 1) := by decide +kernel
theorem d26 : decode yB 26 = .ok (.iinc 2 1, 3) := by decide +kernel
theorem d29 : decode yB 29 = .ok (.goto (-20), 3) := by decide +kernel
theorem d32 : decode yB 32 = .ok (.iconst 1, 1) := by decide +kernel
theorem d33 : decode yB 33 = .ok (.ireturn, 1) := by decide +kernel
theorem d34 : decode yB 34 = .ok (.iconst 0, 1) := by decide +kernel
theorem d35 : decode yB 35 = .ok (.ireturn, 1) := by decide +kernel
def site : List Cond := []
def tab : Cond := tabOf yN yB 3 (some .boolean) site
def P (a : Addr) (A : Cell) (b : Addr) (B : Cell) (args : Array Value) (s : State) : Prop := args = #[.ref a, .ref b] ∧ XT.Arr .byte a A s ∧ Typed .byte A ∧ XT.Arr .byte b B s ∧ Typed .byte B
/-- whether two byte[] are equal, place for place -/
theorem law (l : Launch) (a : Addr) (A : Cell) (b : Addr) (B : Cell) : Law l yN 2 2 0 0 yB 3 (some .boolean) site (P a A b B) (Says01 (EqC A B)) [] 0 0 := by
  refine Law.of_walk (plainFor_of_name (by decide +kernel)) (by decide +kernel) (by decide +kernel) (by decide) (fun _ _ h => by rw [h.1]; rfl) (fun _ U U' hal hh h => ⟨h.1, h.2.1.mv hal hh, h.2.2.1, h.2.2.2.1.mv hal hh, h.2.2.2.2⟩) (fun r U U' V V' h1 hal h2 h => Says01.mv r U U' V V' h1 hal h2 h) ?_
  intro p e s m args below meth c s₁ X0 hexec hbytes hml hret hlk hnm hown hh0 W hP
  obtain ⟨rfl, hA, tA, hB, tB⟩ := hP
  have a31 := hA.2.2.2
  have b31 := hB.2.2.2
  have hA0 := hA.mv X0.warmed.alike hh0
  have hB0 := hB.mv X0.warmed.alike hh0
  have c1 : Steps p.tables e below (s₁.setTop (entryFrame m #[.ref a, .ref b] 3)) (s₁.setTop (mkF m 0 #[.val (.ref a), .val (.ref b), .unset] [])) := entry rfl
  have c2 : Steps p.tables e below (s₁.setTop (entryFrame m #[.ref a, .ref b] 3)) (s₁.setTop (mkF m 4 #[.val (.ref a), .val (.ref b), .unset] [.int (Int32.ofNat B.slots.size), .int (Int32.ofNat A.slots.size)])) := c1.trans (by
    refine XS.aloadN X0.here hexec rfl (hb hbytes d0) rfl rfl ?_
    refine X0.alen hexec hA0 rfl rfl (hb hbytes d1) ?_
    refine XS.aloadN X0.here hexec rfl (hb hbytes d2) rfl rfl ?_
    refine X0.alen hexec hB0 rfl rfl (hb hbytes d3) ?_
    exact Steps.refl _)
  by_cases hs : A.slots.size = B.slots.size
  · have c3 : Steps p.tables e below (s₁.setTop (entryFrame m #[.ref a, .ref b] 3)) (s₁.setTop (mkF m 9 #[.val (.ref a), .val (.ref b), .val (.int 0)] [])) := c2.trans (by
      refine XS.icmpNo X0.here hexec rfl (hb hbytes d4) rfl (ii_ne_f (by rw [hs])) ?_
      refine iconstV X0.here hexec rfl 0 (hb hbytes d7) (by decide) ?_
      refine XS.istoreN X0.here hexec rfl (hb hbytes d8) rfl rfl ?_
      exact Steps.refl _)
    have loop : ∀ (r i : Nat), i + r = A.slots.size → (∀ j, j < i → yv A j = yv B j) → Steps p.tables e below (s₁.setTop (entryFrame m #[.ref a, .ref b] 3)) (s₁.setTop (mkF m 9 #[.val (.ref a), .val (.ref b), .val (.int (Int32.ofNat i))] [])) → ∃ (pc : Nat) (Ls : Array Slot) (v : Int32), (pc = 25 ∨ pc = 33) ∧ ((v = 1 ∧ EqC A B) ∨ (v = 0 ∧ ¬ EqC A B)) ∧ Steps p.tables e below (s₁.setTop (entryFrame m #[.ref a, .ref b] 3)) (s₁.setTop (mkF m pc Ls [.int v])) := by
      intro r
      induction r with
      | zero =>
        intro i hi he cl
        exact ⟨33, _, 1, Or.inr rfl, Or.inl ⟨rfl, hs, fun j hj => he j (by omega)⟩, cl.trans (by
          refine XS.iloadN X0.here hexec rfl (hb hbytes d9) rfl ?_
          refine XS.aloadN X0.here hexec rfl (hb hbytes d10) rfl rfl ?_
          refine X0.alen hexec hA0 rfl rfl (hb hbytes d11) ?_
          refine XS.icmpYes X0.here hexec rfl (pc0 := 12) rfl (hb hbytes d12) rfl (ii_ge_t (nlt32 (by omega) (by omega))) (by decide) rfl ?_
          refine iconstV X0.here hexec rfl 1 (hb hbytes d32) (by decide) ?_
          exact Steps.refl _)⟩
      | succ r ih =>
        intro i hi he cl
        have c4 : Steps p.tables e below (s₁.setTop (entryFrame m #[.ref a, .ref b] 3)) (s₁.setTop (mkF m 21 #[.val (.ref a), .val (.ref b), .val (.int (Int32.ofNat i))] [.int (yv B i), .int (yv A i)])) := cl.trans (by
          refine XS.iloadN X0.here hexec rfl (hb hbytes d9) rfl ?_
          refine XS.aloadN X0.here hexec rfl (hb hbytes d10) rfl rfl ?_
          refine X0.alen hexec hA0 rfl rfl (hb hbytes d11) ?_
          refine XS.icmpNo X0.here hexec rfl (hb hbytes d12) rfl (ii_ge_f (lt32 (by omega) (by omega))) ?_
          refine XS.aloadN X0.here hexec rfl (hb hbytes d15) rfl rfl ?_
          refine XS.iloadN X0.here hexec rfl (hb hbytes d16) rfl ?_
          refine X0.aget hexec hA0 rfl (yv_get hA tA (i := i) (by omega)) rfl rfl (hb hbytes d17) ?_
          refine XS.aloadN X0.here hexec rfl (hb hbytes d18) rfl rfl ?_
          refine XS.iloadN X0.here hexec rfl (hb hbytes d19) rfl ?_
          refine X0.aget hexec hB0 rfl (yv_get hB tB (i := i) (by omega)) rfl rfl (hb hbytes d20) ?_
          exact Steps.refl _)
        by_cases hv : yv A i = yv B i
        · have c5 : Steps p.tables e below (s₁.setTop (entryFrame m #[.ref a, .ref b] 3)) (s₁.setTop (mkF m 9 #[.val (.ref a), .val (.ref b), .val (.int (Int32.ofNat i + 1))] [])) := c4.trans (by
            refine XS.icmpYes X0.here hexec rfl (pc0 := 21) rfl (hb hbytes d21) rfl (ii_eq_t hv) (by decide) rfl ?_
            refine iincV X0.here hexec rfl 1 (hb hbytes d26) (by decide) rfl rfl ?_
            refine XS.goto X0.here hexec rfl (pc0 := 29) rfl (hb hbytes d29) (by decide) rfl ?_
            exact Steps.refl _)
          rw [succ32] at c5
          exact ih (i + 1) (by omega) (fun j hj => by
            by_cases e : j = i
            · rw [e]; exact hv
            · exact he j (by omega)) c5
        · exact ⟨25, _, 0, Or.inl rfl, Or.inr ⟨rfl, fun q => hv (q.2 i (by omega))⟩, c4.trans (by
            refine XS.icmpNo X0.here hexec rfl (hb hbytes d21) rfl (ii_eq_f hv) ?_
            refine iconstV X0.here hexec rfl 0 (hb hbytes d24) (by decide) ?_
            exact Steps.refl _)⟩
    obtain ⟨pc, Ls, v, hpc, hv, cz⟩ := loop A.slots.size 0 (by omega) (fun j hj => absurd hj (Nat.not_lt_zero j)) c3
    have nv : narrow .boolean (.int v) = .int v := by rcases hv with ⟨rfl, -⟩ | ⟨rfl, -⟩ <;> rfl
    rcases hpc with rfl | rfl
    · exact ⟨s₁, some (.int v), _, _, _, X0, rfl, rfl, rfl, (fun h => by cases h), ⟨v, rfl, hh0, hv⟩, fun fs hl => cz.trans (X0.ireturnOut hexec hret nv (Or.inr (Or.inl rfl)) (hb hbytes d25) hl)⟩
    · exact ⟨s₁, some (.int v), _, _, _, X0, rfl, rfl, rfl, (fun h => by cases h), ⟨v, rfl, hh0, hv⟩, fun fs hl => cz.trans (X0.ireturnOut hexec hret nv (Or.inr (Or.inl rfl)) (hb hbytes d33) hl)⟩
  · have c3 : Steps p.tables e below (s₁.setTop (entryFrame m #[.ref a, .ref b] 3)) (s₁.setTop (mkF m 35 #[.val (.ref a), .val (.ref b), .unset] [.int 0])) := c2.trans (by
      refine XS.icmpYes X0.here hexec rfl (pc0 := 4) rfl (hb hbytes d4) rfl (ii_ne_t (ne32 a31 b31 hs)) (by decide) rfl ?_
      refine iconstV X0.here hexec rfl 0 (hb hbytes d34) (by decide) ?_
      exact Steps.refl _)
    exact ⟨s₁, some (.int 0), _, _, _, X0, rfl, rfl, rfl, (fun h => by cases h), ⟨0, rfl, hh0, Or.inr ⟨rfl, fun q => hs q.1⟩⟩, fun fs hl => c3.trans (X0.ireturnOut hexec hret rfl (Or.inr (Or.inl rfl)) (hb hbytes d35) hl)⟩
end LEq
theorem Cod.ty {cd : Int32} {n : Nat} {f : Nat → Int32} {V : Cell} (h : Cod cd n f V) : Typed .byte V := fun i v hv => by
  have hi : i < V.slots.size := (Array.getElem?_eq_some_iff.mp hv).1
  rcases h with ⟨-, k1, k2⟩ | ⟨-, k1, k2, -⟩
  · rw [(k2 i (by omega)).1] at hv; cases hv; exact fits_lo8 _
  · rcases Nat.mod_two_eq_zero_or_one i with e | e
    · obtain ⟨j, rfl⟩ : ∃ j, i = 2 * j := ⟨i / 2, by omega⟩
      rw [(k2 j (by omega)).1] at hv; cases hv; exact fits_lo8 _
    · obtain ⟨j, rfl⟩ : ∃ j, i = 2 * j + 1 := ⟨i / 2, by omega⟩
      rw [(k2 j (by omega)).2] at hv; cases hv; exact fits_lo8 _
/-- the same text -/
def SameT (n : Nat) (f : Nat → Int32) (k : Nat) (g : Nat → Int32) : Prop := n = k ∧ ∀ j, j < n → f j = g j
theorem lo8_inj {x y : Int32} (h0 : ¬ x < 0) (h1 : ¬ 255 < x) (k0 : ¬ y < 0) (k1 : ¬ 255 < y) (h : lo8 x = lo8 y) : x = y := by
  rw [← lo8_mask h0 h1, ← lo8_mask k0 k1, h]
/-- arrays coded by one coder are equal just where the texts are -/
theorem Cod.eqv {cd : Int32} {n k : Nat} {f g : Nat → Int32} {V V' : Cell} (h : Cod cd n f V) (h' : Cod cd k g V') (hf : ∀ j, j < n → ¬ f j < 0 ∧ ¬ 65535 < f j) (hg : ∀ j, j < k → ¬ g j < 0 ∧ ¬ 65535 < g j) : EqC V V' ↔ SameT n f k g := by
  have yvv : ∀ {W : Cell} {i : Nat} {x : Int32}, W.slots[i]? = some (.int x) → yv W i = x := fun q => by unfold yv; rw [q]
  rcases h with ⟨rfl, k1, k2⟩ | ⟨rfl, k1, k2, -⟩
  · rcases h' with ⟨-, m1, m2⟩ | ⟨e, -⟩
    · constructor
      · rintro ⟨e1, e2⟩
        refine ⟨by omega, fun j hj => ?_⟩
        have q := e2 j (by omega)
        rw [yvv (k2 j hj).1, yvv (m2 j (by omega)).1] at q
        exact lo8_inj (hf j hj).1 (k2 j hj).2 (hg j (by omega)).1 (m2 j (by omega)).2 q
      · rintro ⟨rfl, e2⟩
        refine ⟨by omega, fun j hj => ?_⟩
        rw [yvv (k2 j (by omega)).1, yvv (m2 j (by omega)).1, e2 j (by omega)]
    · exact absurd e (by decide)
  · rcases h' with ⟨e, -⟩ | ⟨-, m1, m2, -⟩
    · exact absurd e (by decide)
    · constructor
      · rintro ⟨e1, e2⟩
        refine ⟨by omega, fun j hj => ?_⟩
        have q1 := e2 (2 * j) (by omega)
        have q2 := e2 (2 * j + 1) (by omega)
        rw [yvv (k2 j hj).1, yvv (m2 j (by omega)).1] at q1
        rw [yvv (k2 j hj).2, yvv (m2 j (by omega)).2] at q2
        rw [← pair_says (hf j hj).1 (hf j hj).2, ← pair_says (hg j (by omega)).1 (hg j (by omega)).2, q1, q2]
      · rintro ⟨rfl, e2⟩
        refine ⟨by omega, fun i hi => ?_⟩
        rcases Nat.mod_two_eq_zero_or_one i with e | e
        · obtain ⟨j, rfl⟩ : ∃ j, i = 2 * j := ⟨i / 2, by omega⟩
          rw [yvv (k2 j (by omega)).1, yvv (m2 j (by omega)).1, e2 j (by omega)]
        · obtain ⟨j, rfl⟩ : ∃ j, i = 2 * j + 1 := ⟨i / 2, by omega⟩
          rw [yvv (k2 j (by omega)).2, yvv (m2 j (by omega)).2, e2 j (by omega)]
/-- two codings differ: so do the texts -/
theorem Cod.dif {cd cd' : Int32} {n k : Nat} {f g : Nat → Int32} {V V' : Cell} (h : Cod cd n f V) (h' : Cod cd' k g V') (hne : ¬ cd = cd') : ¬ SameT n f k g := by
  rintro ⟨rfl, e⟩
  rcases h with ⟨rfl, -, k2⟩ | ⟨rfl, -, -, j, hj, hw⟩
  · rcases h' with ⟨rfl, -⟩ | ⟨-, -, -, j, hj, hw⟩
    · exact hne rfl
    · exact (k2 j hj).2 (by rw [e j hj]; exact hw)
  · rcases h' with ⟨-, -, m2⟩ | ⟨rfl, -⟩
    · exact (m2 j hj).2 (by rw [← e j hj]; exact hw)
    · exact hne rfl
/-- an object of exactly C is an instance of C -/
theorem cinst {p : Program} {l : Launch} {e : Env} {R : Room} {s : State} {m : MethodId} {args : Array Value} {below : List Frame} {meth : Method} {c : Code} {T : State} {locs : List Loc} {cells slots : Nat} (X : Stand p l e R s m args below meth c T locs cells slots) (hexec : p.tables.exec = Jvm.exec) {own C : String} {index : Nat} (hown : s.vm.findClass own = some m.cls) (hlink : (Cond.classLink own index C).before args s = true) {a : Addr} (hE : Exact C a T)
    {g : JFrame} (hg : g.method = m) {rest : List Value} (hstack : g.stack = .ref a :: rest) (hdg : decode c.code g.pc = .ok (.instanceof index, 3)) :
    ∃ T', Stand p l e R s m args below meth c T' locs cells slots ∧ T'.heap = T.heap ∧ ∀ target, Steps p.tables e below (T'.setTop { g with pc := g.pc + 3, stack := .int 1 :: rest }) target → Steps p.tables e below (T.setTop g) target := by
  obtain ⟨cB, h1, D, h2, h3, h4⟩ := hE
  have h1' : s.vm.findClass C = some cB := by rw [← X.warmed.alike.findClass]; exact h1
  obtain ⟨vm', X', st⟩ := X.instanceofYes hexec hown hlink h2 h4 h1' (by rw [h3]; exact Jvm.Free.SB.assignable_self _ _) hg hstack hdg
  exact ⟨_, X', rfl, st⟩
theorem cself {p : Program} {l : Launch} {e : Env} {R : Room} {s : State} {m : MethodId} {args : Array Value} {below : List Frame} {meth : Method} {c : Code} {T : State} {locs : List Loc} {cells slots : Nat} (X : Stand p l e R s m args below meth c T locs cells slots) (hexec : p.tables.exec = Jvm.exec) {own C : String} {index : Nat} (hown : s.vm.findClass own = some m.cls) (hlink : (Cond.classLink own index C).before args s = true) {a : Addr} (hE : Exact C a T)
    {g : JFrame} (hg : g.method = m) {rest : List Value} (hstack : g.stack = .ref a :: rest) (hdg : decode c.code g.pc = .ok (.checkcast index, 3)) :
    ∃ T', Stand p l e R s m args below meth c T' locs cells slots ∧ T'.heap = T.heap ∧ ∀ target, Steps p.tables e below (T'.setTop { g with pc := g.pc + 3, stack := .ref a :: rest }) target → Steps p.tables e below (T.setTop g) target := by
  obtain ⟨cB, h1, D, h2, h3, h4⟩ := hE
  have h1' : s.vm.findClass C = some cB := by rw [← X.warmed.alike.findClass]; exact h1
  obtain ⟨vm', X', st⟩ := X.checkcastYes hexec hown hlink h2 h4 h1' (by rw [h3]; exact Jvm.Free.SB.assignable_self _ _) hg hstack hdg
  exact ⟨_, X', rfl, fun t h => st t (by rw [← hstack] at h; exact h)⟩
namespace SEq
def yN : MethodName := ⟨"java/lang/String", "equals", "(Ljava/lang/Object;)Z"⟩
abbrev yB : ByteArray := jdk_42_method_66_code
theorem d0 : decode yB 0 = .ok (.aload_n 0, 1) := by decide +kernel
theorem d1 : decode yB 1 = .ok (.aload_n 1, 1) := by decide +kernel
theorem d2 : decode yB 2 = .ok (.if_acmp (.ne) 5, 3) := by decide +kernel
theorem d5 : decode yB 5 = .ok (.iconst 1, 1) := by decide +kernel
theorem d6 : decode yB 6 = .ok (.ireturn, 1) := by decide +kernel
theorem d7 : decode yB 7 = .ok (.aload_n 1, 1) := by decide +kernel
theorem d8 : decode yB 8 = .ok (.instanceof 10, 3) := by decide +kernel
theorem d11 : decode yB 11 = .ok (.ifCond (.eq) 43, 3) := by decide +kernel
theorem d14 : decode yB 14 = .ok (.aload_n 1, 1) := by decide +kernel
theorem d15 : decode yB 15 = .ok (.checkcast 10, 3) := by decide +kernel
theorem d18 : decode yB 18 = .ok (.astore_n 2, 1) := by decide +kernel
theorem d19 : decode yB 19 = .ok (.getstatic 38, 3) := by decide +kernel
theorem d22 : decode yB 22 = .ok (.ifCond (.eq) 14, 3) := by decide +kernel
theorem d25 : decode yB 25 = .ok (.aload_n 0, 1) := by decide +kernel
theorem d26 : decode yB 26 = .ok (.getfield 15, 3) := by decide +kernel
theorem d29 : decode yB 29 = .ok (.aload_n 2, 1) := by decide +kernel
theorem d30 : decode yB 30 = .ok (.getfield 15, 3) := by decide +kernel
theorem d33 : decode yB 33 = .ok (.if_icmp (.ne) 21, 3) := by decide +kernel
theorem d36 : decode yB 36 = .ok (.aload_n 0, 1) := by decide +kernel
theorem d37 : decode yB 37 = .ok (.getfield 9, 3) := by decide +kernel
theorem d40 : decode yB 40 = .ok (.aload_n 2, 1) := by decide +kernel
theorem d41 : decode yB 41 = .ok (.getfield 9, 3) := by decide +kernel
theorem d44 : decode yB 44 = .ok (.invokestatic 541, 3) := by decide +kernel
theorem d47 : decode yB 47 = .ok (.ifCond (.eq) 7, 3) := by decide +kernel
theorem d50 : decode yB 50 = .ok (.iconst 1, 1) := by decide +kernel
theorem d51 : decode yB 51 = .ok (.goto 4, 3) := by decide +kernel
theorem d54 : decode yB 54 = .ok (.iconst 0, 1) := by decide +kernel
theorem d55 : decode yB 55 = .ok (.ireturn, 1) := by decide +kernel
def site : List Cond := [.classLink "java/lang/String" 10 "java/lang/String", .fieldLink "java/lang/String" 38 "java/lang/String" "COMPACT_STRINGS" "Z", .fieldLink "java/lang/String" 15 "java/lang/String" "coder" "B", .fieldLink "java/lang/String" 9 "java/lang/String" "value" "[B", LEq.tab] ++ staticW "java/lang/String" 541 LEq.yN
def tab : Cond := tabOf yN yB 3 (some .boolean) site
def P (x t : Addr) (V : Cell) (cd : Int32) (n : Nat) (f : Nat → Int32) (y t' : Addr) (V' : Cell) (cd' : Int32) (k : Nat) (g : Nat → Int32) (z : Int32) (args : Array Value) (s : State) : Prop := args = #[.ref x, .ref y] ∧ Txt x t V cd n f s ∧ Txt y t' V' cd' k g s ∧ StaticIs s "java/lang/String" "COMPACT_STRINGS" "Z" (.int z) ∧ ¬ z = 0
/-- equals(Object) of two Strings: whether the texts are the same -/
theorem law (l : Launch) (x t : Addr) (V : Cell) (cd : Int32) (n : Nat) (f : Nat → Int32) (y t' : Addr) (V' : Cell) (cd' : Int32) (k : Nat) (g : Nat → Int32) (z : Int32) : Law l yN 2 1 1 14 yB 3 (some .boolean) site (P x t V cd n f y t' V' cd' k g z) (Says01 (SameT n f k g)) [] 0 0 := by
  refine Law.of_walk (plainFor_of_name (by decide +kernel)) (by decide +kernel) (by decide +kernel) (by decide) (fun _ _ h => by rw [h.1]; rfl) (fun _ U U' hal hh h => ⟨h.1, h.2.1.mv hal hh, h.2.2.1.mv hal hh, h.2.2.2.1.there hal hh, h.2.2.2.2⟩) (fun r U U' V V' h1 hal h2 h => Says01.mv r U U' V V' h1 hal h2 h) ?_
  intro p e s m args below meth c s₁ X0 hexec hbytes hml hret hlk hnm hown hh0 W hP
  obtain ⟨rfl, hx, hy, s1, hz⟩ := hP
  have c1 : Steps p.tables e below (s₁.setTop (entryFrame m #[.ref x, .ref y] 3)) (s₁.setTop (mkF m 2 #[.val (.ref x), .val (.ref y), .unset] [.ref y, .ref x])) := Steps.trans (entry rfl) (by
    show Steps p.tables e below (s₁.setTop (mkF m 0 #[.val (.ref x), .val (.ref y), .unset] [])) _
    refine XS.aloadN X0.here hexec rfl (hb hbytes d0) rfl rfl ?_
    refine XS.aloadN X0.here hexec rfl (hb hbytes d1) rfl rfl ?_
    exact Steps.refl _)
  by_cases hxy : x = y
  · have c2 : Steps p.tables e below (s₁.setTop (entryFrame m #[.ref x, .ref y] 3)) (s₁.setTop (mkF m 6 #[.val (.ref x), .val (.ref y), .unset] [.int 1])) := c1.trans (by
      refine acmpNo X0.here hexec rfl (hb hbytes d2) rfl rfl rfl (by simp [acmp, hxy]) ?_
      refine iconstV X0.here hexec rfl 1 (hb hbytes d5) (by decide) ?_
      exact Steps.refl _)
    subst hxy
    have ec : cd = cd' := by
      obtain ⟨D, fd, a1, a2, a3⟩ := hx.2.2.1
      obtain ⟨D', fd', b1, b2, b3⟩ := hy.2.2.1
      cases a1.symm.trans b1
      obtain ⟨q1, q2, q3, q4⟩ := a2.1
      obtain ⟨r1, r2, r3, r4⟩ := b2.1
      cases q4.symm.trans r4
      cases a3.symm.trans b3; rfl
    have et : t = t' := by
      obtain ⟨D, fd, a1, a2, a3⟩ := hx.2.1
      obtain ⟨D', fd', b1, b2, b3⟩ := hy.2.1
      cases a1.symm.trans b1
      obtain ⟨q1, q2, q3, q4⟩ := a2.1
      obtain ⟨r1, r2, r3, r4⟩ := b2.1
      cases q4.symm.trans r4
      cases a3.symm.trans b3; rfl
    subst ec et
    have ev : V = V' := by cases hx.2.2.2.1.1.symm.trans hy.2.2.2.1.1; rfl
    subst ev
    have hs : SameT n f k g := (Cod.eqv hx.2.2.2.2.1 hy.2.2.2.2.1 hx.2.2.2.2.2 hy.2.2.2.2.2).mp ⟨rfl, fun _ _ => rfl⟩
    exact ⟨s₁, some (.int 1), _, _, _, X0, rfl, rfl, rfl, (fun h => by cases h), ⟨1, rfl, hh0, Or.inl ⟨rfl, hs⟩⟩, fun fs hl => c2.trans (X0.ireturnOut hexec hret rfl (Or.inr (Or.inl rfl)) (hb hbytes d6) hl)⟩
  · have c2 : Steps p.tables e below (s₁.setTop (entryFrame m #[.ref x, .ref y] 3)) (s₁.setTop (mkF m 8 #[.val (.ref x), .val (.ref y), .unset] [.ref y])) := c1.trans (by
      refine acmpYes X0.here hexec rfl (pc0 := 2) rfl (hb hbytes d2) rfl rfl rfl (by simp [acmp, hxy]) (by decide) rfl ?_
      refine XS.aloadN X0.here hexec rfl (hb hbytes d7) rfl rfl ?_
      exact Steps.refl _)
    obtain ⟨T3, X3, q3, st3⟩ := cinst X0 hexec hown (wk W (.classLink "java/lang/String" 10 "java/lang/String")) (hy.mv X0.warmed.alike hh0).1 (g := (mkF m 8 #[.val (.ref x), .val (.ref y), .unset] [.ref y])) rfl (rest := []) rfl (hb hbytes d8)
    have hh3 := q3.trans hh0
    have c4 : Steps p.tables e below (s₁.setTop (entryFrame m #[.ref x, .ref y] 3)) (T3.setTop (mkF m 15 #[.val (.ref x), .val (.ref y), .unset] [.ref y])) := (c2.trans (st3 _ (Steps.refl _))).trans (by
      refine XS.ifNo X3.here hexec rfl (hb hbytes d11) rfl (i0_eq_f (by decide)) ?_
      refine XS.aloadN X3.here hexec rfl (hb hbytes d14) rfl rfl ?_
      exact Steps.refl _)
    obtain ⟨T5, X5, q5, st5⟩ := cself X3 hexec hown (wk W (.classLink "java/lang/String" 10 "java/lang/String")) (hy.mv X3.warmed.alike hh3).1 (g := (mkF m 15 #[.val (.ref x), .val (.ref y), .unset] [.ref y])) rfl (rest := []) rfl (hb hbytes d15)
    have hh5 := q5.trans hh3
    have c6 : Steps p.tables e below (s₁.setTop (entryFrame m #[.ref x, .ref y] 3)) (T5.setTop (mkF m 19 #[.val (.ref x), .val (.ref y), .val (.ref y)] [])) := (c4.trans (st5 _ (Steps.refl _))).trans (by
      refine XS.astoreN X5.here hexec rfl (hb hbytes d18) rfl rfl rfl ?_
      exact Steps.refl _)
    obtain ⟨T7, X7, q7, st7⟩ := X5.sget hexec hown (wk W (.fieldLink "java/lang/String" 38 "java/lang/String" "COMPACT_STRINGS" "Z")) s1 (fun _ _ h => by rw [hh5]; exact h) (g := (mkF m 19 #[.val (.ref x), .val (.ref y), .val (.ref y)] [])) rfl (hb hbytes d19)
    have hh7 := q7.trans hh5
    have c8 : Steps p.tables e below (s₁.setTop (entryFrame m #[.ref x, .ref y] 3)) (T7.setTop (mkF m 26 #[.val (.ref x), .val (.ref y), .val (.ref y)] [.ref x])) := (c6.trans (st7 _ (Steps.refl _))).trans (by
      refine XS.ifNo X7.here hexec rfl (hb hbytes d22) rfl (i0_eq_f hz) ?_
      refine XS.aloadN X7.here hexec rfl (hb hbytes d25) rfl rfl ?_
      exact Steps.refl _)
    obtain ⟨T9, X9, q9, st9⟩ := X7.hget hexec hown (wk W (.fieldLink "java/lang/String" 15 "java/lang/String" "coder" "B")) (hx.mv X7.warmed.alike hh7).2.2.1 (g := (mkF m 26 #[.val (.ref x), .val (.ref y), .val (.ref y)] [.ref x])) rfl (rest := []) rfl (hb hbytes d26)
    have hh9 := q9.trans hh7
    have c10 : Steps p.tables e below (s₁.setTop (entryFrame m #[.ref x, .ref y] 3)) (T9.setTop (mkF m 30 #[.val (.ref x), .val (.ref y), .val (.ref y)] [.ref y, .int cd])) := (c8.trans (st9 _ (Steps.refl _))).trans (by
      refine XS.aloadN X9.here hexec rfl (hb hbytes d29) rfl rfl ?_
      exact Steps.refl _)
    obtain ⟨T11, X11, q11, st11⟩ := X9.hget hexec hown (wk W (.fieldLink "java/lang/String" 15 "java/lang/String" "coder" "B")) (hy.mv X9.warmed.alike hh9).2.2.1 (g := (mkF m 30 #[.val (.ref x), .val (.ref y), .val (.ref y)] [.ref y, .int cd])) rfl (rest := [.int cd]) rfl (hb hbytes d30)
    have hh11 := q11.trans hh9
    have c12 : Steps p.tables e below (s₁.setTop (entryFrame m #[.ref x, .ref y] 3)) (T11.setTop (mkF m 33 #[.val (.ref x), .val (.ref y), .val (.ref y)] [.int cd', .int cd])) := c10.trans (st11 _ (Steps.refl _))
    by_cases hcd : cd = cd'
    · subst hcd
      have c13 : Steps p.tables e below (s₁.setTop (entryFrame m #[.ref x, .ref y] 3)) (T11.setTop (mkF m 37 #[.val (.ref x), .val (.ref y), .val (.ref y)] [.ref x])) := c12.trans (by
        refine XS.icmpNo X11.here hexec rfl (hb hbytes d33) rfl (ii_ne_f rfl) ?_
        refine XS.aloadN X11.here hexec rfl (hb hbytes d36) rfl rfl ?_
        exact Steps.refl _)
      obtain ⟨T14, X14, q14, st14⟩ := X11.hget hexec hown (wk W (.fieldLink "java/lang/String" 9 "java/lang/String" "value" "[B")) (hx.mv X11.warmed.alike hh11).2.1 (g := (mkF m 37 #[.val (.ref x), .val (.ref y), .val (.ref y)] [.ref x])) rfl (rest := []) rfl (hb hbytes d37)
      have hh14 := q14.trans hh11
      have c15 : Steps p.tables e below (s₁.setTop (entryFrame m #[.ref x, .ref y] 3)) (T14.setTop (mkF m 41 #[.val (.ref x), .val (.ref y), .val (.ref y)] [.ref y, .ref t])) := (c13.trans (st14 _ (Steps.refl _))).trans (by
        refine XS.aloadN X14.here hexec rfl (hb hbytes d40) rfl rfl ?_
        exact Steps.refl _)
      obtain ⟨T16, X16, q16, st16⟩ := X14.hget hexec hown (wk W (.fieldLink "java/lang/String" 9 "java/lang/String" "value" "[B")) (hy.mv X14.warmed.alike hh14).2.1 (g := (mkF m 41 #[.val (.ref x), .val (.ref y), .val (.ref y)] [.ref y, .ref t])) rfl (rest := [.ref t]) rfl (hb hbytes d41)
      have hh16 := q16.trans hh14
      have c17 : Steps p.tables e below (s₁.setTop (entryFrame m #[.ref x, .ref y] 3)) (T16.setTop (mkF m 44 #[.val (.ref x), .val (.ref y), .val (.ref y)] [.ref t', .ref t])) := c15.trans (st16 _ (Steps.refl _))
      obtain ⟨v18, T18, X18, E18, g18⟩ := X16.callS hexec (LEq.law l t V t' V') hown (wks W (staticW "java/lang/String" 541 LEq.yN)) (wk W LEq.tab) (W := 0) (Nat.le_of_ble_eq_true rfl) (Nat.le_of_ble_eq_true rfl) (Nat.le_refl _) (Nat.le_refl _) (g := (mkF m 44 #[.val (.ref x), .val (.ref y), .val (.ref y)] [.ref t', .ref t])) rfl (by rw [hml]; rfl) c17 (argsL := [.ref t, .ref t']) (rest := []) rfl rfl (by show 2 * 0 + 0 ≤ _; decide) (hb hbytes d44) (⟨rfl, hx.2.2.2.1.mv X16.warmed.alike hh16, hx.2.2.2.2.1.ty, hy.2.2.2.1.mv X16.warmed.alike hh16, hy.2.2.2.2.1.ty⟩)
      obtain ⟨v, rfl, q18, hv⟩ := E18
      have iff := Cod.eqv hx.2.2.2.2.1 hy.2.2.2.2.1 hx.2.2.2.2.2 hy.2.2.2.2.2
      rcases hv with ⟨rfl, he⟩ | ⟨rfl, he⟩
      · have c19 : Steps p.tables e below (s₁.setTop (entryFrame m #[.ref x, .ref y] 3)) (T18.setTop (mkF m 55 #[.val (.ref x), .val (.ref y), .val (.ref y)] [.int 1])) := Steps.trans g18 (by
          refine XS.ifNo X18.here hexec rfl (hb hbytes d47) rfl (i0_eq_f (by decide)) ?_
          refine iconstV X18.here hexec rfl 1 (hb hbytes d50) (by decide) ?_
          refine XS.goto X18.here hexec rfl (pc0 := 51) rfl (hb hbytes d51) (by decide) rfl ?_
          exact Steps.refl _)
        exact ⟨T18, some (.int 1), _, _, _, X18, rfl, rfl, rfl, (fun h => by cases h), ⟨1, rfl, q18.trans hh16, Or.inl ⟨rfl, iff.mp he⟩⟩, fun fs hl => c19.trans (X18.ireturnOut hexec hret rfl (Or.inr (Or.inl rfl)) (hb hbytes d55) hl)⟩
      · have c19 : Steps p.tables e below (s₁.setTop (entryFrame m #[.ref x, .ref y] 3)) (T18.setTop (mkF m 55 #[.val (.ref x), .val (.ref y), .val (.ref y)] [.int 0])) := Steps.trans g18 (by
          refine XS.ifYes X18.here hexec rfl (pc0 := 47) rfl (hb hbytes d47) rfl (i0_eq_t rfl) (by decide) rfl ?_
          refine iconstV X18.here hexec rfl 0 (hb hbytes d54) (by decide) ?_
          exact Steps.refl _)
        exact ⟨T18, some (.int 0), _, _, _, X18, rfl, rfl, rfl, (fun h => by cases h), ⟨0, rfl, q18.trans hh16, Or.inr ⟨rfl, fun q => he (iff.mpr q)⟩⟩, fun fs hl => c19.trans (X18.ireturnOut hexec hret rfl (Or.inr (Or.inl rfl)) (hb hbytes d55) hl)⟩
    · have c13 : Steps p.tables e below (s₁.setTop (entryFrame m #[.ref x, .ref y] 3)) (T11.setTop (mkF m 55 #[.val (.ref x), .val (.ref y), .val (.ref y)] [.int 0])) := c12.trans (by
        refine XS.icmpYes X11.here hexec rfl (pc0 := 33) rfl (hb hbytes d33) rfl (ii_ne_t hcd) (by decide) rfl ?_
        refine iconstV X11.here hexec rfl 0 (hb hbytes d54) (by decide) ?_
        exact Steps.refl _)
      exact ⟨T11, some (.int 0), _, _, _, X11, rfl, rfl, rfl, (fun h => by cases h), ⟨0, rfl, hh11, Or.inr ⟨rfl, Cod.dif hx.2.2.2.2.1 hy.2.2.2.2.1 hcd⟩⟩, fun fs hl => c13.trans (X11.ireturnOut hexec hret rfl (Or.inr (Or.inl rfl)) (hb hbytes d55) hl)⟩
theorem pays {l : Launch} {R : Room} {p : Program} {e : Env} {below : List Frame} {s : State} {sargs : Array Value} {len W : Nat} (x t : Addr) (V : Cell) (cd : Int32) (n : Nat) (f : Nat → Int32) (y t' : Addr) (V' : Cell) (cd' : Int32) (k : Nat) (g : Nat → Int32) (z : Int32) (htab : tab.before sargs s = true) (hfr : 2 ≤ R.frames) (hlo : W + 28 ≤ R.locals) :
    Back l R p e below s sargs yN len W (fun A₁ a₁ => A₁.cells + 0 ≤ R.cells ∧ A₁.slots + 0 ≤ R.slots ∧ P x t V cd n f y t' V' cd' k g z a₁ A₁.U) (fun A₁ _ v₁ B₁ => Says01 (SameT n f k g) v₁ A₁.U B₁.U ∧ B₁.locs = A₁.locs ++ [] ∧ B₁.cells = A₁.cells + 0 ∧ B₁.slots = A₁.slots + 0) :=
  (law l x t V cd n f y t' V' cd' k g z).pays htab hfr (by omega)
end SEq
end StrChars
namespace StrChars.Road
open Jvm Sem ClassFile Op Lib Jvm.Stand Jvm.Free Jvm.Free.XT
open Jvm.Lib.Cold (StaticIs)
/-- the words of String.equals(Object) -/
abbrev wordsEq : List Jvm.Cond := [.code SEq.yN SEq.yB 3 (some .boolean), .initialized ST, .classLink ST 10 ST, .fieldLink ST 38 ST "COMPACT_STRINGS" "Z", .fieldLink ST 15 ST "coder" "B", .fieldLink ST 9 ST "value" "[B", .methodLink ST 541 LEq.yN, .static LEq.yN, .code LEq.yN LEq.yB 3 (some .boolean), .initialized "java/lang/StringLatin1"]
theorem tabEq_of {a : Array Value} {s : State} (h : ∀ w ∈ wordsEq, w.before a s = true) : SEq.tab.before a s = true := by
  have hl : LEq.tab.before a s = true := unparts (wk h (.code LEq.yN LEq.yB 3 (some .boolean))) (wks h (.initialized LEq.yN.cls :: LEq.site))
  have q := consq hl h
  exact unparts (wk q (.code SEq.yN SEq.yB 3 (some .boolean))) (wks q (.initialized SEq.yN.cls :: SEq.site))
theorem movedEq {Z s : State} {a0 args : Array Value} (hZ : Z.Warmed39 s.vm) (hw : ∀ d ∈ wordsEq, d.before a0 Z = true) : ∀ d ∈ wordsEq, d.before args s = true := fun d hd => by
  have t : ∀ d ∈ wordsEq, (d.onTables && d.keepsFace) = true := by decide +kernel
  exact RoadKit.mv hZ (hw d hd) (t d hd)
/-- the road's facts of a String, as the laws ask it -/
theorem txt_of {Z U : State} {a0 : Array Value} {kI : Nat} (wi : (Jvm.Cond.instantiable ST kI).before a0 Z = true) (al : Z.vm.Alike U.vm) {x t : Addr} {kb : ClassId} {cs : List Int32} {cd N2 : Int32} {vs : List Value} (E : RoadKit.Exa Z U.heap x ST) (V : RoadKit.Fld Z U.heap x ST "value" "[B" (.ref t)) (C : RoadKit.Fld Z U.heap x ST "coder" "B" (.int cd)) (K : RoadKit.Arv Z U.heap t kb .byte N2 vs (.int 0)) (hc : CodA cs cd N2 vs) (hb : ∀ c ∈ cs, ¬ c < 0 ∧ ¬ (65535 : Int32) < c) (l2 : cs.length ≤ 4000) :
    ∃ A, Txt x t A cd cs.length (fun j => cs.getD j 0) U := by
  obtain ⟨A, K1, K2, K3, K4, K5, K6⟩ := K
  have hcod := hc.cod (by omega) K3 K5
  obtain ⟨D, fV, fC, hB, F1, F2, g1, g2, -, -⟩ := strObj wi al E V C
  exact ⟨A, ⟨_, hB.2.2.1, D, hB.1, rfl, by cases q : D.vm <;> first | rfl | exact absurd q (hB.2.1.2 _)⟩, Has.of hB F1 g1, Has.of hB F2 g2, ⟨K1.1, State.isArrayOf_alike al K1.2.1, K1.2.2, by rcases hcod with ⟨-, q, -⟩ | ⟨-, q, -⟩ <;> omega⟩, hcod, fun j hj => by
    have e : cs.getD j 0 = cs[j] := by simp [List.getD_eq_getElem?_getD, hj]
    show ¬ cs.getD j 0 < 0 ∧ ¬ 65535 < cs.getD j 0
    rw [e]; exact hb _ (List.getElem_mem _)⟩
theorem same_list (cs ds : List Int32) : SameT cs.length (fun j => cs.getD j 0) ds.length (fun j => ds.getD j 0) ↔ cs = ds := by
  constructor
  · rintro ⟨e, q⟩
    refine List.ext_getElem e fun j h1 h2 => ?_
    have := q j h1
    simpa [List.getD_eq_getElem?_getD, h1, h2] using this
  · rintro rfl
    exact ⟨rfl, fun _ _ => rfl⟩
/-- **equals(Object) OF TWO SUCH STRINGS**: 1 just where the chars are the same -/
theorem eqW {p : Program} {l : Launch} {e : Env} {R : Room} {s : State} {args : Array Value} {below : List Frame} {len W : Nat} {Z : State} {a0 : Array Value} {h : Heap} (hZ : Z.Warmed39 s.vm) (hw : ∀ d ∈ wordsEq, d.before a0 Z = true) {kI : Nat} (wi : (Jvm.Cond.instantiable ST kI).before a0 Z = true)
    {x t : Addr} {kb : ClassId} {cs : List Int32} {cd N2 : Int32} {vs : List Value} (E : RoadKit.Exa Z h x ST) (V : RoadKit.Fld Z h x ST "value" "[B" (.ref t)) (C : RoadKit.Fld Z h x ST "coder" "B" (.int cd)) (K : RoadKit.Arv Z h t kb .byte N2 vs (.int 0)) (hc : CodA cs cd N2 vs) (hb : ∀ c ∈ cs, ¬ c < 0 ∧ ¬ (65535 : Int32) < c) (l2 : cs.length ≤ 4000)
    {y t' : Addr} {kb' : ClassId} {ds : List Int32} {cd' N2' : Int32} {vs' : List Value} (E' : RoadKit.Exa Z h y ST) (V' : RoadKit.Fld Z h y ST "value" "[B" (.ref t')) (C' : RoadKit.Fld Z h y ST "coder" "B" (.int cd')) (K' : RoadKit.Arv Z h t' kb' .byte N2' vs' (.int 0)) (hc' : CodA ds cd' N2' vs') (hb' : ∀ c ∈ ds, ¬ c < 0 ∧ ¬ (65535 : Int32) < c) (l2' : ds.length ≤ 4000)
    {z : Int32} (S : RoadKit.Sta Z h ST "COMPACT_STRINGS" "Z" (.int z)) (hz : ¬ z = 0) (hfr : 2 ≤ R.frames) (hlo : W + 28 ≤ R.locals) :
    Back l R p e below s args (⟨"java/lang/String", "equals", "(Ljava/lang/Object;)Z"⟩ : MethodName) len W (fun P a => a = #[.ref x, .ref y] ∧ P.U.heap = h ∧ P.cells + 0 ≤ R.cells ∧ P.slots + 0 ≤ R.slots)
      (fun P _ v B => ∃ L, (((v = some (.int 1) ∧ cs = ds) ∨ (v = some (.int 0) ∧ ¬ cs = ds)) ∧ L = [] ∧ B.U.heap = h) ∧ B.locs = P.locs ++ L ∧ B.cells = P.cells + 0 ∧ B.slots = P.slots + 0) := by
  intro m meth c P g ig mk a X hg hsize hdg hW hn hp'
  obtain ⟨rfl, rfl, r1, r2⟩ := hp'
  have al : Z.vm.Alike P.U.vm := hZ.alike.trans X.warmed.alike
  obtain ⟨A, hx⟩ := txt_of wi al E V C K hc hb l2
  obtain ⟨A', hy⟩ := txt_of wi al E' V' C' K' hc' hb' l2'
  obtain ⟨v, B, X', ⟨⟨w, hv, hh, hq⟩, hl, hk, hs⟩, st⟩ := SEq.pays x t A cd cs.length (fun j => cs.getD j 0) y t' A' cd' ds.length (fun j => ds.getD j 0) z (tabEq_of (movedEq hZ hw)) hfr hlo m meth c P g ig mk _ X hg hsize hdg hW hn ⟨r1, r2, rfl, hx, hy, sta_is al S, hz⟩
  refine ⟨v, B, X', ⟨[], ⟨?_, rfl, hh⟩, hl, hk, hs⟩, st⟩
  rcases hq with ⟨rfl, q⟩ | ⟨rfl, q⟩
  · exact Or.inl ⟨hv, (same_list cs ds).mp q⟩
  · exact Or.inr ⟨hv, fun e => q ((same_list cs ds).mpr e)⟩
end StrChars.Road
namespace StrChars
open Jvm Sem ClassFile Op Lib Jvm.Stand Jvm.Free.XT Jvm.Free.ALB Jvm.Free.JM Jvm.Free
open Jvm.Lib.Cold (StaticIs)
namespace ChN
def yN : MethodName := ⟨"java/lang/String", "charAt", "(I)C"⟩
abbrev yB : ByteArray := jdk_42_method_56_code
theorem d0 : decode yB 0 = .ok (.aload_n 0, 1) := by decide +kernel
theorem d1 : decode yB 1 = .ok (.invokevirtual 492, 3) := by decide +kernel
theorem d4 : decode yB 4 = .ok (.ifCond (.eq) 12, 3) := by decide +kernel
theorem d7 : decode yB 7 = .ok (.aload_n 0, 1) := by decide +kernel
theorem d8 : decode yB 8 = .ok (.getfield 9, 3) := by decide +kernel
theorem d11 : decode yB 11 = .ok (.iload_n 1, 1) := by decide +kernel
theorem d12 : decode yB 12 = .ok (.invokestatic 495, 3) := by decide +kernel
theorem d15 : decode yB 15 = .ok (.ireturn, 1) := by decide +kernel
def site : List Cond := [.fieldLink "java/lang/String" 9 "java/lang/String" "value" "[B", IsL.tab, LChA.tab] ++ virtW "java/lang/String" 492 "java/lang/String" IsL.yN IsL.yN ++ staticW "java/lang/String" 495 LChA.yN
def tab : Cond := tabOf yN yB 2 (some .char) site
def P (x t : Addr) (V : Cell) (n : Nat) (f : Nat → Int32) (z : Int32) (fm : Value) (i : Nat) (args : Array Value) (s : State) : Prop := args = #[.ref x, .int (Int32.ofNat i)] ∧ Txt x t V 0 n f s ∧ i < n ∧ StaticIs s "java/lang/String" "COMPACT_STRINGS" "Z" (.int z) ∧ ¬ z = 0 ∧ StaticIs s "jdk/internal/util/Preconditions" "SIOOBE_FORMATTER" "Ljava/util/function/BiFunction;" fm ∧ fm.isRef = true
def E (f : Nat → Int32) (i : Nat) (r : Option Value) (s u : State) : Prop := XT.PureE (some (.int (f i))) r s u
/-- charAt(i) of a Latin-1 String of n chars, i < n: f i -/
theorem law (l : Launch) (x t : Addr) (V : Cell) (n : Nat) (f : Nat → Int32) (z : Int32) (fm : Value) (i : Nat) : Law l yN 2 1 3 40 yB 2 (some .char) site (P x t V n f z fm i) (E f i) [] 0 0 := by
  refine Law.of_walk (plainFor_of_name (by decide +kernel)) (by decide +kernel) (by decide +kernel) (by decide) (fun _ _ h => by rw [h.1]; rfl) (fun _ U U' hal hh h => ⟨h.1, h.2.1.mv hal hh, h.2.2.1, h.2.2.2.1.there hal hh, h.2.2.2.2.1, h.2.2.2.2.2.1.there hal hh, h.2.2.2.2.2.2⟩) (fun r U U' V V' h1 hal h2 h => XT.PureE.mv r U U' V V' h1 hal h2 h) ?_
  intro p e s m args below meth c s₁ X0 hexec hbytes hml hret hlk hnm hown hh0 W hP
  obtain ⟨rfl, hx, hi, s1, hz, s3, rf⟩ := hP
  have v31 := hx.2.2.2.1.2.2.2
  have hr := hx.2.2.2.2.2 i hi
  have hx0 := hx.mv X0.warmed.alike hh0
  have c1 : Steps p.tables e below (s₁.setTop (entryFrame m #[.ref x, .int (Int32.ofNat i)] 2)) (s₁.setTop (mkF m 1 #[.val (.ref x), .val (.int (Int32.ofNat i))] [.ref x])) := Steps.trans (entry rfl) (by
    show Steps p.tables e below (s₁.setTop (mkF m 0 #[.val (.ref x), .val (.int (Int32.ofNat i))] [])) _
    refine XS.aloadN X0.here hexec rfl (hb hbytes d0) rfl rfl ?_
    exact Steps.refl _)
  obtain ⟨v2, T2, X2, E2, g2⟩ := X0.callV hexec (IsL.law l x 0 z) hown (wks W (virtW "java/lang/String" 492 "java/lang/String" IsL.yN IsL.yN)) rfl (by decide) (wk W IsL.tab) (W := 0) (Nat.le_of_ble_eq_true rfl) (Nat.le_of_ble_eq_true rfl) (Nat.le_refl _) (Nat.le_refl _) (hx0.1.fc X0.warmed.alike) hx0.1.is (g := (mkF m 1 #[.val (.ref x), .val (.int (Int32.ofNat i))] [.ref x])) rfl (by rw [hml]; rfl) c1 (argsL := []) (rest := []) rfl rfl (by show 2 * 0 + 0 ≤ _; decide) (hb hbytes d1) (⟨rfl, hx0.2.2.1, hx.2.2.2.2.1.cd, s1.there X0.warmed.alike hh0, hz⟩)
  obtain ⟨rfl, q2⟩ := E2
  have hh2 := q2.trans hh0
  have hx2 := hx.mv X2.warmed.alike hh2
  obtain ⟨-, k1, k2⟩ | ⟨k0, -⟩ := hx.2.2.2.2.1
  · have c3 : Steps p.tables e below (s₁.setTop (entryFrame m #[.ref x, .int (Int32.ofNat i)] 2)) (T2.setTop (mkF m 8 #[.val (.ref x), .val (.int (Int32.ofNat i))] [.ref x])) := Steps.trans g2 (by
      refine XS.ifNo X2.here hexec rfl (hb hbytes d4) rfl (i0_eq_f (by decide)) ?_
      refine XS.aloadN X2.here hexec rfl (hb hbytes d7) rfl rfl ?_
      exact Steps.refl _)
    obtain ⟨T4, X4, q4, st4⟩ := X2.hget hexec hown (wk W (.fieldLink "java/lang/String" 9 "java/lang/String" "value" "[B")) hx2.2.1 (g := (mkF m 8 #[.val (.ref x), .val (.int (Int32.ofNat i))] [.ref x])) rfl (rest := []) rfl (hb hbytes d8)
    have hh4 := q4.trans hh2
    have c5 : Steps p.tables e below (s₁.setTop (entryFrame m #[.ref x, .int (Int32.ofNat i)] 2)) (T4.setTop (mkF m 12 #[.val (.ref x), .val (.int (Int32.ofNat i))] [.int (Int32.ofNat i), .ref t])) := (c3.trans (st4 _ (Steps.refl _))).trans (by
      refine XS.iloadN X4.here hexec rfl (hb hbytes d11) rfl ?_
      exact Steps.refl _)
    obtain ⟨v6, T6, X6, E6, g6⟩ := X4.callS hexec (LChA.law l t V i (lo8 (f i)) fm) hown (wks W (staticW "java/lang/String" 495 LChA.yN)) (wk W LChA.tab) (W := 0) (Nat.le_of_ble_eq_true rfl) (Nat.le_of_ble_eq_true rfl) (Nat.le_refl _) (Nat.le_refl _) (g := (mkF m 12 #[.val (.ref x), .val (.int (Int32.ofNat i))] [.int (Int32.ofNat i), .ref t])) rfl (by rw [hml]; rfl) c5 (argsL := [.ref t, .int (Int32.ofNat i)]) (rest := []) rfl rfl (by show 2 * 0 + 0 ≤ _; decide) (hb hbytes d12) (⟨rfl, hx.2.2.2.1.mv X4.warmed.alike hh4, (k2 i hi).1, s3.there X4.warmed.alike hh4, rf⟩)
    obtain ⟨rfl, q6⟩ := E6
    rw [chr8_lo8 hr.1 (k2 i hi).2] at g6
    exact ⟨T6, some (.int (f i)), _, _, _, X6, rfl, rfl, rfl, (fun h => by cases h), ⟨rfl, q6.trans hh4⟩, fun fs hl => Steps.trans g6 (X6.ireturnOut hexec hret (narrow_ch hr.1 hr.2) (Or.inr (Or.inr (Or.inr (Or.inl rfl)))) (hb hbytes d15) hl)⟩
  · exact absurd k0 (by decide)
theorem pays {l : Launch} {R : Room} {p : Program} {e : Env} {below : List Frame} {s : State} {sargs : Array Value} {len W : Nat} (x t : Addr) (V : Cell) (n : Nat) (f : Nat → Int32) (z : Int32) (fm : Value) (i : Nat) (htab : tab.before sargs s = true) (hfr : 4 ≤ R.frames) (hlo : W + 53 ≤ R.locals) :
    Back l R p e below s sargs yN len W (fun A₁ a₁ => A₁.cells + 0 ≤ R.cells ∧ A₁.slots + 0 ≤ R.slots ∧ P x t V n f z fm i a₁ A₁.U) (fun A₁ _ v₁ B₁ => E f i v₁ A₁.U B₁.U ∧ B₁.locs = A₁.locs ++ [] ∧ B₁.cells = A₁.cells + 0 ∧ B₁.slots = A₁.slots + 0) :=
  (law l x t V n f z fm i).pays htab hfr (by omega)
end ChN
end StrChars
namespace StrChars.Road
open Jvm Sem ClassFile Op Lib Jvm.Stand Jvm.Free Jvm.Free.XT
open Jvm.Lib.Cold (StaticIs)
/-- the words of String.charAt(int), the Latin-1 road alone -/
abbrev wordsChN : List Jvm.Cond := [.code ChN.yN ChN.yB 2 (some .char), .initialized ST, .fieldLink ST 9 ST "value" "[B", .fieldLink ST 38 ST "COMPACT_STRINGS" "Z", .fieldLink ST 15 ST "coder" "B", .code IsL.yN IsL.yB 1 (some .boolean), .methodLink ST 492 IsL.yN, .declares IsL.yN, .selects ST IsL.yN IsL.yN, .instanceMethod IsL.yN,
  .methodLink ST 495 LChA.yN, .static LChA.yN, .code LChA.yN LChA.yB 2 (some .char), .initialized "java/lang/StringLatin1", .methodLink "java/lang/StringLatin1" 9 JO.Str_checkIndex.yN, .static JO.Str_checkIndex.yN, .code JO.Str_checkIndex.yN JO.Str_checkIndex.yB 2 none,
  .fieldLink ST 1053 "jdk/internal/util/Preconditions" "SIOOBE_FORMATTER" "Ljava/util/function/BiFunction;", .methodLink ST 1059 JC.PreCheck.yN, .static JC.PreCheck.yN, .code JC.PreCheck.yN JC.PreCheck.yB 3 (some .int), .initialized "jdk/internal/util/Preconditions"]
theorem tabChN_of {a : Array Value} {s : State} (h : ∀ w ∈ wordsChN, w.before a s = true) : ChN.tab.before a s = true := by
  have hp : JC.PreCheck.tab.before a s = true := unparts (wk h (.code JC.PreCheck.yN JC.PreCheck.yB 3 (some .int))) (wks h (.initialized JC.PreCheck.yN.cls :: JC.PreCheck.site))
  have qk := consq hp h
  have hk : JO.Str_checkIndex.tab.before a s = true := unparts (wk qk (.code JO.Str_checkIndex.yN JO.Str_checkIndex.yB 2 none)) (wks qk (.initialized JO.Str_checkIndex.yN.cls :: JO.Str_checkIndex.site))
  have ql := consq hk h
  have hl : LChA.tab.before a s = true := unparts (wk ql (.code LChA.yN LChA.yB 2 (some .char))) (wks ql (.initialized LChA.yN.cls :: LChA.site))
  have hi : IsL.tab.before a s = true := unparts (wk h (.code IsL.yN IsL.yB 1 (some .boolean))) (wks h (.initialized IsL.yN.cls :: IsL.site))
  have q := consq hi (consq hl h)
  exact unparts (wk q (.code ChN.yN ChN.yB 2 (some .char))) (wks q (.initialized ChN.yN.cls :: ChN.site))
theorem movedChN {Z s : State} {a0 args : Array Value} (hZ : Z.Warmed39 s.vm) (hw : ∀ d ∈ wordsChN, d.before a0 Z = true) : ∀ d ∈ wordsChN, d.before args s = true := fun d hd => by
  have t : ∀ d ∈ wordsChN, (d.onTables && d.keepsFace) = true := by decide +kernel
  exact RoadKit.mv hZ (hw d hd) (t d hd)
/-- **charAt(i) OF A LATIN-1 STRING**, i < n: the char -/
theorem chN {p : Program} {l : Launch} {e : Env} {R : Room} {s : State} {args : Array Value} {below : List Frame} {len W : Nat} {Z : State} {a0 : Array Value} {h : Heap} (hZ : Z.Warmed39 s.vm) (hw : ∀ d ∈ wordsChN, d.before a0 Z = true) {kI : Nat} (wi : (Jvm.Cond.instantiable ST kI).before a0 Z = true)
    {x t : Addr} {kb : ClassId} {cs : List Int32} {N2 z : Int32} {vs : List Value} {fm : Value} {i : Nat} {j : Int32} (E : RoadKit.Exa Z h x ST) (V : RoadKit.Fld Z h x ST "value" "[B" (.ref t)) (C : RoadKit.Fld Z h x ST "coder" "B" (.int 0)) (K : RoadKit.Arv Z h t kb .byte N2 vs (.int 0)) (hc : CodA cs 0 N2 vs) (hb : ∀ c ∈ cs, ¬ c < 0 ∧ ¬ (65535 : Int32) < c)
    (S : RoadKit.Sta Z h ST "COMPACT_STRINGS" "Z" (.int z)) (hz : ¬ z = 0) (F : RoadKit.Sta Z h "jdk/internal/util/Preconditions" "SIOOBE_FORMATTER" "Ljava/util/function/BiFunction;" fm) (rf : fm.isRef = true) (l2 : cs.length ≤ 4000) (hi : i < cs.length) (hj : j = Int32.ofNat i) (hfr : 4 ≤ R.frames) (hlo : W + 53 ≤ R.locals) :
    Back l R p e below s args (⟨"java/lang/String", "charAt", "(I)C"⟩ : MethodName) len W (fun P a => a = #[.ref x, .int j] ∧ P.U.heap = h ∧ P.cells + 0 ≤ R.cells ∧ P.slots + 0 ≤ R.slots)
      (fun P _ v B => ∃ L, (v = some (.int (cs.getD i 0)) ∧ L = [] ∧ B.U.heap = h) ∧ B.locs = P.locs ++ L ∧ B.cells = P.cells + 0 ∧ B.slots = P.slots + 0) := by
  subst hj
  intro m meth c P g ig mk a X hg hsize hdg hW hn hp'
  obtain ⟨rfl, rfl, r1, r2⟩ := hp'
  have al : Z.vm.Alike P.U.vm := hZ.alike.trans X.warmed.alike
  obtain ⟨A, hx⟩ := txt_of wi al E V C K hc hb l2
  obtain ⟨v, B, X', ⟨⟨hv, hh⟩, hl, hk, hs⟩, st⟩ := ChN.pays x t A cs.length (fun j => cs.getD j 0) z fm i (tabChN_of (movedChN hZ hw)) hfr hlo m meth c P g ig mk _ X hg hsize hdg hW hn ⟨r1, r2, rfl, hx, hi, sta_is al S, hz, sta_is al F, rf⟩
  exact ⟨v, B, X', ⟨[], ⟨hv, rfl, hh⟩, hl, hk, hs⟩, st⟩
/-- what backV says of its String, as the contracts of this text ask it: cs's low bytes, coder 0 -/
theorem codOf {cs : List Int32} {n : Nat} (hn : cs.length = n) (hb : ∀ c ∈ cs, ¬ 255 < c) : CodA cs 0 (Int32.ofNat n) ((cs.map lo8).map Value.int) := Or.inl ⟨rfl, by rw [hn], by simp [List.map_map, Function.comp_def], hb⟩
end StrChars.Road
end Jvm.Pilot.@@N@@

namespace Jvm.Pilot.@@N@@
open Jvm Jvm.ClassFile Sem Op Lib Jvm.Free Jvm.Stand Jvm.LawKit Jvm.RoadKit Bundle Jvm.Pilot.@@N@@.Jvm.D
section Own
variable {p : Program} {l : Launch} {e : Env} {R : Room} {s : State} {m : MethodId} {args : Array Value} {below : List Frame} {meth : Method} {c : Code} {T : State} {locs : List Loc} {cells slots : Nat}
/-- from t on the body comes to an end, with at most C cells and S slots made, and Q says of it -/
def own_Comes (p : Program) (e : Env) (below : List Frame) (s : State) (C S : Nat) (Q : Option Value → Heap → List Loc → Prop) (t : State) : Prop :=
  ∃ (U : State) (o : Outcome), Steps p.tables e below t U ∧ U.status = .running ∧ Ended U below o ∧ ∃ v L, o = .returned v ∧ Q v U.heap L ∧ FrameEnd s o U L C S
theorem own_by {C S : Nat} {Q : Option Value → Heap → List Loc → Prop} {t t' : State} (st : ∀ target, Steps p.tables e below t' target → Steps p.tables e below t target) (h : own_Comes p e below s C S Q t') : own_Comes p e below s C S Q t := by
  obtain ⟨U, o, h1, h2⟩ := h
  exact ⟨U, o, st _ h1, h2⟩
theorem own_tr {C S : Nat} {Q : Option Value → Heap → List Loc → Prop} {t t' : State} (st : Steps p.tables e below t t') (h : own_Comes p e below s C S Q t') : own_Comes p e below s C S Q t := by
  obtain ⟨U, o, h1, h2⟩ := h
  exact ⟨U, o, st.trans h1, h2⟩
theorem own_ret (X : Stand p l e R s m args below meth c T locs cells slots) {C S : Nat} {Q : Option Value → Heap → List Loc → Prop} {v : Option Value} {t : State} (hv : meth.sig.returnType = none → v = none) (hlk : meth.locks = false) (hC : cells ≤ C) (hS : slots ≤ S) (hQ : Q v T.heap locs)
    (st : ∀ fs, (∀ (f : JFrame) (acts : List Action), f.method = m → f.locked = none → f.entered = [] → (doReturn e (T.setTop f) acts v).1 = T.setFrames fs) → Steps p.tables e below t (T.setFrames fs)) : own_Comes p e below s C S Q t := by
  obtain ⟨fs, hr, hrun, hended, hW, hsame⟩ := X.leave (v := v) hv hlk
  exact ⟨_, _, st fs hr, hrun, hended, v, locs, rfl, hQ, ⟨_, rfl⟩, hW, hsame.mono hC hS⟩
theorem retI (X : Stand p l e R s m args below meth c T locs cells slots) (hx : p.tables.exec = Jvm.exec) {pc : Nat} {Ls : Array Slot} {z : Int32} {rest : List Value} (hret : meth.sig.returnType = some .int) (hd : decode c.code pc = .ok (.ireturn, 1)) {fs : List Frame}
    (hl : ∀ (f : JFrame) (acts : List Action), f.method = m → f.locked = none → f.entered = [] → (doReturn e (T.setTop f) acts (some (.int z))).1 = T.setFrames fs) : Steps p.tables e below (T.setTop (mkF m pc Ls (.int z :: rest))) (T.setFrames fs) := by
  have hm' : T.vm.method? m = some meth := X.method'
  have hn : narrow .int (.int z) = .int z := rfl
  show Steps p.tables e below (T.setTop { method := m, pc := pc, locals := Ls, stack := _ :: rest, locked := none }) _
  jvm_step X.here [X.here.top, hx, hd, hm', hret, hn]
  first | (intro acts; rw [hl _ acts rfl rfl rfl]) | rw [hl _ _ rfl rfl rfl]
  exact Steps.refl _
theorem own_reta (X : Stand p l e R s m args below meth c T locs cells slots) (hx : p.tables.exec = Jvm.exec) {pc : Nat} {Ls : Array Slot} {w : Value} {t : FieldType} {rest : List Value} (hret : meth.sig.returnType = some t) (ht : t.isReference = true) (hw : w.isRef = true) (hd : decode c.code pc = .ok (.areturn, 1)) {fs : List Frame}
    (hl : ∀ (f : JFrame) (acts : List Action), f.method = m → f.locked = none → f.entered = [] → (doReturn e (T.setTop f) acts (some w)).1 = T.setFrames fs) : Steps p.tables e below (T.setTop (mkF m pc Ls (w :: rest))) (T.setFrames fs) := by
  have hm' : T.vm.method? m = some meth := X.method'
  have hn : narrow t w = w := by cases t <;> first | (cases ht; done) | (cases w <;> rfl)
  rcases ref_cases hw with rfl | ⟨z, rfl⟩
  all_goals
    show Steps p.tables e below (T.setTop { method := m, pc := pc, locals := Ls, stack := _ :: rest, locked := none }) _
    jvm_step X.here [X.here.top, hx, hd, hm', hret, hn, Value.isRef]
    try (refine ⟨ht, ?_⟩)
    first | (intro acts; rw [hl _ acts rfl rfl rfl]) | rw [hl _ _ rfl rfl rfl]
    exact Steps.refl _
/-- what is kept with nothing old written is only added to -/
theorem own_ext {h h' : Heap} (K : Keep h h' []) : Ext h h' := ⟨K.1, fun x c q => K.2.1 x c q nin0⟩
/-- the same, where String constants may have been loaded -/
def own_ComesW (p : Program) (e : Env) (below : List Frame) (s : State) (C S : Nat) (Q : Option Value → Heap → List Loc → Prop) (t : State) : Prop :=
  ∃ (U : State) (o : Outcome), Steps p.tables e below t U ∧ U.status = .running ∧ Ended U below o ∧ ∃ v L, o = .returned v ∧ Q v U.heap L ∧ ReturnedEndW s o U L C S
theorem own_byW {C S : Nat} {Q : Option Value → Heap → List Loc → Prop} {t t' : State} (st : ∀ target, Steps p.tables e below t' target → Steps p.tables e below t target) (h : own_ComesW p e below s C S Q t') : own_ComesW p e below s C S Q t := by
  obtain ⟨U, o, h1, h2⟩ := h
  exact ⟨U, o, st _ h1, h2⟩
theorem own_trW {C S : Nat} {Q : Option Value → Heap → List Loc → Prop} {t t' : State} (st : Steps p.tables e below t t') (h : own_ComesW p e below s C S Q t') : own_ComesW p e below s C S Q t := by
  obtain ⟨U, o, h1, h2⟩ := h
  exact ⟨U, o, st.trans h1, h2⟩
theorem own_retW {vm1 : Vm} (X : Stand p l e R (s.setVm vm1) m args below meth c T locs cells slots) {k : Nat} (hS : s.Since vm1 k) (hk : k ≤ T.heap.size) {C S : Nat} {Q : Option Value → Heap → List Loc → Prop} {v : Option Value} {t : State} (hv : meth.sig.returnType = none → v = none) (hlk : meth.locks = false) (hC : cells ≤ C) (hSl : slots ≤ S) (hQ : Q v T.heap locs)
    (st : ∀ fs, (∀ (f : JFrame) (acts : List Action), f.method = m → f.locked = none → f.entered = [] → (doReturn e (T.setTop f) acts v).1 = T.setFrames fs) → Steps p.tables e below t (T.setFrames fs)) : own_ComesW p e below s C S Q t := by
  obtain ⟨fs, hr, hrun, hended, hE⟩ := X.leaveW hS hk (v := v) hv hlk
  exact ⟨_, _, st fs hr, hrun, hended, v, locs, rfl, hQ, hE.1, hE.2.1, hE.2.2.1, hE.2.2.2.mono hC hSl⟩
end Own
def own_EL : List (String × Nat) := [("com/example/mixed_margins/mixedmargins/model/TimeUnitOfSymbolPinLaw", 43), ("java/lang/String", 7)]
section OwnH
variable {p : Program} {l : Launch} {e : Env} {R : Room} {s : State} {m : MethodId} {args : Array Value} {below : List Frame} {meth : Method} {c : Code} {T : State} {locs : List Loc} {cells slots : Nat} {Z : State} {a0 : Array Value}
theorem own_EW (hw : ∀ d ∈ tables_1, d.before a0 Z = true) : EW Z a0 own_EL := (EW.cons (hw _ (List.mem_of_getElem? (i := 84) rfl)) (by decide) (EW.cons (hw _ (List.mem_of_getElem? (i := 18) rfl)) (by decide) EW.nil))
/-- the same, where String constants may have been loaded and those of own_EL are read -/
def own_ComesH (Z : State) (p : Program) (e : Env) (below : List Frame) (s : State) (C S : Nat) (Q : Option Value → Heap → List Loc → Prop) (t : State) : Prop :=
  ∃ (U : State) (o : Outcome), Steps p.tables e below t U ∧ U.status = .running ∧ Ended U below o ∧ ∃ v L, o = .returned v ∧ Q v U.heap L ∧ CHr Z own_EL s.vm s.heap U.vm U.heap ∧ ReturnedEndW s o U L C S
theorem own_byH {C S : Nat} {Q : Option Value → Heap → List Loc → Prop} {t t' : State} (st : ∀ target, Steps p.tables e below t' target → Steps p.tables e below t target) (h : own_ComesH Z p e below s C S Q t') : own_ComesH Z p e below s C S Q t := by
  obtain ⟨U, o, h1, h2⟩ := h
  exact ⟨U, o, st _ h1, h2⟩
theorem own_trH {C S : Nat} {Q : Option Value → Heap → List Loc → Prop} {t t' : State} (st : Steps p.tables e below t t') (h : own_ComesH Z p e below s C S Q t') : own_ComesH Z p e below s C S Q t := by
  obtain ⟨U, o, h1, h2⟩ := h
  exact ⟨U, o, st.trans h1, h2⟩
theorem own_retH {vm1 : Vm} (X : Stand p l e R (s.setVm vm1) m args below meth c T locs cells slots) {k : Nat} (hS : s.Since vm1 k) (hk : k ≤ T.heap.size) (hcr : CHr Z own_EL s.vm s.heap T.vm T.heap) {C S : Nat} {Q : Option Value → Heap → List Loc → Prop} {v : Option Value} {t : State} (hv : meth.sig.returnType = none → v = none) (hlk : meth.locks = false) (hC : cells ≤ C) (hSl : slots ≤ S) (hQ : Q v T.heap locs)
    (st : ∀ fs, (∀ (f : JFrame) (acts : List Action), f.method = m → f.locked = none → f.entered = [] → (doReturn e (T.setTop f) acts v).1 = T.setFrames fs) → Steps p.tables e below t (T.setFrames fs)) : own_ComesH Z p e below s C S Q t := by
  obtain ⟨fs, hr, hrun, hended, hE⟩ := X.leaveW hS hk (v := v) hv hlk
  exact ⟨_, _, st fs hr, hrun, hended, v, locs, rfl, hQ, hcr, hE.1, hE.2.1, hE.2.2.1, hE.2.2.2.mono hC hSl⟩
theorem own_nullsafe {EL : List (String × Nat)} {vm : Vm} {h : Heap} {x : Addr} (hal : Z.vm.Alike vm) (E : Exa Z h x "java/lang/String") (F : Fld Z h x "java/lang/String" "value" "[B" .null) : Safe Z EL vm h x := fun B => by
  obtain ⟨cell, k, e1, e2, e3, -, -⟩ := E
  obtain ⟨cell', cf, kf, i, f, f1, f2, f3, f4, f5, f6, f7⟩ := F
  cases e1.symm.trans f1
  have nm : ∀ {n : String} {c : ClassId}, vm.findClass n = some c → c = cell.cls → n = "java/lang/String" := fun {n c} f e => by
    subst e
    rw [hal.findClass] at f
    obtain ⟨k1, q1, q2⟩ := Vm.findClass_spec f
    obtain ⟨k2, q3, q4⟩ := Vm.findClass_spec e2
    cases q1.symm.trans q3
    exact q2.symm.trans q4
  obtain ⟨p, -, u, a, -, q, -, G, rfl | rfl⟩ := B
  · cases (show h[q.sa]? = some q.sC from G.ha).symm.trans e1
    obtain ⟨cS, ⟨⟨s1, s2, s3, ⟨cv, kv, iv, s4, s4'⟩, s5, s6, s7, s8, s9⟩, -, -⟩, -⟩ := G
    obtain ⟨kv', z4⟩ := ff_back (U := Wst Z vm h) hal s4
    cases f2.symm.trans z4
    cases s8.symm.trans f7
  · cases (show h[q.sd]? = some q.SA from G.hd).symm.trans e1
    obtain ⟨cS, -, -, g, -⟩ := G
    exact absurd (nm g rfl) (by decide)
end OwnH
def own_Str (Z : State) (h : Heap) (x : Addr) (cs : List Int32) : Prop :=
  Exa Z h x "java/lang/String" ∧ ∃ (t : Addr) (kb : ClassId) (N2 : Int32) (vs : List Value), Fld Z h x "java/lang/String" "value" "[B" (.ref t) ∧ Fld Z h x "java/lang/String" "coder" "B" (.int 0) ∧ Arv Z h t kb .byte N2 vs (.int 0) ∧ StrChars.Road.CodA cs 0 N2 vs ∧ (∀ c ∈ cs, ¬ c < 0 ∧ ¬ (65535 : Int32) < c) ∧ cs.length ≤ 4000
theorem own_Str.ext {Z : State} {h h' : Heap} {x : Addr} {cs : List Int32} (A : own_Str Z h x cs) (E : Ext h h') : own_Str Z h' x cs := by
  obtain ⟨a1, t, kb, N2, vs, a2, a3, a4, a5⟩ := A
  exact ⟨a1.ext E, t, kb, N2, vs, a2.ext E, a3.ext E, a4.ext E, a5⟩
def own_unit (cs : List Int32) (u0 u1 u2 u3 : Addr) : Value :=
  if [(115 : Int32)] = cs then .ref u0 else if [(109 : Int32), 115] = cs then .ref u1 else if [(117 : Int32), 115] = cs then .ref u2 else if [(110 : Int32), 115] = cs then .ref u3 else .null
theorem own_up {c : Int32} (h : ¬ c < 0 ∧ ¬ (255 : Int32) < c) : ¬ c < 0 ∧ ¬ (65535 : Int32) < c := by
  have e0 : (0 : Int32).toInt = 0 := by decide
  have e : (255 : Int32).toInt = 255 := by decide
  have e' : (65535 : Int32).toInt = 65535 := by decide
  rw [Int32.lt_iff_toInt_lt, Int32.lt_iff_toInt_lt] at h ⊢; omega
theorem own_and255 (x : Int32) : ¬ ((x &&& (255 : Int32)).toUInt32.toUInt16.toUInt32.toInt32) < 0 ∧ ¬ (255 : Int32) < ((x &&& (255 : Int32)).toUInt32.toUInt16.toUInt32.toInt32) := by
  rw [i2c_mask]
  have e : (255 : Int32).toInt = 255 := by decide
  have h := c_and x (255 : Int32) (by rw [e]; decide)
  rw [e] at h
  have e0 : (0 : Int32).toInt = 0 := by decide
  rw [Int32.lt_iff_toInt_lt, Int32.lt_iff_toInt_lt]; omega
theorem own_narc {x : Int32} (h : ¬ x < 0 ∧ ¬ (255 : Int32) < x) : nar .char x = x := by
  show x.toUInt32.toUInt16.toUInt32.toInt32 = x
  have e0 : (0 : Int32).toInt = 0 := by decide
  have e : (255 : Int32).toInt = 255 := by decide
  have q := c_i2c x
  rw [Int32.lt_iff_toInt_lt, Int32.lt_iff_toInt_lt] at h
  apply Int32.toInt_inj.mp; omega
theorem own_narr {x : Int32} (h : ¬ x < 0 ∧ ¬ (255 : Int32) < x) : ¬ nar .char x < 0 ∧ ¬ (255 : Int32) < nar .char x := by rw [own_narc h]; exact h
theorem own_i3 (x : Int32) : (x &&& (3 : Int32)).toNatClampNeg < 4 ∧ (x &&& (3 : Int32)) = Int32.ofNat (x &&& (3 : Int32)).toNatClampNeg := by
  have e : (3 : Int32).toInt = 3 := by decide
  have h := c_and x (3 : Int32) (by rw [e]; decide)
  rw [e] at h
  have h1 : (x &&& (3 : Int32)).toNatClampNeg < 4 := by simp only [Int32.toNatClampNeg]; omega
  refine ⟨h1, ?_⟩
  apply Int32.toInt_inj.mp
  rw [Int32.toInt_ofNat_of_lt (by omega)]
  simp only [Int32.toNatClampNeg]; omega
theorem own_c4 : ∀ i, i < 4 → ¬ (([115, 109, 117, 110] : List Int32).getD i 0) < 0 ∧ ¬ (255 : Int32) < (([115, 109, 117, 110] : List Int32).getD i 0) := by decide
theorem own_u0 (u0 u1 u2 u3 : Addr) : own_unit [] u0 u1 u2 u3 = .null := by simp [own_unit]
theorem own_u1y {c : Int32} (u0 u1 u2 u3 : Addr) (h : c = 115) : own_unit [c] u0 u1 u2 u3 = .ref u0 := by simp [own_unit, h]
theorem own_u1n {c : Int32} (u0 u1 u2 u3 : Addr) (h : ¬ c = 115) : own_unit [c] u0 u1 u2 u3 = .null := by simp [own_unit, Ne.symm h]
theorem own_u2n {c d : Int32} (u0 u1 u2 u3 : Addr) (h : ¬ d = 115) : own_unit [c, d] u0 u1 u2 u3 = .null := by simp [own_unit, Ne.symm h]
theorem own_u21 {c d : Int32} (u0 u1 u2 u3 : Addr) (h : d = 115) (k : c = 109) : own_unit [c, d] u0 u1 u2 u3 = .ref u1 := by subst h k; simp [own_unit]
theorem own_u22 {c d : Int32} (u0 u1 u2 u3 : Addr) (h : d = 115) (k : c = 117) : own_unit [c, d] u0 u1 u2 u3 = .ref u2 := by subst h k; simp [own_unit]
theorem own_u23 {c d : Int32} (u0 u1 u2 u3 : Addr) (h : d = 115) (k : c = 110) : own_unit [c, d] u0 u1 u2 u3 = .ref u3 := by subst h k; simp [own_unit]
theorem own_u24 {c d : Int32} (u0 u1 u2 u3 : Addr) (h1 : ¬ c = 109) (h2 : ¬ c = 117) (h3 : ¬ c = 110) : own_unit [c, d] u0 u1 u2 u3 = .null := by simp [own_unit, Ne.symm h1, Ne.symm h2, Ne.symm h3]
theorem own_u3 {c d f : Int32} (u0 u1 u2 u3 : Addr) : own_unit [c, d, f] u0 u1 u2 u3 = .null := by simp [own_unit]

def Q1 (Z : State) (h0 : Heap) (n0 : Nat) (v : Option Value) (h : Heap) (L : List Loc) : Prop := ∃ z : Int32, v = some (.int z) ∧ Fr n0 L ∧ Ext h0 h ∧ ¬ z < 0 ∧ ¬ (255 : Int32) < z
theorem ef_rm1 (m : MethodId) (x0 : Int32) : entryFrame m #[(.int x0)] 1 = mkF m 0 #[.val (.int x0)] [] := by first | (simp [entryFrame, mkF, argsToLocals, Value.category]; done) | rfl
theorem pn_com_example_mixed_margins_mixedmargins_model_TimeUnitOfSymbolPinLaw : plainName "com/example/mixed_margins/mixedmargins/model/TimeUnitOfSymbolPinLaw" = true := by first | (simp [plainName, overriddenIn]; done) | decide +kernel
theorem d1_0 : decode method_3_code 0 = .ok (.iload_n 0, 1) := by decide +kernel
theorem d1_1 : decode method_3_code 1 = .ok (.sipush 256, 3) := by decide +kernel
theorem d1_4 : decode method_3_code 4 = .ok (.iand, 1) := by decide +kernel
theorem d1_5 : decode method_3_code 5 = .ok (.ifCond .eq 12, 3) := by decide +kernel
theorem d1_17 : decode method_3_code 17 = .ok (.iload_n 0, 1) := by decide +kernel
theorem d1_18 : decode method_3_code 18 = .ok (.sipush 255, 3) := by decide +kernel
theorem d1_21 : decode method_3_code 21 = .ok (.iand, 1) := by decide +kernel
theorem d1_22 : decode method_3_code 22 = .ok (.i2c, 1) := by decide +kernel
theorem d1_23 : decode method_3_code 23 = .ok (.ireturn, 1) := by decide +kernel
theorem d1_8 : decode method_3_code 8 = .ok (.ldc 43, 2) := by decide +kernel
theorem d1_10 : decode method_3_code 10 = .ok (.iload_n 0, 1) := by decide +kernel
theorem d1_11 : decode method_3_code 11 = .ok (.iconst 3, 1) := by decide +kernel
theorem d1_12 : decode method_3_code 12 = .ok (.iand, 1) := by decide +kernel
theorem pd__I_C_221 : parseMethodDescriptor "(I)C" = some ⟨[.int], some .char⟩ := by decide +kernel
theorem d1_13 : decode method_3_code 13 = .ok (.invokevirtual 45, 3) := by decide +kernel
theorem d1_16 : decode method_3_code 16 = .ok (.ireturn, 1) := by decide +kernel
set_option maxRecDepth 65536 in
set_option maxHeartbeats 40000000 in
theorem rm1 (l : Launch) (Z : State) (a0 : Array Value) (hw : ∀ d ∈ tables_1, d.before a0 Z = true) (ws : List Jvm.Cond) (p0 zc : Int32) (fm : Value) (h0 : Heap) (n0 : Nat) (Z0 : n0 ≤ h0.size) (O0 : Old Z n0 h0) (Sz : Sta Z Z.heap "java/lang/String" "COMPACT_STRINGS" "Z" (.int zc)) (hzc : ¬ zc = 0) (Sf : Sta Z Z.heap "jdk/internal/util/Preconditions" "SIOOBE_FORMATTER" "Ljava/util/function/BiFunction;" fm) (rf : fm.isRef = true) :
    MetFree l (⟨"com/example/mixed_margins/mixedmargins/model/TimeUnitOfSymbolPinLaw", "pick", "(I)C"⟩ : MethodName) (head1 (Jvm.Cond.code (⟨"com/example/mixed_margins/mixedmargins/model/TimeUnitOfSymbolPinLaw", "pick", "(I)C"⟩ : MethodName) method_3_code 1 (some .char) :: ws) ({ frames := 4, cells := 2, slots := 20, locals := 53 } : Room)) (fun aX UX => aX = #[(.int p0)] ∧ Z.Warmed39 UX.vm ∧ UX.heap = h0 ∧ CHv Z own_EL UX.vm h0) (fun _ _ _ _ _ => True) (fun _ UX oX UX' => ∃ vX LX, oX = .returned vX ∧ Q1 Z  h0 n0 vX UX'.heap LX ∧ CHr Z own_EL UX.vm UX.heap UX'.vm UX'.heap ∧ ReturnedEndW UX oX UX' LX ({ frames := 4, cells := 2, slots := 20, locals := 53 } : Room).cells ({ frames := 4, cells := 2, slots := 20, locals := 53 } : Room).slots) := by
  refine MetFree.of_bodySF (plainFor_of_name pn_com_example_mixed_margins_mixedmargins_model_TimeUnitOfSymbolPinLaw) hisR ?_
  intro p e s m args below meth c s₁ Bd hml0 hP hK
  obtain ⟨rfl, hZ, hh, hCH0⟩ := hP
  have hx := Bd.exec
  have hby := Bd.bytes
  have hml : c.maxLocals = 1 := hml0
  have hown : s.vm.findClass "com/example/mixed_margins/mixedmargins/model/TimeUnitOfSymbolPinLaw" = some m.cls := findClass_of_methodNamed Bd.named
  have hnm := (name_of_methodNamed Bd.named Bd.method).1
  have X0 : Stand p l e ({ frames := 4, cells := 2, slots := 20, locals := 53 } : Room) (s.setVm s.vm) m #[(.int p0)] below meth c s₁ [] 0 0 := Stand.of_body Bd
  have hS : s.Since s.vm 0 := (State.WarmedH.refl s).since 0
  have hk : 0 ≤ h0.size := Nat.zero_le _
  have hZ : Z.Warmed39 (s.setVm s.vm).vm := hZ
  have hown : (s.setVm s.vm).vm.findClass "com/example/mixed_margins/mixedmargins/model/TimeUnitOfSymbolPinLaw" = some m.cls := hown
  have hEL := own_EW hw
  have CH : CHr Z own_EL (s.setVm s.vm).vm h0 (s.setVm s.vm).vm h0 := CHr.refl hCH0
  have e0 : s₁.heap = h0 := by rw [← hh, Bd.state]; rfl
  have N0 := Fr.nil n0
  show own_ComesH Z p e below s ({ frames := 4, cells := 2, slots := 20, locals := 53 } : Room).cells ({ frames := 4, cells := 2, slots := 20, locals := 53 } : Room).slots (Q1 Z  h0 n0) _
  rw [show entryFrame m #[(.int p0)] 1 = mkF m 0 #[.val (.int p0)] [] from ef_rm1 m p0]
  show own_ComesH Z p e below s _ _ _ (s₁.setTop (mkF m 0 #[.val (.int p0)] []))
  refine own_byH (fun _ kS => XS.iloadN X0.here hx rfl (hb hby d1_0) rfl kS) ?_
  show own_ComesH Z p e below s _ _ _ (s₁.setTop (mkF m 1 #[.val (.int p0)] [(.int p0)]))
  refine own_byH (fun _ kS => XS.sipush X0.here hx rfl (hb hby d1_1) kS) ?_
  show own_ComesH Z p e below s _ _ _ (s₁.setTop (mkF m 4 #[.val (.int p0)] [(.int (256 : Int32)), (.int p0)]))
  refine own_byH (fun _ kS => XS.iand X0.here hx rfl (hb hby d1_4) rfl kS) ?_
  show own_ComesH Z p e below s _ _ _ (s₁.setTop (mkF m 5 #[.val (.int p0)] [(.int (p0 &&& (256 : Int32)))]))
  by_cases hq : (p0 &&& (256 : Int32)) = (0 : Int32)
  · refine own_byH (fun _ kS => XS.ifYes X0.here hx rfl (pc0 := 5) (pc' := 17) rfl (hb hby d1_5) rfl ((if0 _ _).trans (teq hq).1) (by decide) (by decide) kS) ?_
    show own_ComesH Z p e below s _ _ _ (s₁.setTop (mkF m 17 #[.val (.int p0)] []))
    refine own_byH (fun _ kS => XS.iloadN X0.here hx rfl (hb hby d1_17) rfl kS) ?_
    show own_ComesH Z p e below s _ _ _ (s₁.setTop (mkF m 18 #[.val (.int p0)] [(.int p0)]))
    refine own_byH (fun _ kS => XS.sipush X0.here hx rfl (hb hby d1_18) kS) ?_
    show own_ComesH Z p e below s _ _ _ (s₁.setTop (mkF m 21 #[.val (.int p0)] [(.int (255 : Int32)), (.int p0)]))
    refine own_byH (fun _ kS => XS.iand X0.here hx rfl (hb hby d1_21) rfl kS) ?_
    show own_ComesH Z p e below s _ _ _ (s₁.setTop (mkF m 22 #[.val (.int p0)] [(.int (p0 &&& (255 : Int32)))]))
    refine own_byH (fun _ kS => XS.i2c X0.here hx rfl (hb hby d1_22) rfl kS) ?_
    show own_ComesH Z p e below s _ _ _ (s₁.setTop (mkF m 23 #[.val (.int p0)] [(.int ((p0 &&& (255 : Int32)).toUInt32.toUInt16.toUInt32.toInt32))]))
    have hkr1 := hk
    have hcr1 := CH.trans (CHv.at X0 hZ hEL CH.1)
    refine own_retH X0 hS (by rw [e0]; exact hkr1) (by rw [hh]; rw [e0]; exact hcr1) (v := some (.int (nar .char ((p0 &&& (255 : Int32)).toUInt32.toUInt16.toUInt32.toInt32)))) (fun h => by rw [Bd.returns] at h; cases h) Bd.notSynchronized (by decide) (by decide) ?_ (fun fs hr => retN X0 hx (t := .char) Bd.returns (by simp) (hb hby d1_23) hr)
    rw [e0]; exact ⟨_, rfl, N0, (own_ext (Keep.refl _ [])), (own_narr (own_and255 p0)).1, (own_narr (own_and255 p0)).2⟩
  · refine own_byH (fun _ kS => XS.ifNo X0.here hx rfl (hb hby d1_5) rfl ((if0 _ _).trans (feq hq).1) kS) ?_
    show own_ComesH Z p e below s _ _ _ (s₁.setTop (mkF m 8 #[.val (.int p0)] []))
    have wS : ∀ a ∈ Bundle.stringAtoms, a.before a0 Z = true := fun d hd => hw d ((by decide +kernel : ∀ d ∈ Bundle.stringAtoms, d ∈ tables_1) d hd)
    obtain ⟨a2, T2, h2, k2, b2, kb2, X2, e2, E2, hS2, hk2, hZ2, hown2, Ea2, Fc2, Fv2, Vb2, la2, lb2, CQ2, Li2, ne2, st2⟩ := ldcCH X0 hx hZ hown (hw _ (List.mem_of_getElem? (i := 84) rfl)) wS e0 hS hk hEL (List.mem_of_getElem? (i := 0) rfl) CH.1 (vs := [(.int (115 : Int32)), (.int (109 : Int32)), (.int (117 : Int32)), (.int (110 : Int32))]) (z := (4 : Int32)) ⟨by decide, rfl⟩ (by decide) rfl (g := (mkF m 8 #[.val (.int p0)] [])) rfl (hb hby d1_8) (n := 16) (by decide) (by decide) (by decide) (by decide)
    refine own_byH st2 ?_
    have CR3 := CQ2
    have CH3 := CH.trans CR3
    show own_ComesH Z p e below s _ _ _ (T2.setTop (mkF m 10 #[.val (.int p0)] [(.ref a2)]))
    refine own_byH (fun _ kS => XS.iloadN X2.here hx rfl (hb hby d1_10) rfl kS) ?_
    show own_ComesH Z p e below s _ _ _ (T2.setTop (mkF m 11 #[.val (.int p0)] [(.int p0), (.ref a2)]))
    refine own_byH (fun _ kS => XS.iconst X2.here hx rfl (hb hby d1_11) kS) ?_
    show own_ComesH Z p e below s _ _ _ (T2.setTop (mkF m 12 #[.val (.int p0)] [(.int (3 : Int32)), (.int p0), (.ref a2)]))
    refine own_byH (fun _ kS => XS.iand X2.here hx rfl (hb hby d1_12) rfl kS) ?_
    show own_ComesH Z p e below s _ _ _ (T2.setTop (mkF m 13 #[.val (.int p0)] [(.int (p0 &&& (3 : Int32))), (.ref a2)]))
    have hws : ∀ d ∈ StrChars.Road.wordsChN, d.before a0 Z = true := fun d hd => hw d ((by decide +kernel : ∀ d ∈ StrChars.Road.wordsChN, d ∈ tables_1) d hd)
    obtain ⟨cq4, kq4, q4a, q4b, q4c⟩ := isOf hZ2 e2 Ea2
    obtain ⟨vv4, _, ⟨T4, L4, k4, n4⟩, -, X4, ⟨Lc4, hQ4, l4, y4, z4⟩, st4⟩ := X2.virtualBack hx (y := (⟨"java/lang/String", "charAt", "(I)C"⟩ : MethodName)) (z := (⟨"java/lang/String", "charAt", "(I)C"⟩ : MethodName)) hown2 (mvT hZ2 (hw _ (List.mem_of_getElem? (i := 85) rfl))) (mvT hZ2 (hw _ (List.mem_of_getElem? (i := 86) rfl))) (notFace_of_selects (args := #[]) (mvT hZ2 (hw _ (List.mem_of_getElem? (i := 88) rfl)))) (mvT hZ2 (hw _ (List.mem_of_getElem? (i := 88) rfl))) (mvT hZ2 (hw _ (List.mem_of_getElem? (i := 87) rfl))) (by decide) (StrChars.Road.chN (W := 0) hZ2 hws (kI := 4) (hw _ (List.mem_of_getElem? (i := 5) rfl)) (cs := [115, 109, 117, 110]) (i := (p0 &&& (3 : Int32)).toNatClampNeg) Ea2 Fv2 Fc2 Vb2 (Or.inl ⟨rfl, rfl, rfl, by decide⟩) (by decide) (Sz.ext (O0.ext E2).2) hzc (Sf.ext (O0.ext E2).2) rf (by decide) (own_i3 p0).1 (own_i3 p0).2 (by decide) (by decide)) q4a q4c (g := (mkF m 13 #[.val (.int p0)] [(.int (p0 &&& (3 : Int32))), (.ref a2)])) rfl (by rw [hml]; rfl) (Steps.refl _) (argsL := [(.int (p0 &&& (3 : Int32)))]) (rest := []) (lenOf pd__I_C_221 rfl) rfl (by show 2 * 0 + _ ≤ _; exact Nat.le_of_eq rfl) (hb hby d1_13) (fun _ _ => ⟨rfl, e2, (by decide : 2 + 0 ≤ _), (by decide : 20 + 0 ≤ _)⟩)
    dsimp only [Pt.U, Pt.locs, Pt.cells, Pt.slots] at X4 l4 y4 z4 st4 hQ4
    subst l4 y4 z4
    obtain ⟨rfl, rfl, e4q⟩ := hQ4
    have N4q := Fr.nil n0
    have N4 := Fr.app N0 N4q
    refine own_trH st4 ?_
    have e4 : T4.heap = h2 := e4q
    show own_ComesH Z p e below s _ _ _ (T4.setTop (mkF m 16 #[.val (.int p0)] [(.int (([115, 109, 117, 110] : List Int32).getD (p0 &&& (3 : Int32)).toNatClampNeg 0))]))
    have hr4 := own_narr (own_c4 _ (own_i3 p0).1)
    have hkr5 := hk2
    have hcr5 := CH3.trans (CHv.at X4 hZ2 hEL CH3.1)
    refine own_retH X4 hS2 (by rw [e4]; exact hkr5) (by rw [hh]; rw [e4]; exact hcr5) (v := some (.int (nar .char (([115, 109, 117, 110] : List Int32).getD (p0 &&& (3 : Int32)).toNatClampNeg 0)))) (fun h => by rw [Bd.returns] at h; cases h) Bd.notSynchronized (by decide) (by decide) ?_ (fun fs hr => retN X4 hx (t := .char) Bd.returns (by simp) (hb hby d1_16) hr)
    rw [e4]; exact ⟨_, rfl, N4, (own_ext ((Keep.refl _ []).ext E2)), hr4.1, hr4.2⟩
def Q3 (Z : State) (r0 : Addr) (h0 : Heap) (n0 : Nat) (v : Option Value) (h : Heap) (L : List Loc) : Prop := v = none ∧ Fr n0 L ∧ Keep h0 h [r0] ∧ own_Str Z h r0 []
theorem ef_rm3 (m : MethodId) (x0 : Addr) (x1 : Addr) (x2 : Int32) (x3 : Int32) : entryFrame m #[(.ref x0), (.ref x1), (.int x2), (.int x3), .null] 6 = mkF m 0 #[.val (.ref x0), .val (.ref x1), .val (.int x2), .val (.int x3), .val .null, .unset] [] := by first | (simp [entryFrame, mkF, argsToLocals, Value.category]; done) | rfl
theorem pn_java_lang_String : plainName "java/lang/String" = true := by first | (simp [plainName, overriddenIn]; done) | decide +kernel
theorem d3_0 : decode jdk_42_method_149_code 0 = .ok (.aload_n 0, 1) := by decide +kernel
theorem d3_1 : decode jdk_42_method_149_code 1 = .ok (.invokespecial 1, 3) := by decide +kernel
theorem d3_4 : decode jdk_42_method_149_code 4 = .ok (.iload_n 3, 1) := by decide +kernel
theorem d3_5 : decode jdk_42_method_149_code 5 = .ok (.ifCond .ne 22, 3) := by decide +kernel
theorem d3_8 : decode jdk_42_method_149_code 8 = .ok (.aload_n 0, 1) := by decide +kernel
theorem d3_9 : decode jdk_42_method_149_code 9 = .ok (.ldc 7, 2) := by decide +kernel
theorem d3_11 : decode jdk_42_method_149_code 11 = .ok (.getfield 9, 3) := by decide +kernel
theorem d3_14 : decode jdk_42_method_149_code 14 = .ok (.putfield 9, 3) := by decide +kernel
theorem d3_17 : decode jdk_42_method_149_code 17 = .ok (.aload_n 0, 1) := by decide +kernel
theorem d3_18 : decode jdk_42_method_149_code 18 = .ok (.ldc 7, 2) := by decide +kernel
theorem d3_20 : decode jdk_42_method_149_code 20 = .ok (.getfield 15, 3) := by decide +kernel
theorem d3_23 : decode jdk_42_method_149_code 23 = .ok (.putfield 15, 3) := by decide +kernel
theorem d3_26 : decode jdk_42_method_149_code 26 = .ok (.return_, 1) := by decide +kernel
set_option maxRecDepth 65536 in
set_option maxHeartbeats 40000000 in
theorem rm3 (l : Launch) (Z : State) (a0 : Array Value) (hw : ∀ d ∈ tables_1, d.before a0 Z = true) (ws : List Jvm.Cond) (r0 r1 : Addr) (h0 : Heap) (n0 : Nat) (Z0 : n0 ≤ h0.size) (Et : Exa Z h0 r0 "java/lang/String") (Fv : Fld Z h0 r0 "java/lang/String" "value" "[B" .null) (Fc : Fld Z h0 r0 "java/lang/String" "coder" "B" (.int (0 : Int32))) (g_r0 : n0 ≤ r0) :
    MetFree l (⟨"java/lang/String", "<init>", "([CIILjava/lang/Void;)V"⟩ : MethodName) (head1 (Jvm.Cond.code (⟨"java/lang/String", "<init>", "([CIILjava/lang/Void;)V"⟩ : MethodName) jdk_42_method_149_code 6 none :: ws) ({ frames := 1, cells := 4, slots := 8, locals := 12 } : Room)) (fun aX UX => aX = #[(.ref r0), (.ref r1), (.int (0 : Int32)), (.int (0 : Int32)), .null] ∧ Z.Warmed39 UX.vm ∧ UX.heap = h0 ∧ CHv Z own_EL UX.vm h0) (fun _ _ _ _ _ => True) (fun _ UX oX UX' => ∃ vX LX, oX = .returned vX ∧ Q3 Z r0 h0 n0 vX UX'.heap LX ∧ CHr Z own_EL UX.vm UX.heap UX'.vm UX'.heap ∧ ReturnedEndW UX oX UX' LX ({ frames := 1, cells := 4, slots := 8, locals := 12 } : Room).cells ({ frames := 1, cells := 4, slots := 8, locals := 12 } : Room).slots) := by
  refine MetFree.of_bodySF (plainFor_of_name pn_java_lang_String) hisR ?_
  intro p e s m args below meth c s₁ Bd hml0 hP hK
  obtain ⟨rfl, hZ, hh, hCH0⟩ := hP
  have hx := Bd.exec
  have hby := Bd.bytes
  have hml : c.maxLocals = 6 := hml0
  have hown : s.vm.findClass "java/lang/String" = some m.cls := findClass_of_methodNamed Bd.named
  have hnm := (name_of_methodNamed Bd.named Bd.method).1
  have X0 : Stand p l e ({ frames := 1, cells := 4, slots := 8, locals := 12 } : Room) (s.setVm s.vm) m #[(.ref r0), (.ref r1), (.int (0 : Int32)), (.int (0 : Int32)), .null] below meth c s₁ [] 0 0 := Stand.of_body Bd
  have hS : s.Since s.vm 0 := (State.WarmedH.refl s).since 0
  have hk : 0 ≤ h0.size := Nat.zero_le _
  have hZ : Z.Warmed39 (s.setVm s.vm).vm := hZ
  have hown : (s.setVm s.vm).vm.findClass "java/lang/String" = some m.cls := hown
  have hEL := own_EW hw
  have CH : CHr Z own_EL (s.setVm s.vm).vm h0 (s.setVm s.vm).vm h0 := CHr.refl hCH0
  have e0 : s₁.heap = h0 := by rw [← hh, Bd.state]; rfl
  have N0 := Fr.nil n0
  show own_ComesH Z p e below s ({ frames := 1, cells := 4, slots := 8, locals := 12 } : Room).cells ({ frames := 1, cells := 4, slots := 8, locals := 12 } : Room).slots (Q3 Z r0 h0 n0) _
  rw [show entryFrame m #[(.ref r0), (.ref r1), (.int (0 : Int32)), (.int (0 : Int32)), .null] 6 = mkF m 0 #[.val (.ref r0), .val (.ref r1), .val (.int (0 : Int32)), .val (.int (0 : Int32)), .val .null, .unset] [] from ef_rm3 m r0 r1 (0 : Int32) (0 : Int32)]
  show own_ComesH Z p e below s _ _ _ (s₁.setTop (mkF m 0 #[.val (.ref r0), .val (.ref r1), .val (.int (0 : Int32)), .val (.int (0 : Int32)), .val .null, .unset] []))
  refine own_byH (fun _ kS => XS.aloadN X0.here hx rfl (hb hby d3_0) rfl rfl kS) ?_
  show own_ComesH Z p e below s _ _ _ (s₁.setTop (mkF m 1 #[.val (.ref r0), .val (.ref r1), .val (.int (0 : Int32)), .val (.int (0 : Int32)), .val .null, .unset] [(.ref r0)]))
  obtain ⟨T6, X6, e6, st6⟩ := initO X0 hx hZ hown (hw _ (List.mem_of_getElem? (i := 15) rfl)) (hw _ (List.mem_of_getElem? (i := 16) rfl)) (hw _ (List.mem_of_getElem? (i := 17) rfl)) e0 (g := (mkF m 1 #[.val (.ref r0), .val (.ref r1), .val (.int (0 : Int32)), .val (.int (0 : Int32)), .val .null, .unset] [(.ref r0)])) rfl (by rw [hml]; rfl) rfl (hb hby d3_1) (by decide) (W := 0) (by show 2 * 0 + _ ≤ _; exact Nat.le_of_eq rfl) (by decide)
  refine own_byH st6 ?_
  show own_ComesH Z p e below s _ _ _ (T6.setTop (mkF m 4 #[.val (.ref r0), .val (.ref r1), .val (.int (0 : Int32)), .val (.int (0 : Int32)), .val .null, .unset] []))
  refine own_byH (fun _ kS => XS.iloadN X6.here hx rfl (hb hby d3_4) rfl kS) ?_
  show own_ComesH Z p e below s _ _ _ (T6.setTop (mkF m 5 #[.val (.ref r0), .val (.ref r1), .val (.int (0 : Int32)), .val (.int (0 : Int32)), .val .null, .unset] [(.int (0 : Int32))]))
  have hb7 : (0 : Int32) = (0 : Int32) := by decide
  refine own_byH (fun _ kS => XS.ifNo X6.here hx rfl (hb hby d3_5) rfl ((if0 _ _).trans (teq hb7).2) kS) ?_
  show own_ComesH Z p e below s _ _ _ (T6.setTop (mkF m 8 #[.val (.ref r0), .val (.ref r1), .val (.int (0 : Int32)), .val (.int (0 : Int32)), .val .null, .unset] []))
  refine own_byH (fun _ kS => XS.aloadN X6.here hx rfl (hb hby d3_8) rfl rfl kS) ?_
  show own_ComesH Z p e below s _ _ _ (T6.setTop (mkF m 9 #[.val (.ref r0), .val (.ref r1), .val (.int (0 : Int32)), .val (.int (0 : Int32)), .val .null, .unset] [(.ref r0)]))
  have wS : ∀ a ∈ Bundle.stringAtoms, a.before a0 Z = true := fun d hd => hw d ((by decide +kernel : ∀ d ∈ Bundle.stringAtoms, d ∈ tables_1) d hd)
  obtain ⟨a8, T8, h8, k8, b8, kb8, X8, e8, E8, hS8, hk8, hZ8, hown8, Ea8, Fc8, Fv8, Vb8, la8, lb8, CQ8, Li8, ne8, st8⟩ := ldcCH X6 hx hZ hown (hw _ (List.mem_of_getElem? (i := 18) rfl)) wS e6 hS hk hEL (List.mem_of_getElem? (i := 1) rfl) CH.1 (vs := []) (z := (0 : Int32)) ⟨by decide, rfl⟩ (by decide) rfl (g := (mkF m 9 #[.val (.ref r0), .val (.ref r1), .val (.int (0 : Int32)), .val (.int (0 : Int32)), .val .null, .unset] [(.ref r0)])) rfl (hb hby d3_9) (n := 0) (by decide) (by decide) (by decide) (by decide)
  refine own_byH st8 ?_
  have CR9 := CQ8
  have CH9 := CH.trans CR9
  show own_ComesH Z p e below s _ _ _ (T8.setTop (mkF m 11 #[.val (.ref r0), .val (.ref r1), .val (.int (0 : Int32)), .val (.int (0 : Int32)), .val .null, .unset] [(.ref a8), (.ref r0)]))
  have sf10 := CR9.safe Et.lt (own_nullsafe hZ.alike Et Fv)
  obtain ⟨T11, X11, e11, st11⟩ := getF X8 hx hZ8 hown8 (host := "") (Or.inl (hw _ (List.mem_of_getElem? (i := 24) rfl))) Via.refl e8 Fv8 (g := (mkF m 11 #[.val (.ref r0), .val (.ref r1), .val (.int (0 : Int32)), .val (.int (0 : Int32)), .val .null, .unset] [(.ref a8), (.ref r0)])) rfl rfl (hb hby d3_11)
  refine own_byH st11 ?_
  show own_ComesH Z p e below s _ _ _ (T11.setTop (mkF m 14 #[.val (.ref r0), .val (.ref r1), .val (.int (0 : Int32)), .val (.int (0 : Int32)), .val .null, .unset] [(.ref b8), (.ref r0)]))
  obtain ⟨T12, h12, X12, e12, W12, st12⟩ := putF X11 hx hZ8 hown8 (host := "") (Or.inl (hw _ (List.mem_of_getElem? (i := 24) rfl))) Via.refl e11 (Fv.ext E8) (Et.ext E8) (Or.inr ⟨(hw _ (List.mem_of_getElem? (i := 20) rfl)), rfl, hnm⟩) (hw _ (List.mem_of_getElem? (i := 5) rfl)) (ty := (.array .byte)) (by decide) rfl rfl (g := (mkF m 14 #[.val (.ref r0), .val (.ref r1), .val (.int (0 : Int32)), .val (.int (0 : Int32)), .val .null, .unset] [(.ref b8), (.ref r0)])) rfl rfl (hb hby d3_14)
  refine own_byH st12 ?_
  have Fw12 := (Fv.ext E8).same W12
  have CR13 := CHr.wr W12 sf10 CH9.1
  have CH13 := CH9.trans CR13
  have N12 := Fr.snoc X12 N0 g_r0
  show own_ComesH Z p e below s _ _ _ (T12.setTop (mkF m 17 #[.val (.ref r0), .val (.ref r1), .val (.int (0 : Int32)), .val (.int (0 : Int32)), .val .null, .unset] []))
  refine own_byH (fun _ kS => XS.aloadN X12.here hx rfl (hb hby d3_17) rfl rfl kS) ?_
  show own_ComesH Z p e below s _ _ _ (T12.setTop (mkF m 18 #[.val (.ref r0), .val (.ref r1), .val (.int (0 : Int32)), .val (.int (0 : Int32)), .val .null, .unset] [(.ref r0)]))
  obtain ⟨a14, T14, h14, k14, b14, kb14, X14, e14, E14, hS14, hk14, hZ14, hown14, Ea14, Fc14, Fv14, Vb14, la14, lb14, CQ14, Li14, ne14, st14⟩ := ldcCH X12 hx hZ8 hown8 (hw _ (List.mem_of_getElem? (i := 18) rfl)) wS e12 hS8 (Nat.le_trans hk8 (Keep.of_wr W12).1) hEL (List.mem_of_getElem? (i := 1) rfl) CH13.1 (vs := []) (z := (0 : Int32)) ⟨by decide, rfl⟩ (by decide) rfl (g := (mkF m 18 #[.val (.ref r0), .val (.ref r1), .val (.int (0 : Int32)), .val (.int (0 : Int32)), .val .null, .unset] [(.ref r0)])) rfl (hb hby d3_18) (n := 0) (by decide) (by decide) (by decide) (by decide)
  refine own_byH st14 ?_
  have CR15 := CQ14
  have CH15 := CH13.trans CR15
  show own_ComesH Z p e below s _ _ _ (T14.setTop (mkF m 20 #[.val (.ref r0), .val (.ref r1), .val (.int (0 : Int32)), .val (.int (0 : Int32)), .val .null, .unset] [(.ref a14), (.ref r0)]))
  obtain ⟨T16, X16, e16, st16⟩ := getF X14 hx hZ14 hown14 (host := "") (Or.inl (hw _ (List.mem_of_getElem? (i := 25) rfl))) Via.refl e14 Fc14 (g := (mkF m 20 #[.val (.ref r0), .val (.ref r1), .val (.int (0 : Int32)), .val (.int (0 : Int32)), .val .null, .unset] [(.ref a14), (.ref r0)])) rfl rfl (hb hby d3_20)
  refine own_byH st16 ?_
  show own_ComesH Z p e below s _ _ _ (T16.setTop (mkF m 23 #[.val (.ref r0), .val (.ref r1), .val (.int (0 : Int32)), .val (.int (0 : Int32)), .val .null, .unset] [(.int (0 : Int32)), (.ref r0)]))
  have c17 := (((Fc.ext E8).other W12 (Or.inr (slot_ne (Or.inr (hw _ (List.mem_of_getElem? (i := 21) rfl))) (Or.inr (hw _ (List.mem_of_getElem? (i := 20) rfl))) (by decide) (t := .byte) (t' := (.array .byte)) (by decide) (by decide)))).ext E14)
  obtain ⟨T18, h18, X18, e18, W18, st18⟩ := putFN X16 hx hZ14 hown14 (hw _ (List.mem_of_getElem? (i := 25) rfl)) Via.refl e16 c17 (((Et.ext E8).wr W12).ext E14) (Or.inr ⟨(hw _ (List.mem_of_getElem? (i := 21) rfl)), rfl, hnm⟩) (hw _ (List.mem_of_getElem? (i := 5) rfl)) (ty := .byte) (v' := (.int (0 : Int32))) (by decide) rfl (by first | rfl | decide | exact fits_nar_byte _) (g := (mkF m 23 #[.val (.ref r0), .val (.ref r1), .val (.int (0 : Int32)), .val (.int (0 : Int32)), .val .null, .unset] [(.int (0 : Int32)), (.ref r0)])) rfl rfl (hb hby d3_23)
  refine own_byH st18 ?_
  have Fw18 := c17.same W18
  have sf20 := (CR13.trans CR15).safe (Nat.lt_of_lt_of_le Et.lt CR9.2.1) sf10
  have CR19 := CHr.wr W18 sf20 CH15.1
  have CH19 := CH15.trans CR19
  have N18 := Fr.snoc X18 N12 g_r0
  show own_ComesH Z p e below s _ _ _ (T18.setTop (mkF m 26 #[.val (.ref r0), .val (.ref r1), .val (.int (0 : Int32)), .val (.int (0 : Int32)), .val .null, .unset] []))
  have c21 := ((Fw12.ext E14).other W18 (Or.inr (slot_ne (Or.inr (hw _ (List.mem_of_getElem? (i := 20) rfl))) (Or.inr (hw _ (List.mem_of_getElem? (i := 21) rfl))) (by decide) (t := (.array .byte)) (t' := .byte) (by decide) (by decide))))
  have c22 := (((Vb8.other W12 (Ne.symm (ne8 _ sf10).2)).ext E14).other W18 (Ne.symm (ne8 _ sf10).2))
  have hkr23 := (Nat.le_trans hk14 (Keep.of_wr W18).1)
  have hcr23 := CH19.trans (CHv.at X18 hZ14 hEL CH19.1)
  refine own_retH X18 hS14 (by rw [e18]; exact hkr23) (by rw [hh]; rw [e18]; exact hcr23) (v := none) (fun _ => rfl) Bd.notSynchronized (by decide) (by decide) ?_ (fun fs hr => X18.returnOut hx Bd.returns (hb hby d3_26) hr)
  rw [e18]; exact ⟨rfl, N18, (((((Keep.refl _ _).ext E8).wr W12 (Or.inl (List.mem_of_getElem? (i := 0) rfl))).ext E14).wr W18 (Or.inl (List.mem_of_getElem? (i := 0) rfl))), ((((Et.ext E8).wr W12).ext E14).wr W18), b8, kb8, _, _, c21, Fw18, c22, Or.inl ⟨rfl, rfl, rfl, by decide⟩, by decide, by decide⟩
def Q2 (Z : State) (r0 : Addr) (h0 : Heap) (n0 : Nat) (v : Option Value) (h : Heap) (L : List Loc) : Prop := v = none ∧ Fr n0 L ∧ Keep h0 h [r0] ∧ own_Str Z h r0 []
theorem ef_rm2 (m : MethodId) (x0 : Addr) (x1 : Addr) : entryFrame m #[(.ref x0), (.ref x1)] 2 = mkF m 0 #[.val (.ref x0), .val (.ref x1)] [] := by first | (simp [entryFrame, mkF, argsToLocals, Value.category]; done) | rfl
theorem d2_0 : decode jdk_42_method_3_code 0 = .ok (.aload_n 0, 1) := by decide +kernel
theorem d2_1 : decode jdk_42_method_3_code 1 = .ok (.aload_n 1, 1) := by decide +kernel
theorem d2_2 : decode jdk_42_method_3_code 2 = .ok (.iconst 0, 1) := by decide +kernel
theorem d2_3 : decode jdk_42_method_3_code 3 = .ok (.aload_n 1, 1) := by decide +kernel
theorem d2_4 : decode jdk_42_method_3_code 4 = .ok (.arraylength, 1) := by decide +kernel
theorem d2_5 : decode jdk_42_method_3_code 5 = .ok (.aconst_null, 1) := by decide +kernel
theorem pd___CIILjava_lang_Void__V_941 : parseMethodDescriptor "([CIILjava/lang/Void;)V" = some ⟨[(.array .char), .int, .int, (.object "java/lang/Void")], none⟩ := by decide +kernel
theorem d2_6 : decode jdk_42_method_3_code 6 = .ok (.invokespecial 27, 3) := by decide +kernel
theorem d2_9 : decode jdk_42_method_3_code 9 = .ok (.return_, 1) := by decide +kernel
set_option maxRecDepth 65536 in
set_option maxHeartbeats 40000000 in
theorem rm2 (l : Launch) (Z : State) (a0 : Array Value) (hw : ∀ d ∈ tables_1, d.before a0 Z = true) (ws : List Jvm.Cond) (r0 r1 : Addr) (kc : ClassId) (h0 : Heap) (n0 : Nat) (Z0 : n0 ≤ h0.size) (Et : Exa Z h0 r0 "java/lang/String") (Fv : Fld Z h0 r0 "java/lang/String" "value" "[B" .null) (Fc : Fld Z h0 r0 "java/lang/String" "coder" "B" (.int (0 : Int32))) (g_r0 : n0 ≤ r0) (Vr : Arv Z h0 r1 kc .char (0 : Int32) [] (.int (0 : Int32))) :
    MetFree l (⟨"java/lang/String", "<init>", "([C)V"⟩ : MethodName) (head1 (Jvm.Cond.code (⟨"java/lang/String", "<init>", "([C)V"⟩ : MethodName) jdk_42_method_3_code 2 none :: ws) ({ frames := 2, cells := 4, slots := 8, locals := 29 } : Room)) (fun aX UX => aX = #[(.ref r0), (.ref r1)] ∧ Z.Warmed39 UX.vm ∧ UX.heap = h0 ∧ CHv Z own_EL UX.vm h0) (fun _ _ _ _ _ => True) (fun _ UX oX UX' => ∃ vX LX, oX = .returned vX ∧ Q2 Z r0 h0 n0 vX UX'.heap LX ∧ CHr Z own_EL UX.vm UX.heap UX'.vm UX'.heap ∧ ReturnedEndW UX oX UX' LX ({ frames := 2, cells := 4, slots := 8, locals := 29 } : Room).cells ({ frames := 2, cells := 4, slots := 8, locals := 29 } : Room).slots) := by
  refine MetFree.of_bodySF (plainFor_of_name pn_java_lang_String) hisR ?_
  intro p e s m args below meth c s₁ Bd hml0 hP hK
  obtain ⟨rfl, hZ, hh, hCH0⟩ := hP
  have hx := Bd.exec
  have hby := Bd.bytes
  have hml : c.maxLocals = 2 := hml0
  have hown : s.vm.findClass "java/lang/String" = some m.cls := findClass_of_methodNamed Bd.named
  have hnm := (name_of_methodNamed Bd.named Bd.method).1
  have X0 : Stand p l e ({ frames := 2, cells := 4, slots := 8, locals := 29 } : Room) (s.setVm s.vm) m #[(.ref r0), (.ref r1)] below meth c s₁ [] 0 0 := Stand.of_body Bd
  have hS : s.Since s.vm 0 := (State.WarmedH.refl s).since 0
  have hk : 0 ≤ h0.size := Nat.zero_le _
  have hZ : Z.Warmed39 (s.setVm s.vm).vm := hZ
  have hown : (s.setVm s.vm).vm.findClass "java/lang/String" = some m.cls := hown
  have hEL := own_EW hw
  have CH : CHr Z own_EL (s.setVm s.vm).vm h0 (s.setVm s.vm).vm h0 := CHr.refl hCH0
  have e0 : s₁.heap = h0 := by rw [← hh, Bd.state]; rfl
  have N0 := Fr.nil n0
  show own_ComesH Z p e below s ({ frames := 2, cells := 4, slots := 8, locals := 29 } : Room).cells ({ frames := 2, cells := 4, slots := 8, locals := 29 } : Room).slots (Q2 Z r0 h0 n0) _
  rw [show entryFrame m #[(.ref r0), (.ref r1)] 2 = mkF m 0 #[.val (.ref r0), .val (.ref r1)] [] from ef_rm2 m r0 r1]
  show own_ComesH Z p e below s _ _ _ (s₁.setTop (mkF m 0 #[.val (.ref r0), .val (.ref r1)] []))
  refine own_byH (fun _ kS => XS.aloadN X0.here hx rfl (hb hby d2_0) rfl rfl kS) ?_
  show own_ComesH Z p e below s _ _ _ (s₁.setTop (mkF m 1 #[.val (.ref r0), .val (.ref r1)] [(.ref r0)]))
  refine own_byH (fun _ kS => XS.aloadN X0.here hx rfl (hb hby d2_1) rfl rfl kS) ?_
  show own_ComesH Z p e below s _ _ _ (s₁.setTop (mkF m 2 #[.val (.ref r0), .val (.ref r1)] [(.ref r1), (.ref r0)]))
  refine own_byH (fun _ kS => XS.iconst X0.here hx rfl (hb hby d2_2) kS) ?_
  show own_ComesH Z p e below s _ _ _ (s₁.setTop (mkF m 3 #[.val (.ref r0), .val (.ref r1)] [(.int (0 : Int32)), (.ref r1), (.ref r0)]))
  refine own_byH (fun _ kS => XS.aloadN X0.here hx rfl (hb hby d2_3) rfl rfl kS) ?_
  show own_ComesH Z p e below s _ _ _ (s₁.setTop (mkF m 4 #[.val (.ref r0), .val (.ref r1)] [(.ref r1), (.int (0 : Int32)), (.ref r1), (.ref r0)]))
  have Vo24 := Vr
  obtain ⟨cl24, Ar24, qA24, SA24, NA24, HA24, GA24⟩ := Vo24
  refine own_byH (fun _ kS => X0.arraylength hx (by rw [e0]; exact Ar24.1) (State.isArrayOf_alike hZ.alike Ar24.2.1) (g := (mkF m 4 #[.val (.ref r0), .val (.ref r1)] [(.ref r1), (.int (0 : Int32)), (.ref r1), (.ref r0)])) rfl rfl (hb hby d2_4) _ kS) ?_
  rw [len_of SA24 NA24]
  show own_ComesH Z p e below s _ _ _ (s₁.setTop (mkF m 5 #[.val (.ref r0), .val (.ref r1)] [(.int (0 : Int32)), (.int (0 : Int32)), (.ref r1), (.ref r0)]))
  refine own_byH (fun _ kS => XS.aconstNull X0.here hx rfl (hb hby d2_5) kS) ?_
  show own_ComesH Z p e below s _ _ _ (s₁.setTop (mkF m 6 #[.val (.ref r0), .val (.ref r1)] [.null, (.int (0 : Int32)), (.int (0 : Int32)), (.ref r1), (.ref r0)]))
  obtain ⟨_, _, ⟨T25, L25, k25, n25⟩, -, Xw25, hs25, gr25, ⟨Lc25, hQ25, l25, y25, z25, CQ25⟩, st25⟩ := X0.specialBackS hx (y := (⟨"java/lang/String", "<init>", "([CIILjava/lang/Void;)V"⟩ : MethodName)) rfl hown (mvT hZ (hw _ (List.mem_of_getElem? (i := 11) rfl))) (mvT hZ (hw _ (List.mem_of_getElem? (i := 12) rfl))) (mvT hZ (hw _ (List.mem_of_getElem? (i := 14) rfl))) (by decide) (backOfSH (W := 0) (rm3 l Z a0 hw [] r0 r1 h0 n0 Z0 Et Fv Fc g_r0) hZ (hw _ (List.mem_of_getElem? (i := 14) rfl)) (hw _ (List.mem_of_getElem? (i := 6) rfl)) (by decide) (by decide) hEL CH.1) (g := (mkF m 6 #[.val (.ref r0), .val (.ref r1)] [.null, (.int (0 : Int32)), (.int (0 : Int32)), (.ref r1), (.ref r0)])) rfl (by rw [hml]; rfl) (Steps.refl _) (a := r0) (argsL := [(.ref r1), (.int (0 : Int32)), (.int (0 : Int32)), .null]) (rest := []) (lenOf pd___CIILjava_lang_Void__V_941 rfl) rfl (by show 2 * 0 + _ ≤ _; exact Nat.le_of_eq rfl) (hb hby d2_6) (fun _ _ => ⟨rfl, e0, (by decide : 0 + 4 ≤ _), (by decide : 0 + 8 ≤ _)⟩)
  dsimp only [Pt.U, Pt.locs, Pt.cells, Pt.slots] at Xw25 l25 y25 z25 st25 hQ25 hs25 gr25 CQ25
  subst l25 y25 z25
  obtain ⟨X25, hS25, hZ25, hown25⟩ := rebS hS (by rw [e0]; exact hk) Xw25 hs25 gr25 hZ hown
  obtain ⟨rfl, N25q, K25, Y25⟩ := hQ25
  have N25 := Fr.app N0 N25q
  refine own_trH st25 ?_
  have CR26 := CQ25
  have CH26 := CH.trans CR26
  show own_ComesH Z p e below s _ _ _ (T25.setTop (mkF m 9 #[.val (.ref r0), .val (.ref r1)] []))
  have hkr27 := (Nat.le_refl (Array.size T25.heap))
  have hcr27 := CH26.trans (CHv.at X25 hZ25 hEL CH26.1)
  refine own_retH X25 hS25 (by exact hkr27) (by rw [hh]; exact hcr27) (v := none) (fun _ => rfl) Bd.notSynchronized (by decide) (by decide) ?_ (fun fs hr => X25.returnOut hx Bd.returns (hb hby d2_9) hr)
  exact ⟨rfl, N25, K25, Y25⟩
def Q19 (Z : State) (r0 r1 : Addr) (h0 : Heap) (n0 : Nat) (v : Option Value) (h : Heap) (L : List Loc) : Prop := v = none ∧ Fr n0 L ∧ Keep h0 h [r0] ∧ Fld Z h r0 "java/util/Optional" "value" "Ljava/lang/Object;" (.ref r1)
theorem ef_rm19 (m : MethodId) (x0 : Addr) (x1 : Addr) : entryFrame m #[(.ref x0), (.ref x1)] 2 = mkF m 0 #[.val (.ref x0), .val (.ref x1)] [] := by first | (simp [entryFrame, mkF, argsToLocals, Value.category]; done) | rfl
theorem pn_java_util_Optional : plainName "java/util/Optional" = true := by first | (simp [plainName, overriddenIn]; done) | decide +kernel
theorem d19_0 : decode jdk_32_method_2_code 0 = .ok (.aload_n 0, 1) := by decide +kernel
theorem d19_1 : decode jdk_32_method_2_code 1 = .ok (.invokespecial 7, 3) := by decide +kernel
theorem d19_4 : decode jdk_32_method_2_code 4 = .ok (.aload_n 0, 1) := by decide +kernel
theorem d19_5 : decode jdk_32_method_2_code 5 = .ok (.aload_n 1, 1) := by decide +kernel
theorem d19_6 : decode jdk_32_method_2_code 6 = .ok (.putfield 13, 3) := by decide +kernel
theorem d19_9 : decode jdk_32_method_2_code 9 = .ok (.return_, 1) := by decide +kernel
set_option maxRecDepth 65536 in
set_option maxHeartbeats 40000000 in
theorem rm19 (l : Launch) (Z : State) (a0 : Array Value) (hw : ∀ d ∈ tables_1, d.before a0 Z = true) (ws : List Jvm.Cond) (r0 r1 : Addr) (h0 : Heap) (n0 : Nat) (Z0 : n0 ≤ h0.size) (Et : Exa Z h0 r0 "java/util/Optional") (Fv : Fld Z h0 r0 "java/util/Optional" "value" "Ljava/lang/Object;" .null) (g_r0 : n0 ≤ r0) :
    MetFree l (⟨"java/util/Optional", "<init>", "(Ljava/lang/Object;)V"⟩ : MethodName) (head1 (Jvm.Cond.code (⟨"java/util/Optional", "<init>", "(Ljava/lang/Object;)V"⟩ : MethodName) jdk_32_method_2_code 2 none :: ws) ({ frames := 1, cells := 0, slots := 0, locals := 12 } : Room)) (fun aX UX => aX = #[(.ref r0), (.ref r1)] ∧ Z.Warmed39 UX.vm ∧ UX.heap = h0) (fun _ _ _ _ _ => True) (fun _ UX oX UX' => ∃ vX LX, oX = .returned vX ∧ Q19 Z r0 r1 h0 n0 vX UX'.heap LX ∧ FrameEnd UX oX UX' LX ({ frames := 1, cells := 0, slots := 0, locals := 12 } : Room).cells ({ frames := 1, cells := 0, slots := 0, locals := 12 } : Room).slots) := by
  refine MetFree.of_bodySF (plainFor_of_name pn_java_util_Optional) hisR ?_
  intro p e s m args below meth c s₁ Bd hml0 hP hK
  obtain ⟨rfl, hZ, hh⟩ := hP
  have hx := Bd.exec
  have hby := Bd.bytes
  have hml : c.maxLocals = 2 := hml0
  have hown : s.vm.findClass "java/util/Optional" = some m.cls := findClass_of_methodNamed Bd.named
  have hnm := (name_of_methodNamed Bd.named Bd.method).1
  have X0 : Stand p l e ({ frames := 1, cells := 0, slots := 0, locals := 12 } : Room) s m #[(.ref r0), (.ref r1)] below meth c s₁ [] 0 0 := Stand.of_body Bd
  have e0 : s₁.heap = h0 := by rw [← hh, Bd.state]; rfl
  have N0 := Fr.nil n0
  show own_Comes p e below s ({ frames := 1, cells := 0, slots := 0, locals := 12 } : Room).cells ({ frames := 1, cells := 0, slots := 0, locals := 12 } : Room).slots (Q19 Z r0 r1 h0 n0) _
  rw [show entryFrame m #[(.ref r0), (.ref r1)] 2 = mkF m 0 #[.val (.ref r0), .val (.ref r1)] [] from ef_rm19 m r0 r1]
  show own_Comes p e below s _ _ _ (s₁.setTop (mkF m 0 #[.val (.ref r0), .val (.ref r1)] []))
  refine own_by (fun _ kS => XS.aloadN X0.here hx rfl (hb hby d19_0) rfl rfl kS) ?_
  show own_Comes p e below s _ _ _ (s₁.setTop (mkF m 1 #[.val (.ref r0), .val (.ref r1)] [(.ref r0)]))
  obtain ⟨T28, X28, e28, st28⟩ := initO X0 hx hZ hown (hw _ (List.mem_of_getElem? (i := 112) rfl)) (hw _ (List.mem_of_getElem? (i := 16) rfl)) (hw _ (List.mem_of_getElem? (i := 17) rfl)) e0 (g := (mkF m 1 #[.val (.ref r0), .val (.ref r1)] [(.ref r0)])) rfl (by rw [hml]; rfl) rfl (hb hby d19_1) (by decide) (W := 0) (by show 2 * 0 + _ ≤ _; exact Nat.le_of_eq rfl) (by decide)
  refine own_by st28 ?_
  show own_Comes p e below s _ _ _ (T28.setTop (mkF m 4 #[.val (.ref r0), .val (.ref r1)] []))
  refine own_by (fun _ kS => XS.aloadN X28.here hx rfl (hb hby d19_4) rfl rfl kS) ?_
  show own_Comes p e below s _ _ _ (T28.setTop (mkF m 5 #[.val (.ref r0), .val (.ref r1)] [(.ref r0)]))
  refine own_by (fun _ kS => XS.aloadN X28.here hx rfl (hb hby d19_5) rfl rfl kS) ?_
  show own_Comes p e below s _ _ _ (T28.setTop (mkF m 6 #[.val (.ref r0), .val (.ref r1)] [(.ref r1), (.ref r0)]))
  obtain ⟨T29, h29, X29, e29, W29, st29⟩ := putF X28 hx hZ hown (host := "") (Or.inl (hw _ (List.mem_of_getElem? (i := 72) rfl))) Via.refl e28 Fv Et (Or.inr ⟨(hw _ (List.mem_of_getElem? (i := 73) rfl)), rfl, hnm⟩) (hw _ (List.mem_of_getElem? (i := 107) rfl)) (ty := (.object "java/lang/Object")) (by decide) rfl rfl (g := (mkF m 6 #[.val (.ref r0), .val (.ref r1)] [(.ref r1), (.ref r0)])) rfl rfl (hb hby d19_6)
  refine own_by st29 ?_
  have Fw29 := Fv.same W29
  have N29 := Fr.snoc X29 N0 g_r0
  show own_Comes p e below s _ _ _ (T29.setTop (mkF m 9 #[.val (.ref r0), .val (.ref r1)] []))
  refine own_ret X29 (v := none) (fun _ => rfl) Bd.notSynchronized (by decide) (by decide) ?_ (fun fs hr => X29.returnOut hx Bd.returns (hb hby d19_9) hr)
  rw [e29]; exact ⟨rfl, N29, ((Keep.refl _ _).wr W29 (Or.inl (List.mem_of_getElem? (i := 0) rfl))), Fw29⟩
def Q9 (Z : State) (x : Value) (h0 : Heap) (n0 : Nat) (v : Option Value) (h : Heap) (L : List Loc) : Prop := ∃ o : Addr, v = some (.ref o) ∧ Fr n0 L ∧ Ext h0 h ∧ Exa Z h o "java/util/Optional" ∧ Fld Z h o "java/util/Optional" "value" "Ljava/lang/Object;" x
theorem ef_rm9n (m : MethodId)  : entryFrame m #[.null] 1 = mkF m 0 #[.val .null] [] := by first | (simp [entryFrame, mkF, argsToLocals, Value.category]; done) | rfl
theorem d9_0 : decode jdk_32_method_4_code 0 = .ok (.aload_n 0, 1) := by decide +kernel
theorem d9_1 : decode jdk_32_method_4_code 1 = .ok (.ifnonnull 9, 3) := by decide +kernel
theorem d9_4 : decode jdk_32_method_4_code 4 = .ok (.getstatic 1, 3) := by decide +kernel
theorem d9_7 : decode jdk_32_method_4_code 7 = .ok (.goto 11, 3) := by decide +kernel
theorem d9_18 : decode jdk_32_method_4_code 18 = .ok (.areturn, 1) := by decide +kernel
set_option maxRecDepth 65536 in
set_option maxHeartbeats 40000000 in
theorem rm9n (l : Launch) (Z : State) (a0 : Array Value) (hw : ∀ d ∈ tables_1, d.before a0 Z = true) (ws : List Jvm.Cond) (em : Addr) (h0 : Heap) (n0 : Nat) (Z0 : n0 ≤ h0.size) (O0 : Old Z n0 h0) (Sm : Sta Z Z.heap "java/util/Optional" "EMPTY" "Ljava/util/Optional;" (.ref em)) (Em : Exa Z Z.heap em "java/util/Optional") (Fm : Fld Z Z.heap em "java/util/Optional" "value" "Ljava/lang/Object;" .null) :
    MetFree l (⟨"java/util/Optional", "ofNullable", "(Ljava/lang/Object;)Ljava/util/Optional;"⟩ : MethodName) (head1 (Jvm.Cond.code (⟨"java/util/Optional", "ofNullable", "(Ljava/lang/Object;)Ljava/util/Optional;"⟩ : MethodName) jdk_32_method_4_code 1 (some (.object "java/util/Optional")) :: ws) ({ frames := 0, cells := 0, slots := 0, locals := 0 } : Room)) (fun aX UX => aX = #[.null] ∧ Z.Warmed39 UX.vm ∧ UX.heap = h0) (fun _ _ _ _ _ => True) (fun _ UX oX UX' => ∃ vX LX, oX = .returned vX ∧ Q9 Z .null h0 n0 vX UX'.heap LX ∧ FrameEnd UX oX UX' LX ({ frames := 0, cells := 0, slots := 0, locals := 0 } : Room).cells ({ frames := 0, cells := 0, slots := 0, locals := 0 } : Room).slots) := by
  refine MetFree.of_bodySF (plainFor_of_name pn_java_util_Optional) hisR ?_
  intro p e s m args below meth c s₁ Bd hml0 hP hK
  obtain ⟨rfl, hZ, hh⟩ := hP
  have hx := Bd.exec
  have hby := Bd.bytes
  have hml : c.maxLocals = 1 := hml0
  have hown : s.vm.findClass "java/util/Optional" = some m.cls := findClass_of_methodNamed Bd.named
  have hnm := (name_of_methodNamed Bd.named Bd.method).1
  have X0 : Stand p l e ({ frames := 0, cells := 0, slots := 0, locals := 0 } : Room) s m #[.null] below meth c s₁ [] 0 0 := Stand.of_body Bd
  have e0 : s₁.heap = h0 := by rw [← hh, Bd.state]; rfl
  have N0 := Fr.nil n0
  show own_Comes p e below s ({ frames := 0, cells := 0, slots := 0, locals := 0 } : Room).cells ({ frames := 0, cells := 0, slots := 0, locals := 0 } : Room).slots (Q9 Z .null h0 n0) _
  rw [show entryFrame m #[.null] 1 = mkF m 0 #[.val .null] [] from ef_rm9n m ]
  show own_Comes p e below s _ _ _ (s₁.setTop (mkF m 0 #[.val .null] []))
  refine own_by (fun _ kS => XS.aloadN X0.here hx rfl (hb hby d9_0) rfl rfl kS) ?_
  show own_Comes p e below s _ _ _ (s₁.setTop (mkF m 1 #[.val .null] [.null]))
  refine own_by (fun _ kS => XS.ifnonnullNo X0.here hx rfl (hb hby d9_1) rfl kS) ?_
  show own_Comes p e below s _ _ _ (s₁.setTop (mkF m 4 #[.val .null] []))
  obtain ⟨T30, X30, e30, st30⟩ := getS2 X0 hx hZ hown (host := "") (Or.inl (hw _ (List.mem_of_getElem? (i := 66) rfl))) Via.refl e0 (Sm.ext O0.2) (g := (mkF m 4 #[.val .null] [])) rfl (hb hby d9_4)
  refine own_by st30 ?_
  show own_Comes p e below s _ _ _ (T30.setTop (mkF m 7 #[.val .null] [(.ref em)]))
  refine own_by (fun _ kS => XS.goto X30.here hx rfl (pc0 := 7) (pc' := 18) rfl (hb hby d9_7) (by decide) (by decide) kS) ?_
  show own_Comes p e below s _ _ _ (T30.setTop (mkF m 18 #[.val .null] [(.ref em)]))
  refine own_ret X30 (v := some (.ref em)) (fun h => by rw [Bd.returns] at h; cases h) Bd.notSynchronized (by decide) (by decide) ?_ (fun fs hr => own_reta X30 hx Bd.returns rfl rfl (hb hby d9_18) hr)
  rw [e30]; exact ⟨_, rfl, N0, (own_ext (Keep.refl _ [])), (Em.ext O0.2), (Fm.ext O0.2)⟩
theorem ef_rm9r (m : MethodId) (x0 : Addr) : entryFrame m #[(.ref x0)] 1 = mkF m 0 #[.val (.ref x0)] [] := by first | (simp [entryFrame, mkF, argsToLocals, Value.category]; done) | rfl
theorem d9_10 : decode jdk_32_method_4_code 10 = .ok (.new 2, 3) := by decide +kernel
theorem d9_13 : decode jdk_32_method_4_code 13 = .ok (.dup, 1) := by decide +kernel
theorem d9_14 : decode jdk_32_method_4_code 14 = .ok (.aload_n 0, 1) := by decide +kernel
theorem pd__Ljava_lang_Object__V_834 : parseMethodDescriptor "(Ljava/lang/Object;)V" = some ⟨[(.object "java/lang/Object")], none⟩ := by decide +kernel
theorem d9_15 : decode jdk_32_method_4_code 15 = .ok (.invokespecial 23, 3) := by decide +kernel
set_option maxRecDepth 65536 in
set_option maxHeartbeats 40000000 in
theorem rm9r (l : Launch) (Z : State) (a0 : Array Value) (hw : ∀ d ∈ tables_1, d.before a0 Z = true) (ws : List Jvm.Cond) (r0 : Addr) (h0 : Heap) (n0 : Nat) (Z0 : n0 ≤ h0.size) :
    MetFree l (⟨"java/util/Optional", "ofNullable", "(Ljava/lang/Object;)Ljava/util/Optional;"⟩ : MethodName) (head1 (Jvm.Cond.code (⟨"java/util/Optional", "ofNullable", "(Ljava/lang/Object;)Ljava/util/Optional;"⟩ : MethodName) jdk_32_method_4_code 1 (some (.object "java/util/Optional")) :: ws) ({ frames := 2, cells := 1, slots := 1, locals := 26 } : Room)) (fun aX UX => aX = #[(.ref r0)] ∧ Z.Warmed39 UX.vm ∧ UX.heap = h0) (fun _ _ _ _ _ => True) (fun _ UX oX UX' => ∃ vX LX, oX = .returned vX ∧ Q9 Z (.ref r0) h0 n0 vX UX'.heap LX ∧ FrameEnd UX oX UX' LX ({ frames := 2, cells := 1, slots := 1, locals := 26 } : Room).cells ({ frames := 2, cells := 1, slots := 1, locals := 26 } : Room).slots) := by
  refine MetFree.of_bodySF (plainFor_of_name pn_java_util_Optional) hisR ?_
  intro p e s m args below meth c s₁ Bd hml0 hP hK
  obtain ⟨rfl, hZ, hh⟩ := hP
  have hx := Bd.exec
  have hby := Bd.bytes
  have hml : c.maxLocals = 1 := hml0
  have hown : s.vm.findClass "java/util/Optional" = some m.cls := findClass_of_methodNamed Bd.named
  have hnm := (name_of_methodNamed Bd.named Bd.method).1
  have X0 : Stand p l e ({ frames := 2, cells := 1, slots := 1, locals := 26 } : Room) s m #[(.ref r0)] below meth c s₁ [] 0 0 := Stand.of_body Bd
  have e0 : s₁.heap = h0 := by rw [← hh, Bd.state]; rfl
  have N0 := Fr.nil n0
  show own_Comes p e below s ({ frames := 2, cells := 1, slots := 1, locals := 26 } : Room).cells ({ frames := 2, cells := 1, slots := 1, locals := 26 } : Room).slots (Q9 Z (.ref r0) h0 n0) _
  rw [show entryFrame m #[(.ref r0)] 1 = mkF m 0 #[.val (.ref r0)] [] from ef_rm9r m r0]
  show own_Comes p e below s _ _ _ (s₁.setTop (mkF m 0 #[.val (.ref r0)] []))
  refine own_by (fun _ kS => XS.aloadN X0.here hx rfl (hb hby d9_0) rfl rfl kS) ?_
  show own_Comes p e below s _ _ _ (s₁.setTop (mkF m 1 #[.val (.ref r0)] [(.ref r0)]))
  refine own_by (fun _ kS => XS.ifnonnullYes X0.here hx rfl (pc0 := 1) (pc' := 10) rfl (hb hby d9_1) rfl (by decide) (by decide) kS) ?_
  show own_Comes p e below s _ _ _ (s₁.setTop (mkF m 10 #[.val (.ref r0)] []))
  obtain ⟨T31, h31, X31, e31, E31, A31, D31, -, st31⟩ := newO X0 hx hZ hown (hw _ (List.mem_of_getElem? (i := 106) rfl)) (hw _ (List.mem_of_getElem? (i := 107) rfl)) (hw _ (List.mem_of_getElem? (i := 64) rfl)) e0 (g := (mkF m 10 #[.val (.ref r0)] [])) rfl (hb hby d9_10) (by decide) (by decide)
  obtain ⟨b31, g31⟩ : ∃ z, z = h0.size := ⟨_, rfl⟩
  rw [← g31] at A31 D31 st31
  have g_b31 : n0 ≤ b31 := Nat.le_trans Z0 (Nat.le_of_eq g31.symm)
  refine own_by st31 ?_
  show own_Comes p e below s _ _ _ (T31.setTop (mkF m 13 #[.val (.ref r0)] [(.ref b31)]))
  refine own_by (fun _ kS => XS.dup X31.here hx rfl (hb hby d9_13) rfl rfl kS) ?_
  show own_Comes p e below s _ _ _ (T31.setTop (mkF m 14 #[.val (.ref r0)] [(.ref b31), (.ref b31)]))
  refine own_by (fun _ kS => XS.aloadN X31.here hx rfl (hb hby d9_14) rfl rfl kS) ?_
  show own_Comes p e below s _ _ _ (T31.setTop (mkF m 15 #[.val (.ref r0)] [(.ref r0), (.ref b31), (.ref b31)]))
  have sz_b31 : h0.size ≤ b31 := Nat.le_of_eq g31.symm
  obtain ⟨vv32, _, ⟨T32, L32, k32, n32⟩, -, X32, ⟨Lc32, hQ32, l32, y32, z32⟩, st32⟩ := X31.specialBack hx (y := (⟨"java/util/Optional", "<init>", "(Ljava/lang/Object;)V"⟩ : MethodName)) rfl hown (mvT hZ (hw _ (List.mem_of_getElem? (i := 108) rfl))) (mvT hZ (hw _ (List.mem_of_getElem? (i := 109) rfl))) (mvT hZ (hw _ (List.mem_of_getElem? (i := 111) rfl))) (by decide) (backOf (W := 1) (rm19 l Z a0 hw [] b31 r0 h31 n0 (Nat.le_trans Z0 E31.1) A31 (D31 (Or.inr (hw _ (List.mem_of_getElem? (i := 73) rfl))) (ty := (.object "java/lang/Object")) (by decide)) g_b31) hZ (hw _ (List.mem_of_getElem? (i := 111) rfl)) (hw _ (List.mem_of_getElem? (i := 64) rfl)) (by decide) (by decide)) (g := (mkF m 15 #[.val (.ref r0)] [(.ref r0), (.ref b31), (.ref b31)])) rfl (by rw [hml]; rfl) (Steps.refl _) (a := b31) (argsL := [(.ref r0)]) (rest := [(.ref b31)]) (lenOf pd__Ljava_lang_Object__V_834 rfl) rfl (by show 2 * 0 + _ ≤ _; exact Nat.le_of_eq rfl) (hb hby d9_15) (fun _ _ => ⟨rfl, e31, (by decide : 1 + 0 ≤ _), (by decide : 1 + 0 ≤ _)⟩)
  dsimp only [Pt.U, Pt.locs, Pt.cells, Pt.slots] at X32 l32 y32 z32 st32 hQ32
  subst l32 y32 z32
  obtain ⟨rfl, N32q, K32, F32⟩ := hQ32
  have N32 := Fr.app N0 N32q
  refine own_tr st32 ?_
  show own_Comes p e below s _ _ _ (T32.setTop (mkF m 18 #[.val (.ref r0)] [(.ref b31)]))
  refine own_ret X32 (v := some (.ref b31)) (fun h => by rw [Bd.returns] at h; cases h) Bd.notSynchronized (by decide) (by decide) ?_ (fun fs hr => own_reta X32 hx Bd.returns rfl rfl (hb hby d9_18) hr)
  exact ⟨_, rfl, N32, (own_ext (((Keep.refl _ _).ext E31).trans K32 (allS (Or.inr sz_b31) all0))), (A31.keep K32), F32⟩
def Q10 (Z : State) (x : Value) (h0 : Heap) (n0 : Nat) (v : Option Value) (h : Heap) (L : List Loc) : Prop := v = some x ∧ Fr n0 L ∧ h = h0
theorem ef_rm10n (m : MethodId) (x0 : Addr) : entryFrame m #[(.ref x0), .null] 2 = mkF m 0 #[.val (.ref x0), .val .null] [] := by first | (simp [entryFrame, mkF, argsToLocals, Value.category]; done) | rfl
theorem d10_0 : decode jdk_32_method_15_code 0 = .ok (.aload_n 0, 1) := by decide +kernel
theorem d10_1 : decode jdk_32_method_15_code 1 = .ok (.getfield 13, 3) := by decide +kernel
theorem d10_4 : decode jdk_32_method_15_code 4 = .ok (.ifnull 10, 3) := by decide +kernel
theorem d10_14 : decode jdk_32_method_15_code 14 = .ok (.aload_n 1, 1) := by decide +kernel
theorem d10_15 : decode jdk_32_method_15_code 15 = .ok (.areturn, 1) := by decide +kernel
set_option maxRecDepth 65536 in
set_option maxHeartbeats 40000000 in
theorem rm10n (l : Launch) (Z : State) (a0 : Array Value) (hw : ∀ d ∈ tables_1, d.before a0 Z = true) (ws : List Jvm.Cond) (r0 : Addr) (h0 : Heap) (n0 : Nat) (Z0 : n0 ≤ h0.size) (Fv : Fld Z h0 r0 "java/util/Optional" "value" "Ljava/lang/Object;" .null) :
    MetFree l (⟨"java/util/Optional", "orElse", "(Ljava/lang/Object;)Ljava/lang/Object;"⟩ : MethodName) (head1 (Jvm.Cond.code (⟨"java/util/Optional", "orElse", "(Ljava/lang/Object;)Ljava/lang/Object;"⟩ : MethodName) jdk_32_method_15_code 2 (some (.object "java/lang/Object")) :: ws) ({ frames := 0, cells := 0, slots := 0, locals := 0 } : Room)) (fun aX UX => aX = #[(.ref r0), .null] ∧ Z.Warmed39 UX.vm ∧ UX.heap = h0) (fun _ _ _ _ _ => True) (fun _ UX oX UX' => ∃ vX LX, oX = .returned vX ∧ Q10 Z .null h0 n0 vX UX'.heap LX ∧ FrameEnd UX oX UX' LX ({ frames := 0, cells := 0, slots := 0, locals := 0 } : Room).cells ({ frames := 0, cells := 0, slots := 0, locals := 0 } : Room).slots) := by
  refine MetFree.of_bodySF (plainFor_of_name pn_java_util_Optional) hisR ?_
  intro p e s m args below meth c s₁ Bd hml0 hP hK
  obtain ⟨rfl, hZ, hh⟩ := hP
  have hx := Bd.exec
  have hby := Bd.bytes
  have hml : c.maxLocals = 2 := hml0
  have hown : s.vm.findClass "java/util/Optional" = some m.cls := findClass_of_methodNamed Bd.named
  have hnm := (name_of_methodNamed Bd.named Bd.method).1
  have X0 : Stand p l e ({ frames := 0, cells := 0, slots := 0, locals := 0 } : Room) s m #[(.ref r0), .null] below meth c s₁ [] 0 0 := Stand.of_body Bd
  have e0 : s₁.heap = h0 := by rw [← hh, Bd.state]; rfl
  have N0 := Fr.nil n0
  show own_Comes p e below s ({ frames := 0, cells := 0, slots := 0, locals := 0 } : Room).cells ({ frames := 0, cells := 0, slots := 0, locals := 0 } : Room).slots (Q10 Z .null h0 n0) _
  rw [show entryFrame m #[(.ref r0), .null] 2 = mkF m 0 #[.val (.ref r0), .val .null] [] from ef_rm10n m r0]
  show own_Comes p e below s _ _ _ (s₁.setTop (mkF m 0 #[.val (.ref r0), .val .null] []))
  refine own_by (fun _ kS => XS.aloadN X0.here hx rfl (hb hby d10_0) rfl rfl kS) ?_
  show own_Comes p e below s _ _ _ (s₁.setTop (mkF m 1 #[.val (.ref r0), .val .null] [(.ref r0)]))
  obtain ⟨T33, X33, e33, st33⟩ := getF X0 hx hZ hown (host := "") (Or.inl (hw _ (List.mem_of_getElem? (i := 72) rfl))) Via.refl e0 Fv (g := (mkF m 1 #[.val (.ref r0), .val .null] [(.ref r0)])) rfl rfl (hb hby d10_1)
  refine own_by st33 ?_
  show own_Comes p e below s _ _ _ (T33.setTop (mkF m 4 #[.val (.ref r0), .val .null] [.null]))
  refine own_by (fun _ kS => XS.ifnullYes X33.here hx rfl (pc0 := 4) (pc' := 14) rfl (hb hby d10_4) rfl (by decide) (by decide) kS) ?_
  show own_Comes p e below s _ _ _ (T33.setTop (mkF m 14 #[.val (.ref r0), .val .null] []))
  refine own_by (fun _ kS => XS.aloadN X33.here hx rfl (hb hby d10_14) rfl rfl kS) ?_
  show own_Comes p e below s _ _ _ (T33.setTop (mkF m 15 #[.val (.ref r0), .val .null] [.null]))
  refine own_ret X33 (v := some .null) (fun h => by rw [Bd.returns] at h; cases h) Bd.notSynchronized (by decide) (by decide) ?_ (fun fs hr => own_reta X33 hx Bd.returns rfl rfl (hb hby d10_15) hr)
  rw [e33]; exact ⟨rfl, N0, rfl⟩
theorem ef_rm10r (m : MethodId) (x0 : Addr) : entryFrame m #[(.ref x0), .null] 2 = mkF m 0 #[.val (.ref x0), .val .null] [] := by first | (simp [entryFrame, mkF, argsToLocals, Value.category]; done) | rfl
theorem d10_7 : decode jdk_32_method_15_code 7 = .ok (.aload_n 0, 1) := by decide +kernel
theorem d10_8 : decode jdk_32_method_15_code 8 = .ok (.getfield 13, 3) := by decide +kernel
theorem d10_11 : decode jdk_32_method_15_code 11 = .ok (.goto 4, 3) := by decide +kernel
set_option maxRecDepth 65536 in
set_option maxHeartbeats 40000000 in
theorem rm10r (l : Launch) (Z : State) (a0 : Array Value) (hw : ∀ d ∈ tables_1, d.before a0 Z = true) (ws : List Jvm.Cond) (r0 x : Addr) (h0 : Heap) (n0 : Nat) (Z0 : n0 ≤ h0.size) (Fv : Fld Z h0 r0 "java/util/Optional" "value" "Ljava/lang/Object;" (.ref x)) :
    MetFree l (⟨"java/util/Optional", "orElse", "(Ljava/lang/Object;)Ljava/lang/Object;"⟩ : MethodName) (head1 (Jvm.Cond.code (⟨"java/util/Optional", "orElse", "(Ljava/lang/Object;)Ljava/lang/Object;"⟩ : MethodName) jdk_32_method_15_code 2 (some (.object "java/lang/Object")) :: ws) ({ frames := 0, cells := 0, slots := 0, locals := 0 } : Room)) (fun aX UX => aX = #[(.ref r0), .null] ∧ Z.Warmed39 UX.vm ∧ UX.heap = h0) (fun _ _ _ _ _ => True) (fun _ UX oX UX' => ∃ vX LX, oX = .returned vX ∧ Q10 Z (.ref x) h0 n0 vX UX'.heap LX ∧ FrameEnd UX oX UX' LX ({ frames := 0, cells := 0, slots := 0, locals := 0 } : Room).cells ({ frames := 0, cells := 0, slots := 0, locals := 0 } : Room).slots) := by
  refine MetFree.of_bodySF (plainFor_of_name pn_java_util_Optional) hisR ?_
  intro p e s m args below meth c s₁ Bd hml0 hP hK
  obtain ⟨rfl, hZ, hh⟩ := hP
  have hx := Bd.exec
  have hby := Bd.bytes
  have hml : c.maxLocals = 2 := hml0
  have hown : s.vm.findClass "java/util/Optional" = some m.cls := findClass_of_methodNamed Bd.named
  have hnm := (name_of_methodNamed Bd.named Bd.method).1
  have X0 : Stand p l e ({ frames := 0, cells := 0, slots := 0, locals := 0 } : Room) s m #[(.ref r0), .null] below meth c s₁ [] 0 0 := Stand.of_body Bd
  have e0 : s₁.heap = h0 := by rw [← hh, Bd.state]; rfl
  have N0 := Fr.nil n0
  show own_Comes p e below s ({ frames := 0, cells := 0, slots := 0, locals := 0 } : Room).cells ({ frames := 0, cells := 0, slots := 0, locals := 0 } : Room).slots (Q10 Z (.ref x) h0 n0) _
  rw [show entryFrame m #[(.ref r0), .null] 2 = mkF m 0 #[.val (.ref r0), .val .null] [] from ef_rm10r m r0]
  show own_Comes p e below s _ _ _ (s₁.setTop (mkF m 0 #[.val (.ref r0), .val .null] []))
  refine own_by (fun _ kS => XS.aloadN X0.here hx rfl (hb hby d10_0) rfl rfl kS) ?_
  show own_Comes p e below s _ _ _ (s₁.setTop (mkF m 1 #[.val (.ref r0), .val .null] [(.ref r0)]))
  obtain ⟨T34, X34, e34, st34⟩ := getF X0 hx hZ hown (host := "") (Or.inl (hw _ (List.mem_of_getElem? (i := 72) rfl))) Via.refl e0 Fv (g := (mkF m 1 #[.val (.ref r0), .val .null] [(.ref r0)])) rfl rfl (hb hby d10_1)
  refine own_by st34 ?_
  show own_Comes p e below s _ _ _ (T34.setTop (mkF m 4 #[.val (.ref r0), .val .null] [(.ref x)]))
  refine own_by (fun _ kS => XS.ifnullNo X34.here hx rfl (hb hby d10_4) rfl kS) ?_
  show own_Comes p e below s _ _ _ (T34.setTop (mkF m 7 #[.val (.ref r0), .val .null] []))
  refine own_by (fun _ kS => XS.aloadN X34.here hx rfl (hb hby d10_7) rfl rfl kS) ?_
  show own_Comes p e below s _ _ _ (T34.setTop (mkF m 8 #[.val (.ref r0), .val .null] [(.ref r0)]))
  obtain ⟨T35, X35, e35, st35⟩ := getF X34 hx hZ hown (host := "") (Or.inl (hw _ (List.mem_of_getElem? (i := 72) rfl))) Via.refl e34 Fv (g := (mkF m 8 #[.val (.ref r0), .val .null] [(.ref r0)])) rfl rfl (hb hby d10_8)
  refine own_by st35 ?_
  show own_Comes p e below s _ _ _ (T35.setTop (mkF m 11 #[.val (.ref r0), .val .null] [(.ref x)]))
  refine own_by (fun _ kS => XS.goto X35.here hx rfl (pc0 := 11) (pc' := 15) rfl (hb hby d10_11) (by decide) (by decide) kS) ?_
  show own_Comes p e below s _ _ _ (T35.setTop (mkF m 15 #[.val (.ref r0), .val .null] [(.ref x)]))
  refine own_ret X35 (v := some (.ref x)) (fun h => by rw [Bd.returns] at h; cases h) Bd.notSynchronized (by decide) (by decide) ?_ (fun fs hr => own_reta X35 hx Bd.returns rfl rfl (hb hby d10_15) hr)
  rw [e35]; exact ⟨rfl, N0, rfl⟩
def Q6 (Z : State) (kv : ClassId) (u0 u1 u2 u3 : Addr) (h0 : Heap) (n0 : Nat) (v : Option Value) (h : Heap) (L : List Loc) : Prop := ∃ b : Addr, v = some (.ref b) ∧ Fr n0 L ∧ Ext h0 h ∧ Arv Z h b kv (.object "com/example/mixed_margins/mixedmargins/model/TimeUnit") (4 : Int32) [(.ref u0), (.ref u1), (.ref u2), (.ref u3)] .null
theorem ef_rm6 (m : MethodId)  : entryFrame m #[] 0 = mkF m 0 #[] [] := by first | (simp [entryFrame, mkF, argsToLocals, Value.category]; done) | rfl
theorem pn_com_example_mixed_margins_mixedmargins_model_TimeUnit : plainName "com/example/mixed_margins/mixedmargins/model/TimeUnit" = true := by first | (simp [plainName, overriddenIn]; done) | decide +kernel
theorem d6_0 : decode prog_52_method_1_code 0 = .ok (.getstatic 16, 3) := by decide +kernel
theorem d6_3 : decode prog_52_method_1_code 3 = .ok (.invokevirtual 20, 3) := by decide +kernel
theorem d6_6 : decode prog_52_method_1_code 6 = .ok (.checkcast 21, 3) := by decide +kernel
theorem d6_9 : decode prog_52_method_1_code 9 = .ok (.areturn, 1) := by decide +kernel
set_option maxRecDepth 65536 in
set_option maxHeartbeats 40000000 in
theorem rm6 (l : Launch) (Z : State) (a0 : Array Value) (hw : ∀ d ∈ tables_1, d.before a0 Z = true) (ws : List Jvm.Cond) (va : Addr) (kv : ClassId) (u0 u1 u2 u3 : Addr) (h0 : Heap) (n0 : Nat) (Z0 : n0 ≤ h0.size) (O0 : Old Z n0 h0) (Sv : Sta Z Z.heap "com/example/mixed_margins/mixedmargins/model/TimeUnit" "$VALUES" "[Lcom/example/mixed_margins/mixedmargins/model/TimeUnit;" (.ref va)) (Vv : Arv Z Z.heap va kv (.object "com/example/mixed_margins/mixedmargins/model/TimeUnit") (4 : Int32) [(.ref u0), (.ref u1), (.ref u2), (.ref u3)] .null) (Ev : Exa Z Z.heap va "[Lcom/example/mixed_margins/mixedmargins/model/TimeUnit;") :
    MetFree l (⟨"com/example/mixed_margins/mixedmargins/model/TimeUnit", "values", "()[Lcom/example/mixed_margins/mixedmargins/model/TimeUnit;"⟩ : MethodName) (head1 (Jvm.Cond.code (⟨"com/example/mixed_margins/mixedmargins/model/TimeUnit", "values", "()[Lcom/example/mixed_margins/mixedmargins/model/TimeUnit;"⟩ : MethodName) prog_52_method_1_code 0 (some (.array (.object "com/example/mixed_margins/mixedmargins/model/TimeUnit"))) :: ws) ({ frames := 1, cells := 1, slots := 4, locals := 14 } : Room)) (fun aX UX => aX = #[] ∧ Z.Warmed39 UX.vm ∧ UX.heap = h0) (fun _ _ _ _ _ => True) (fun _ UX oX UX' => ∃ vX LX, oX = .returned vX ∧ Q6 Z kv u0 u1 u2 u3 h0 n0 vX UX'.heap LX ∧ FrameEnd UX oX UX' LX ({ frames := 1, cells := 1, slots := 4, locals := 14 } : Room).cells ({ frames := 1, cells := 1, slots := 4, locals := 14 } : Room).slots) := by
  refine MetFree.of_bodySF (plainFor_of_name pn_com_example_mixed_margins_mixedmargins_model_TimeUnit) hisR ?_
  intro p e s m args below meth c s₁ Bd hml0 hP hK
  obtain ⟨rfl, hZ, hh⟩ := hP
  have hx := Bd.exec
  have hby := Bd.bytes
  have hml : c.maxLocals = 0 := hml0
  have hown : s.vm.findClass "com/example/mixed_margins/mixedmargins/model/TimeUnit" = some m.cls := findClass_of_methodNamed Bd.named
  have hnm := (name_of_methodNamed Bd.named Bd.method).1
  have X0 : Stand p l e ({ frames := 1, cells := 1, slots := 4, locals := 14 } : Room) s m #[] below meth c s₁ [] 0 0 := Stand.of_body Bd
  have e0 : s₁.heap = h0 := by rw [← hh, Bd.state]; rfl
  have N0 := Fr.nil n0
  show own_Comes p e below s ({ frames := 1, cells := 1, slots := 4, locals := 14 } : Room).cells ({ frames := 1, cells := 1, slots := 4, locals := 14 } : Room).slots (Q6 Z kv u0 u1 u2 u3 h0 n0) _
  rw [show entryFrame m #[] 0 = mkF m 0 #[] [] from ef_rm6 m ]
  show own_Comes p e below s _ _ _ (s₁.setTop (mkF m 0 #[] []))
  obtain ⟨T36, X36, e36, st36⟩ := getS2 X0 hx hZ hown (host := "") (Or.inl (hw _ (List.mem_of_getElem? (i := 33) rfl))) Via.refl e0 (Sv.ext O0.2) (g := (mkF m 0 #[] [])) rfl (hb hby d6_0)
  refine own_by st36 ?_
  show own_Comes p e below s _ _ _ (T36.setTop (mkF m 3 #[] [(.ref va)]))
  obtain ⟨T37, h37, X37, e37, E37, V37, Ea37, st37⟩ := cloneH X36 hx hZ hown (hw _ (List.mem_of_getElem? (i := 35) rfl)) (hw _ (List.mem_of_getElem? (i := 36) rfl)) (hw _ (List.mem_of_getElem? (i := 40) rfl)) (hw _ (List.mem_of_getElem? (i := 38) rfl)) (hw _ (List.mem_of_getElem? (i := 39) rfl)) (hw _ (List.mem_of_getElem? (i := 41) rfl)) e36 (hs := []) (show Arh Z h0 va kv (.object "com/example/mixed_margins/mixedmargins/model/TimeUnit") (4 : Int32) [] [(.ref u0), (.ref u1), (.ref u2), (.ref u3)] .null from (Vv.ext O0.2)) (Ev.ext O0.2) (g := (mkF m 3 #[] [(.ref va)])) rfl (by rw [hml]; rfl) rfl (hb hby d6_3) (by decide) (W := 0) (cap := 4) (by show 2 * 0 + _ ≤ _; exact Nat.le_of_eq rfl) (by decide) (by decide) (by decide) (by decide)
  obtain ⟨bb, gbb⟩ : ∃ z, z = h0.size := ⟨_, rfl⟩
  rw [← gbb] at V37 Ea37 st37
  refine own_by st37 ?_
  show own_Comes p e below s _ _ _ (T37.setTop (mkF m 6 #[] [(.ref bb)]))
  obtain ⟨T38, X38, e38, st38⟩ := castY X37 hx hZ hown (hw _ (List.mem_of_getElem? (i := 47) rfl)) e37 (Ins.self Ea37) (g := (mkF m 6 #[] [(.ref bb)])) rfl rfl (hb hby d6_6)
  refine own_by st38 ?_
  show own_Comes p e below s _ _ _ (T38.setTop (mkF m 9 #[] [(.ref bb)]))
  refine own_ret X38 (v := some (.ref bb)) (fun h => by rw [Bd.returns] at h; cases h) Bd.notSynchronized (by decide) (by decide) ?_ (fun fs hr => own_reta X38 hx Bd.returns rfl rfl (hb hby d6_9) hr)
  rw [e38]; exact ⟨_, rfl, N0, (own_ext ((Keep.refl _ []).ext E37)), V37⟩
def Q5 (Z : State) (x : Value) (h0 : Heap) (n0 : Nat) (v : Option Value) (h : Heap) (L : List Loc) : Prop := ∃ o : Addr, v = some (.ref o) ∧ Fr n0 L ∧ Ext h0 h ∧ Exa Z h o "java/util/Optional" ∧ Fld Z h o "java/util/Optional" "value" "Ljava/lang/Object;" x
theorem ef_rm5 (m : MethodId) (x0 : Addr) : entryFrame m #[(.ref x0)] 6 = mkF m 0 #[.val (.ref x0), .unset, .unset, .unset, .unset, .unset] [] := by first | (simp [entryFrame, mkF, argsToLocals, Value.category]; done) | rfl
theorem d5_0 : decode prog_52_method_4_code 0 = .ok (.aconst_null, 1) := by decide +kernel
theorem d5_1 : decode prog_52_method_4_code 1 = .ok (.astore_n 1, 1) := by decide +kernel
theorem pd____Lcom_example_mixed_margins_mixedmargins_model_TimeUnit__639 : parseMethodDescriptor "()[Lcom/example/mixed_margins/mixedmargins/model/TimeUnit;" = some ⟨[], some (.array (.object "com/example/mixed_margins/mixedmargins/model/TimeUnit"))⟩ := by decide +kernel
theorem d5_2 : decode prog_52_method_4_code 2 = .ok (.invokestatic 52, 3) := by decide +kernel
theorem d5_5 : decode prog_52_method_4_code 5 = .ok (.astore_n 2, 1) := by decide +kernel
theorem d5_6 : decode prog_52_method_4_code 6 = .ok (.aload_n 2, 1) := by decide +kernel
theorem d5_7 : decode prog_52_method_4_code 7 = .ok (.arraylength, 1) := by decide +kernel
theorem d5_8 : decode prog_52_method_4_code 8 = .ok (.istore_n 3, 1) := by decide +kernel
theorem d5_9 : decode prog_52_method_4_code 9 = .ok (.iconst 0, 1) := by decide +kernel
theorem d5_10 : decode prog_52_method_4_code 10 = .ok (.istore 4, 2) := by decide +kernel
theorem d5_12 : decode prog_52_method_4_code 12 = .ok (.iload 4, 2) := by decide +kernel
theorem d5_14 : decode prog_52_method_4_code 14 = .ok (.iload_n 3, 1) := by decide +kernel
theorem d5_15 : decode prog_52_method_4_code 15 = .ok (.if_icmp .ge 33, 3) := by decide +kernel
theorem d5_18 : decode prog_52_method_4_code 18 = .ok (.aload_n 2, 1) := by decide +kernel
theorem d5_19 : decode prog_52_method_4_code 19 = .ok (.iload 4, 2) := by decide +kernel
theorem d5_21 : decode prog_52_method_4_code 21 = .ok (.aaload, 1) := by decide +kernel
theorem d5_22 : decode prog_52_method_4_code 22 = .ok (.astore 5, 2) := by decide +kernel
theorem d5_24 : decode prog_52_method_4_code 24 = .ok (.aload 5, 2) := by decide +kernel
theorem d5_26 : decode prog_52_method_4_code 26 = .ok (.getfield 35, 3) := by decide +kernel
theorem d5_29 : decode prog_52_method_4_code 29 = .ok (.aload_n 0, 1) := by decide +kernel
theorem pd__Ljava_lang_Object__Z_838 : parseMethodDescriptor "(Ljava/lang/Object;)Z" = some ⟨[(.object "java/lang/Object")], some .boolean⟩ := by decide +kernel
theorem d5_30 : decode prog_52_method_4_code 30 = .ok (.invokevirtual 56, 3) := by decide +kernel
theorem d5_33 : decode prog_52_method_4_code 33 = .ok (.ifCond .eq 9, 3) := by decide +kernel
theorem d5_36 : decode prog_52_method_4_code 36 = .ok (.aload 5, 2) := by decide +kernel
theorem d5_38 : decode prog_52_method_4_code 38 = .ok (.astore_n 1, 1) := by decide +kernel
theorem d5_39 : decode prog_52_method_4_code 39 = .ok (.goto 9, 3) := by decide +kernel
theorem d5_48 : decode prog_52_method_4_code 48 = .ok (.aload_n 1, 1) := by decide +kernel
theorem pd__Ljava_lang_Object__Ljava_util_Optional__685 : parseMethodDescriptor "(Ljava/lang/Object;)Ljava/util/Optional;" = some ⟨[(.object "java/lang/Object")], some (.object "java/util/Optional")⟩ := by decide +kernel
theorem d5_49 : decode prog_52_method_4_code 49 = .ok (.invokestatic 62, 3) := by decide +kernel
theorem d5_52 : decode prog_52_method_4_code 52 = .ok (.areturn, 1) := by decide +kernel
theorem d5_42 : decode prog_52_method_4_code 42 = .ok (.iinc 4 1, 3) := by decide +kernel
theorem d5_45 : decode prog_52_method_4_code 45 = .ok (.goto (-33), 3) := by decide +kernel
set_option maxRecDepth 65536 in
set_option maxHeartbeats 40000000 in
theorem rm5 (l : Launch) (Z : State) (a0 : Array Value) (hw : ∀ d ∈ tables_1, d.before a0 Z = true) (ws : List Jvm.Cond) (r0 : Addr) (cs : List Int32) (va : Addr) (kv : ClassId) (u0 u1 u2 u3 y0 y1 y2 y3 em : Addr) (zc : Int32) (h0 : Heap) (n0 : Nat) (Z0 : n0 ≤ h0.size) (O0 : Old Z n0 h0) (Sv : Sta Z Z.heap "com/example/mixed_margins/mixedmargins/model/TimeUnit" "$VALUES" "[Lcom/example/mixed_margins/mixedmargins/model/TimeUnit;" (.ref va)) (Vv : Arv Z Z.heap va kv (.object "com/example/mixed_margins/mixedmargins/model/TimeUnit") (4 : Int32) [(.ref u0), (.ref u1), (.ref u2), (.ref u3)] .null) (Ev : Exa Z Z.heap va "[Lcom/example/mixed_margins/mixedmargins/model/TimeUnit;") (Fs_u0 : Fld Z Z.heap u0 "com/example/mixed_margins/mixedmargins/model/TimeUnit" "symbol" "Ljava/lang/String;" (.ref y0)) (Ss_u0 : own_Str Z Z.heap y0 [115]) (Fs_u1 : Fld Z Z.heap u1 "com/example/mixed_margins/mixedmargins/model/TimeUnit" "symbol" "Ljava/lang/String;" (.ref y1)) (Ss_u1 : own_Str Z Z.heap y1 [109, 115]) (Fs_u2 : Fld Z Z.heap u2 "com/example/mixed_margins/mixedmargins/model/TimeUnit" "symbol" "Ljava/lang/String;" (.ref y2)) (Ss_u2 : own_Str Z Z.heap y2 [117, 115]) (Fs_u3 : Fld Z Z.heap u3 "com/example/mixed_margins/mixedmargins/model/TimeUnit" "symbol" "Ljava/lang/String;" (.ref y3)) (Ss_u3 : own_Str Z Z.heap y3 [110, 115]) (Sm : Sta Z Z.heap "java/util/Optional" "EMPTY" "Ljava/util/Optional;" (.ref em)) (Em : Exa Z Z.heap em "java/util/Optional") (Fm : Fld Z Z.heap em "java/util/Optional" "value" "Ljava/lang/Object;" .null) (Sz : Sta Z Z.heap "java/lang/String" "COMPACT_STRINGS" "Z" (.int zc)) (hzc : ¬ zc = 0) (hY : own_Str Z h0 r0 cs) :
    MetFree l (⟨"com/example/mixed_margins/mixedmargins/model/TimeUnit", "ofSymbol", "(Ljava/lang/String;)Ljava/util/Optional;"⟩ : MethodName) (head1 (Jvm.Cond.code (⟨"com/example/mixed_margins/mixedmargins/model/TimeUnit", "ofSymbol", "(Ljava/lang/String;)Ljava/util/Optional;"⟩ : MethodName) prog_52_method_4_code 6 (some (.object "java/util/Optional")) :: ws) ({ frames := 3, cells := 2, slots := 5, locals := 38 } : Room)) (fun aX UX => aX = #[(.ref r0)] ∧ Z.Warmed39 UX.vm ∧ UX.heap = h0) (fun _ _ _ _ _ => True) (fun _ UX oX UX' => ∃ vX LX, oX = .returned vX ∧ Q5 Z (own_unit cs u0 u1 u2 u3) h0 n0 vX UX'.heap LX ∧ FrameEnd UX oX UX' LX ({ frames := 3, cells := 2, slots := 5, locals := 38 } : Room).cells ({ frames := 3, cells := 2, slots := 5, locals := 38 } : Room).slots) := by
  refine MetFree.of_bodySF (plainFor_of_name pn_com_example_mixed_margins_mixedmargins_model_TimeUnit) hisR ?_
  intro p e s m args below meth c s₁ Bd hml0 hP hK
  obtain ⟨rfl, hZ, hh⟩ := hP
  have hx := Bd.exec
  have hby := Bd.bytes
  have hml : c.maxLocals = 6 := hml0
  have hown : s.vm.findClass "com/example/mixed_margins/mixedmargins/model/TimeUnit" = some m.cls := findClass_of_methodNamed Bd.named
  have hnm := (name_of_methodNamed Bd.named Bd.method).1
  have X0 : Stand p l e ({ frames := 3, cells := 2, slots := 5, locals := 38 } : Room) s m #[(.ref r0)] below meth c s₁ [] 0 0 := Stand.of_body Bd
  have e0 : s₁.heap = h0 := by rw [← hh, Bd.state]; rfl
  have N0 := Fr.nil n0
  show own_Comes p e below s ({ frames := 3, cells := 2, slots := 5, locals := 38 } : Room).cells ({ frames := 3, cells := 2, slots := 5, locals := 38 } : Room).slots (Q5 Z (own_unit cs u0 u1 u2 u3) h0 n0) _
  rw [show entryFrame m #[(.ref r0)] 6 = mkF m 0 #[.val (.ref r0), .unset, .unset, .unset, .unset, .unset] [] from ef_rm5 m r0]
  show own_Comes p e below s _ _ _ (s₁.setTop (mkF m 0 #[.val (.ref r0), .unset, .unset, .unset, .unset, .unset] []))
  have hws : ∀ d ∈ StrChars.Road.wordsEq, d.before a0 Z = true := fun d hd => hw d ((by decide +kernel : ∀ d ∈ StrChars.Road.wordsEq, d ∈ tables_1) d hd)
  obtain ⟨Er, tr, kr, Nr, vr, Vr, Cr, Ar, Hr, Br, Lr⟩ := hY
  obtain ⟨E_y0, t_y0, k_y0, N_y0, v_y0, V_y0, C_y0, A_y0, H_y0, B_y0, L_y0⟩ := Ss_u0
  obtain ⟨E_y1, t_y1, k_y1, N_y1, v_y1, V_y1, C_y1, A_y1, H_y1, B_y1, L_y1⟩ := Ss_u1
  obtain ⟨E_y2, t_y2, k_y2, N_y2, v_y2, V_y2, C_y2, A_y2, H_y2, B_y2, L_y2⟩ := Ss_u2
  obtain ⟨E_y3, t_y3, k_y3, N_y3, v_y3, V_y3, C_y3, A_y3, H_y3, B_y3, L_y3⟩ := Ss_u3
  refine own_by (fun _ kS => XS.aconstNull X0.here hx rfl (hb hby d5_0) kS) ?_
  show own_Comes p e below s _ _ _ (s₁.setTop (mkF m 1 #[.val (.ref r0), .unset, .unset, .unset, .unset, .unset] [.null]))
  refine own_by (fun _ kS => XS.astoreN X0.here hx rfl (hb hby d5_1) rfl rfl (l' := #[.val (.ref r0), .val .null, .unset, .unset, .unset, .unset]) rfl kS) ?_
  show own_Comes p e below s _ _ _ (s₁.setTop (mkF m 2 #[.val (.ref r0), .val .null, .unset, .unset, .unset, .unset] []))
  obtain ⟨vv39, _, ⟨T39, L39, k39, n39⟩, -, X39, ⟨Lc39, hQ39, l39, y39, z39⟩, st39⟩ := Jvm.LawKit.callS X0 hx (y := (⟨"com/example/mixed_margins/mixedmargins/model/TimeUnit", "values", "()[Lcom/example/mixed_margins/mixedmargins/model/TimeUnit;"⟩ : MethodName)) hown (mvT hZ (hw _ (List.mem_of_getElem? (i := 30) rfl))) (mvT hZ (hw _ (List.mem_of_getElem? (i := 31) rfl))) (mvT hZ (hw _ (List.mem_of_getElem? (i := 28) rfl))) (mvT hZ (hw _ (List.mem_of_getElem? (i := 32) rfl))) (by decide) (backOf (W := 0) (rm6 l Z a0 hw [] va kv u0 u1 u2 u3 h0 n0 Z0 O0 Sv Vv Ev) hZ (hw _ (List.mem_of_getElem? (i := 32) rfl)) (hw _ (List.mem_of_getElem? (i := 28) rfl)) (by decide) (by decide)) (g := (mkF m 2 #[.val (.ref r0), .val .null, .unset, .unset, .unset, .unset] [])) rfl (by rw [hml]; rfl) (argsL := []) (rest := []) (lenOf pd____Lcom_example_mixed_margins_mixedmargins_model_TimeUnit__639 rfl) rfl (by show 2 * 0 + _ ≤ _; exact Nat.le_of_eq rfl) (hb hby d5_2) (fun _ _ => ⟨rfl, e0, (by decide : 0 + 1 ≤ _), (by decide : 0 + 4 ≤ _)⟩)
  dsimp only [Pt.U, Pt.locs, Pt.cells, Pt.slots] at X39 l39 y39 z39 st39 hQ39
  subst l39 y39 z39
  obtain ⟨b39, rfl, N39q, E39, V39⟩ := hQ39
  have N39 := Fr.app N0 N39q
  refine own_by st39 ?_
  show own_Comes p e below s _ _ _ (T39.setTop (mkF m 5 #[.val (.ref r0), .val .null, .unset, .unset, .unset, .unset] [(.ref b39)]))
  refine own_by (fun _ kS => XS.astoreN X39.here hx rfl (hb hby d5_5) rfl rfl (l' := #[.val (.ref r0), .val .null, .val (.ref b39), .unset, .unset, .unset]) rfl kS) ?_
  show own_Comes p e below s _ _ _ (T39.setTop (mkF m 6 #[.val (.ref r0), .val .null, .val (.ref b39), .unset, .unset, .unset] []))
  refine own_by (fun _ kS => XS.aloadN X39.here hx rfl (hb hby d5_6) rfl rfl kS) ?_
  show own_Comes p e below s _ _ _ (T39.setTop (mkF m 7 #[.val (.ref r0), .val .null, .val (.ref b39), .unset, .unset, .unset] [(.ref b39)]))
  have Vo40 := V39
  obtain ⟨cl40, Ar40, qA40, SA40, NA40, HA40, GA40⟩ := Vo40
  refine own_by (fun _ kS => X39.arraylength hx (by exact Ar40.1) (State.isArrayOf_alike hZ.alike Ar40.2.1) (g := (mkF m 7 #[.val (.ref r0), .val .null, .val (.ref b39), .unset, .unset, .unset] [(.ref b39)])) rfl rfl (hb hby d5_7) _ kS) ?_
  rw [len_of SA40 NA40]
  show own_Comes p e below s _ _ _ (T39.setTop (mkF m 8 #[.val (.ref r0), .val .null, .val (.ref b39), .unset, .unset, .unset] [(.int (4 : Int32))]))
  refine own_by (fun _ kS => XS.istoreN X39.here hx rfl (hb hby d5_8) rfl (l' := #[.val (.ref r0), .val .null, .val (.ref b39), .val (.int (4 : Int32)), .unset, .unset]) rfl kS) ?_
  show own_Comes p e below s _ _ _ (T39.setTop (mkF m 9 #[.val (.ref r0), .val .null, .val (.ref b39), .val (.int (4 : Int32)), .unset, .unset] []))
  refine own_by (fun _ kS => XS.iconst X39.here hx rfl (hb hby d5_9) kS) ?_
  show own_Comes p e below s _ _ _ (T39.setTop (mkF m 10 #[.val (.ref r0), .val .null, .val (.ref b39), .val (.int (4 : Int32)), .unset, .unset] [(.int (0 : Int32))]))
  refine own_by (fun _ kS => XS.istore X39.here hx rfl (hb hby d5_10) rfl (l' := #[.val (.ref r0), .val .null, .val (.ref b39), .val (.int (4 : Int32)), .val (.int (0 : Int32)), .unset]) rfl kS) ?_
  show own_Comes p e below s _ _ _ (T39.setTop (mkF m 12 #[.val (.ref r0), .val .null, .val (.ref b39), .val (.int (4 : Int32)), .val (.int (0 : Int32)), .unset] []))
  refine own_by (fun _ kS => XS.iload X39.here hx rfl (hb hby d5_12) rfl kS) ?_
  show own_Comes p e below s _ _ _ (T39.setTop (mkF m 14 #[.val (.ref r0), .val .null, .val (.ref b39), .val (.int (4 : Int32)), .val (.int (0 : Int32)), .unset] [(.int (0 : Int32))]))
  refine own_by (fun _ kS => XS.iloadN X39.here hx rfl (hb hby d5_14) rfl kS) ?_
  show own_Comes p e below s _ _ _ (T39.setTop (mkF m 15 #[.val (.ref r0), .val .null, .val (.ref b39), .val (.int (4 : Int32)), .val (.int (0 : Int32)), .unset] [(.int (4 : Int32)), (.int (0 : Int32))]))
  have hb41 : (0 : Int32) < (4 : Int32) := by decide
  refine own_by (fun _ kS => XS.icmpNo X39.here hx rfl (hb hby d5_15) rfl (tlt hb41).2.1 kS) ?_
  show own_Comes p e below s _ _ _ (T39.setTop (mkF m 18 #[.val (.ref r0), .val .null, .val (.ref b39), .val (.int (4 : Int32)), .val (.int (0 : Int32)), .unset] []))
  refine own_by (fun _ kS => XS.aloadN X39.here hx rfl (hb hby d5_18) rfl rfl kS) ?_
  show own_Comes p e below s _ _ _ (T39.setTop (mkF m 19 #[.val (.ref r0), .val .null, .val (.ref b39), .val (.int (4 : Int32)), .val (.int (0 : Int32)), .unset] [(.ref b39)]))
  refine own_by (fun _ kS => XS.iload X39.here hx rfl (hb hby d5_19) rfl kS) ?_
  show own_Comes p e below s _ _ _ (T39.setTop (mkF m 21 #[.val (.ref r0), .val .null, .val (.ref b39), .val (.int (4 : Int32)), .val (.int (0 : Int32)), .unset] [(.int (0 : Int32)), (.ref b39)]))
  have Vo42 := V39
  obtain ⟨cl42, Ar42, qA42, SA42, NA42, HA42, GA42⟩ := Vo42
  have hin42 : ¬ ((0 : Int32) < 0 ∨ cl42.slots.size ≤ ((0 : Int32)).toNatClampNeg) := inb_of SA42 ⟨by decide, by decide⟩
  have hat42 : cl42.slots[((0 : Int32)).toNatClampNeg]? = some (.ref u0) := HA42.at hin42 rfl
  refine own_by (fun _ kS => X39.aaload hx (j := (0 : Int32)) (v := (.ref u0)) (by exact Ar42.1) (State.isArrayOf_alike hZ.alike Ar42.2.1) rfl Ar42.2.2 hin42 hat42 (g := (mkF m 21 #[.val (.ref r0), .val .null, .val (.ref b39), .val (.int (4 : Int32)), .val (.int (0 : Int32)), .unset] [(.int (0 : Int32)), (.ref b39)])) rfl rfl (hb hby d5_21) _ kS) ?_
  show own_Comes p e below s _ _ _ (T39.setTop (mkF m 22 #[.val (.ref r0), .val .null, .val (.ref b39), .val (.int (4 : Int32)), .val (.int (0 : Int32)), .unset] [(.ref u0)]))
  refine own_by (fun _ kS => XS.astore X39.here hx rfl (hb hby d5_22) rfl rfl (l' := #[.val (.ref r0), .val .null, .val (.ref b39), .val (.int (4 : Int32)), .val (.int (0 : Int32)), .val (.ref u0)]) rfl kS) ?_
  show own_Comes p e below s _ _ _ (T39.setTop (mkF m 24 #[.val (.ref r0), .val .null, .val (.ref b39), .val (.int (4 : Int32)), .val (.int (0 : Int32)), .val (.ref u0)] []))
  refine own_by (fun _ kS => XS.aload X39.here hx rfl (hb hby d5_24) rfl rfl kS) ?_
  show own_Comes p e below s _ _ _ (T39.setTop (mkF m 26 #[.val (.ref r0), .val .null, .val (.ref b39), .val (.int (4 : Int32)), .val (.int (0 : Int32)), .val (.ref u0)] [(.ref u0)]))
  obtain ⟨T43, X43, e43, st43⟩ := getF X39 hx hZ hown (host := "") (Or.inl (hw _ (List.mem_of_getElem? (i := 49) rfl))) Via.refl rfl (Fs_u0.ext (O0.ext E39).2) (g := (mkF m 26 #[.val (.ref r0), .val .null, .val (.ref b39), .val (.int (4 : Int32)), .val (.int (0 : Int32)), .val (.ref u0)] [(.ref u0)])) rfl rfl (hb hby d5_26)
  refine own_by st43 ?_
  show own_Comes p e below s _ _ _ (T43.setTop (mkF m 29 #[.val (.ref r0), .val .null, .val (.ref b39), .val (.int (4 : Int32)), .val (.int (0 : Int32)), .val (.ref u0)] [(.ref y0)]))
  refine own_by (fun _ kS => XS.aloadN X43.here hx rfl (hb hby d5_29) rfl rfl kS) ?_
  show own_Comes p e below s _ _ _ (T43.setTop (mkF m 30 #[.val (.ref r0), .val .null, .val (.ref b39), .val (.int (4 : Int32)), .val (.int (0 : Int32)), .val (.ref u0)] [(.ref r0), (.ref y0)]))
  obtain ⟨cq44, kq44, q44a, q44b, q44c⟩ := isOf hZ e43 (E_y0.ext (O0.ext E39).2)
  obtain ⟨vv44, _, ⟨T44, L44, k44, n44⟩, -, X44, ⟨Lc44, hQ44, l44, y44, z44⟩, st44⟩ := X43.virtualBack hx (y := (⟨"java/lang/String", "equals", "(Ljava/lang/Object;)Z"⟩ : MethodName)) (z := (⟨"java/lang/String", "equals", "(Ljava/lang/Object;)Z"⟩ : MethodName)) hown (mvT hZ (hw _ (List.mem_of_getElem? (i := 51) rfl))) (mvT hZ (hw _ (List.mem_of_getElem? (i := 52) rfl))) (notFace_of_selects (args := #[]) (mvT hZ (hw _ (List.mem_of_getElem? (i := 54) rfl)))) (mvT hZ (hw _ (List.mem_of_getElem? (i := 54) rfl))) (mvT hZ (hw _ (List.mem_of_getElem? (i := 53) rfl))) (by decide) (StrChars.Road.eqW (W := 0) hZ hws (kI := 4) (hw _ (List.mem_of_getElem? (i := 5) rfl)) (cs := [115]) (ds := cs) (E_y0.ext (O0.ext E39).2) (V_y0.ext (O0.ext E39).2) (C_y0.ext (O0.ext E39).2) (A_y0.ext (O0.ext E39).2) H_y0 B_y0 L_y0 (Er.ext E39) (Vr.ext E39) (Cr.ext E39) (Ar.ext E39) Hr Br Lr (Sz.ext (O0.ext E39).2) hzc (by decide) (by decide)) q44a q44c (g := (mkF m 30 #[.val (.ref r0), .val .null, .val (.ref b39), .val (.int (4 : Int32)), .val (.int (0 : Int32)), .val (.ref u0)] [(.ref r0), (.ref y0)])) rfl (by rw [hml]; rfl) (Steps.refl _) (argsL := [(.ref r0)]) (rest := []) (lenOf pd__Ljava_lang_Object__Z_838 rfl) rfl (by show 2 * 0 + _ ≤ _; exact Nat.le_of_eq rfl) (hb hby d5_30) (fun _ _ => ⟨rfl, e43, (by decide : 1 + 0 ≤ _), (by decide : 4 + 0 ≤ _)⟩)
  dsimp only [Pt.U, Pt.locs, Pt.cells, Pt.slots] at X44 l44 y44 z44 st44 hQ44
  subst l44 y44 z44
  obtain ⟨hv44, rfl, e44q⟩ := hQ44
  have N44q := Fr.nil n0
  have N44 := Fr.app N39 N44q
  refine own_tr st44 ?_
  have e44 : T44.heap = T39.heap := e44q
  rcases hv44 with ⟨rfl, hq0⟩ | ⟨rfl, hq0⟩
  · show own_Comes p e below s _ _ _ (T44.setTop (mkF m 33 #[.val (.ref r0), .val .null, .val (.ref b39), .val (.int (4 : Int32)), .val (.int (0 : Int32)), .val (.ref u0)] [(.int (1 : Int32))]))
    have hb45 : ¬ ((1 : Int32) = (0 : Int32)) := by decide
    refine own_by (fun _ kS => XS.ifNo X44.here hx rfl (hb hby d5_33) rfl ((if0 _ _).trans (feq hb45).1) kS) ?_
    show own_Comes p e below s _ _ _ (T44.setTop (mkF m 36 #[.val (.ref r0), .val .null, .val (.ref b39), .val (.int (4 : Int32)), .val (.int (0 : Int32)), .val (.ref u0)] []))
    refine own_by (fun _ kS => XS.aload X44.here hx rfl (hb hby d5_36) rfl rfl kS) ?_
    show own_Comes p e below s _ _ _ (T44.setTop (mkF m 38 #[.val (.ref r0), .val .null, .val (.ref b39), .val (.int (4 : Int32)), .val (.int (0 : Int32)), .val (.ref u0)] [(.ref u0)]))
    refine own_by (fun _ kS => XS.astoreN X44.here hx rfl (hb hby d5_38) rfl rfl (l' := #[.val (.ref r0), .val (.ref u0), .val (.ref b39), .val (.int (4 : Int32)), .val (.int (0 : Int32)), .val (.ref u0)]) rfl kS) ?_
    show own_Comes p e below s _ _ _ (T44.setTop (mkF m 39 #[.val (.ref r0), .val (.ref u0), .val (.ref b39), .val (.int (4 : Int32)), .val (.int (0 : Int32)), .val (.ref u0)] []))
    refine own_by (fun _ kS => XS.goto X44.here hx rfl (pc0 := 39) (pc' := 48) rfl (hb hby d5_39) (by decide) (by decide) kS) ?_
    show own_Comes p e below s _ _ _ (T44.setTop (mkF m 48 #[.val (.ref r0), .val (.ref u0), .val (.ref b39), .val (.int (4 : Int32)), .val (.int (0 : Int32)), .val (.ref u0)] []))
    refine own_by (fun _ kS => XS.aloadN X44.here hx rfl (hb hby d5_48) rfl rfl kS) ?_
    show own_Comes p e below s _ _ _ (T44.setTop (mkF m 49 #[.val (.ref r0), .val (.ref u0), .val (.ref b39), .val (.int (4 : Int32)), .val (.int (0 : Int32)), .val (.ref u0)] [(.ref u0)]))
    obtain ⟨vv46, _, ⟨T46, L46, k46, n46⟩, -, X46, ⟨Lc46, hQ46, l46, y46, z46⟩, st46⟩ := Jvm.LawKit.callS X44 hx (y := (⟨"java/util/Optional", "ofNullable", "(Ljava/lang/Object;)Ljava/util/Optional;"⟩ : MethodName)) hown (mvT hZ (hw _ (List.mem_of_getElem? (i := 62) rfl))) (mvT hZ (hw _ (List.mem_of_getElem? (i := 63) rfl))) (mvT hZ (hw _ (List.mem_of_getElem? (i := 64) rfl))) (mvT hZ (hw _ (List.mem_of_getElem? (i := 65) rfl))) (by decide) (backOf (W := 0) (rm9r l Z a0 hw [] u0 T39.heap n0 (Nat.le_trans Z0 E39.1)) hZ (hw _ (List.mem_of_getElem? (i := 65) rfl)) (hw _ (List.mem_of_getElem? (i := 64) rfl)) (by decide) (by decide)) (g := (mkF m 49 #[.val (.ref r0), .val (.ref u0), .val (.ref b39), .val (.int (4 : Int32)), .val (.int (0 : Int32)), .val (.ref u0)] [(.ref u0)])) rfl (by rw [hml]; rfl) (argsL := [(.ref u0)]) (rest := []) (lenOf pd__Ljava_lang_Object__Ljava_util_Optional__685 rfl) rfl (by show 2 * 0 + _ ≤ _; exact Nat.le_of_eq rfl) (hb hby d5_49) (fun _ _ => ⟨rfl, e44, (by decide : 1 + 1 ≤ _), (by decide : 4 + 1 ≤ _)⟩)
    dsimp only [Pt.U, Pt.locs, Pt.cells, Pt.slots] at X46 l46 y46 z46 st46 hQ46
    subst l46 y46 z46
    obtain ⟨o46, rfl, N46q, E46, Eo46, Fo46⟩ := hQ46
    have N46 := Fr.app N44 N46q
    refine own_by st46 ?_
    show own_Comes p e below s _ _ _ (T46.setTop (mkF m 52 #[.val (.ref r0), .val (.ref u0), .val (.ref b39), .val (.int (4 : Int32)), .val (.int (0 : Int32)), .val (.ref u0)] [(.ref o46)]))
    have hun : own_unit cs u0 u1 u2 u3 = (.ref u0) := by simp only [own_unit]; rw [if_pos hq0]
    refine own_ret X46 (v := some (.ref o46)) (fun h => by rw [Bd.returns] at h; cases h) Bd.notSynchronized (by decide) (by decide) ?_ (fun fs hr => own_reta X46 hx Bd.returns rfl rfl (hb hby d5_52) hr)
    exact ⟨_, rfl, N46, (own_ext (((Keep.refl _ []).ext E39).ext E46)), Eo46, by rw [hun]; exact Fo46⟩
  · show own_Comes p e below s _ _ _ (T44.setTop (mkF m 33 #[.val (.ref r0), .val .null, .val (.ref b39), .val (.int (4 : Int32)), .val (.int (0 : Int32)), .val (.ref u0)] [(.int (0 : Int32))]))
    have hb47 : (0 : Int32) = (0 : Int32) := by decide
    refine own_by (fun _ kS => XS.ifYes X44.here hx rfl (pc0 := 33) (pc' := 42) rfl (hb hby d5_33) rfl ((if0 _ _).trans (teq hb47).1) (by decide) (by decide) kS) ?_
    show own_Comes p e below s _ _ _ (T44.setTop (mkF m 42 #[.val (.ref r0), .val .null, .val (.ref b39), .val (.int (4 : Int32)), .val (.int (0 : Int32)), .val (.ref u0)] []))
    refine own_by (fun _ kS => XS.iinc X44.here hx rfl (hb hby d5_42) rfl (l' := #[.val (.ref r0), .val .null, .val (.ref b39), .val (.int (4 : Int32)), .val (.int ((0 : Int32) + (1 : Int32))), .val (.ref u0)]) rfl kS) ?_
    show own_Comes p e below s _ _ _ (T44.setTop (mkF m 45 #[.val (.ref r0), .val .null, .val (.ref b39), .val (.int (4 : Int32)), .val (.int ((0 : Int32) + (1 : Int32))), .val (.ref u0)] []))
    rw [show ((0 : Int32) + (1 : Int32)) = (1 : Int32) from by decide]
    show own_Comes p e below s _ _ _ (T44.setTop (mkF m 45 #[.val (.ref r0), .val .null, .val (.ref b39), .val (.int (4 : Int32)), .val (.int (1 : Int32)), .val (.ref u0)] []))
    refine own_by (fun _ kS => XS.goto X44.here hx rfl (pc0 := 45) (pc' := 12) rfl (hb hby d5_45) (by decide) (by decide) kS) ?_
    show own_Comes p e below s _ _ _ (T44.setTop (mkF m 12 #[.val (.ref r0), .val .null, .val (.ref b39), .val (.int (4 : Int32)), .val (.int (1 : Int32)), .val (.ref u0)] []))
    refine own_by (fun _ kS => XS.iload X44.here hx rfl (hb hby d5_12) rfl kS) ?_
    show own_Comes p e below s _ _ _ (T44.setTop (mkF m 14 #[.val (.ref r0), .val .null, .val (.ref b39), .val (.int (4 : Int32)), .val (.int (1 : Int32)), .val (.ref u0)] [(.int (1 : Int32))]))
    refine own_by (fun _ kS => XS.iloadN X44.here hx rfl (hb hby d5_14) rfl kS) ?_
    show own_Comes p e below s _ _ _ (T44.setTop (mkF m 15 #[.val (.ref r0), .val .null, .val (.ref b39), .val (.int (4 : Int32)), .val (.int (1 : Int32)), .val (.ref u0)] [(.int (4 : Int32)), (.int (1 : Int32))]))
    have hb48 : (1 : Int32) < (4 : Int32) := by decide
    refine own_by (fun _ kS => XS.icmpNo X44.here hx rfl (hb hby d5_15) rfl (tlt hb48).2.1 kS) ?_
    show own_Comes p e below s _ _ _ (T44.setTop (mkF m 18 #[.val (.ref r0), .val .null, .val (.ref b39), .val (.int (4 : Int32)), .val (.int (1 : Int32)), .val (.ref u0)] []))
    refine own_by (fun _ kS => XS.aloadN X44.here hx rfl (hb hby d5_18) rfl rfl kS) ?_
    show own_Comes p e below s _ _ _ (T44.setTop (mkF m 19 #[.val (.ref r0), .val .null, .val (.ref b39), .val (.int (4 : Int32)), .val (.int (1 : Int32)), .val (.ref u0)] [(.ref b39)]))
    refine own_by (fun _ kS => XS.iload X44.here hx rfl (hb hby d5_19) rfl kS) ?_
    show own_Comes p e below s _ _ _ (T44.setTop (mkF m 21 #[.val (.ref r0), .val .null, .val (.ref b39), .val (.int (4 : Int32)), .val (.int (1 : Int32)), .val (.ref u0)] [(.int (1 : Int32)), (.ref b39)]))
    have Vo49 := V39
    obtain ⟨cl49, Ar49, qA49, SA49, NA49, HA49, GA49⟩ := Vo49
    have hin49 : ¬ ((1 : Int32) < 0 ∨ cl49.slots.size ≤ ((1 : Int32)).toNatClampNeg) := inb_of SA49 ⟨by decide, by decide⟩
    have hat49 : cl49.slots[((1 : Int32)).toNatClampNeg]? = some (.ref u1) := HA49.at hin49 rfl
    refine own_by (fun _ kS => X44.aaload hx (j := (1 : Int32)) (v := (.ref u1)) (by rw [e44]; exact Ar49.1) (State.isArrayOf_alike hZ.alike Ar49.2.1) rfl Ar49.2.2 hin49 hat49 (g := (mkF m 21 #[.val (.ref r0), .val .null, .val (.ref b39), .val (.int (4 : Int32)), .val (.int (1 : Int32)), .val (.ref u0)] [(.int (1 : Int32)), (.ref b39)])) rfl rfl (hb hby d5_21) _ kS) ?_
    show own_Comes p e below s _ _ _ (T44.setTop (mkF m 22 #[.val (.ref r0), .val .null, .val (.ref b39), .val (.int (4 : Int32)), .val (.int (1 : Int32)), .val (.ref u0)] [(.ref u1)]))
    refine own_by (fun _ kS => XS.astore X44.here hx rfl (hb hby d5_22) rfl rfl (l' := #[.val (.ref r0), .val .null, .val (.ref b39), .val (.int (4 : Int32)), .val (.int (1 : Int32)), .val (.ref u1)]) rfl kS) ?_
    show own_Comes p e below s _ _ _ (T44.setTop (mkF m 24 #[.val (.ref r0), .val .null, .val (.ref b39), .val (.int (4 : Int32)), .val (.int (1 : Int32)), .val (.ref u1)] []))
    refine own_by (fun _ kS => XS.aload X44.here hx rfl (hb hby d5_24) rfl rfl kS) ?_
    show own_Comes p e below s _ _ _ (T44.setTop (mkF m 26 #[.val (.ref r0), .val .null, .val (.ref b39), .val (.int (4 : Int32)), .val (.int (1 : Int32)), .val (.ref u1)] [(.ref u1)]))
    obtain ⟨T50, X50, e50, st50⟩ := getF X44 hx hZ hown (host := "") (Or.inl (hw _ (List.mem_of_getElem? (i := 49) rfl))) Via.refl e44 (Fs_u1.ext (O0.ext E39).2) (g := (mkF m 26 #[.val (.ref r0), .val .null, .val (.ref b39), .val (.int (4 : Int32)), .val (.int (1 : Int32)), .val (.ref u1)] [(.ref u1)])) rfl rfl (hb hby d5_26)
    refine own_by st50 ?_
    show own_Comes p e below s _ _ _ (T50.setTop (mkF m 29 #[.val (.ref r0), .val .null, .val (.ref b39), .val (.int (4 : Int32)), .val (.int (1 : Int32)), .val (.ref u1)] [(.ref y1)]))
    refine own_by (fun _ kS => XS.aloadN X50.here hx rfl (hb hby d5_29) rfl rfl kS) ?_
    show own_Comes p e below s _ _ _ (T50.setTop (mkF m 30 #[.val (.ref r0), .val .null, .val (.ref b39), .val (.int (4 : Int32)), .val (.int (1 : Int32)), .val (.ref u1)] [(.ref r0), (.ref y1)]))
    obtain ⟨cq51, kq51, q51a, q51b, q51c⟩ := isOf hZ e50 (E_y1.ext (O0.ext E39).2)
    obtain ⟨vv51, _, ⟨T51, L51, k51, n51⟩, -, X51, ⟨Lc51, hQ51, l51, y51, z51⟩, st51⟩ := X50.virtualBack hx (y := (⟨"java/lang/String", "equals", "(Ljava/lang/Object;)Z"⟩ : MethodName)) (z := (⟨"java/lang/String", "equals", "(Ljava/lang/Object;)Z"⟩ : MethodName)) hown (mvT hZ (hw _ (List.mem_of_getElem? (i := 51) rfl))) (mvT hZ (hw _ (List.mem_of_getElem? (i := 52) rfl))) (notFace_of_selects (args := #[]) (mvT hZ (hw _ (List.mem_of_getElem? (i := 54) rfl)))) (mvT hZ (hw _ (List.mem_of_getElem? (i := 54) rfl))) (mvT hZ (hw _ (List.mem_of_getElem? (i := 53) rfl))) (by decide) (StrChars.Road.eqW (W := 0) hZ hws (kI := 4) (hw _ (List.mem_of_getElem? (i := 5) rfl)) (cs := [109, 115]) (ds := cs) (E_y1.ext (O0.ext E39).2) (V_y1.ext (O0.ext E39).2) (C_y1.ext (O0.ext E39).2) (A_y1.ext (O0.ext E39).2) H_y1 B_y1 L_y1 (Er.ext E39) (Vr.ext E39) (Cr.ext E39) (Ar.ext E39) Hr Br Lr (Sz.ext (O0.ext E39).2) hzc (by decide) (by decide)) q51a q51c (g := (mkF m 30 #[.val (.ref r0), .val .null, .val (.ref b39), .val (.int (4 : Int32)), .val (.int (1 : Int32)), .val (.ref u1)] [(.ref r0), (.ref y1)])) rfl (by rw [hml]; rfl) (Steps.refl _) (argsL := [(.ref r0)]) (rest := []) (lenOf pd__Ljava_lang_Object__Z_838 rfl) rfl (by show 2 * 0 + _ ≤ _; exact Nat.le_of_eq rfl) (hb hby d5_30) (fun _ _ => ⟨rfl, e50, (by decide : 1 + 0 ≤ _), (by decide : 4 + 0 ≤ _)⟩)
    dsimp only [Pt.U, Pt.locs, Pt.cells, Pt.slots] at X51 l51 y51 z51 st51 hQ51
    subst l51 y51 z51
    obtain ⟨hv51, rfl, e51q⟩ := hQ51
    have N51q := Fr.nil n0
    have N51 := Fr.app N44 N51q
    refine own_tr st51 ?_
    have e51 : T51.heap = T39.heap := e51q
    rcases hv51 with ⟨rfl, hq1⟩ | ⟨rfl, hq1⟩
    · show own_Comes p e below s _ _ _ (T51.setTop (mkF m 33 #[.val (.ref r0), .val .null, .val (.ref b39), .val (.int (4 : Int32)), .val (.int (1 : Int32)), .val (.ref u1)] [(.int (1 : Int32))]))
      have hb52 : ¬ ((1 : Int32) = (0 : Int32)) := by decide
      refine own_by (fun _ kS => XS.ifNo X51.here hx rfl (hb hby d5_33) rfl ((if0 _ _).trans (feq hb52).1) kS) ?_
      show own_Comes p e below s _ _ _ (T51.setTop (mkF m 36 #[.val (.ref r0), .val .null, .val (.ref b39), .val (.int (4 : Int32)), .val (.int (1 : Int32)), .val (.ref u1)] []))
      refine own_by (fun _ kS => XS.aload X51.here hx rfl (hb hby d5_36) rfl rfl kS) ?_
      show own_Comes p e below s _ _ _ (T51.setTop (mkF m 38 #[.val (.ref r0), .val .null, .val (.ref b39), .val (.int (4 : Int32)), .val (.int (1 : Int32)), .val (.ref u1)] [(.ref u1)]))
      refine own_by (fun _ kS => XS.astoreN X51.here hx rfl (hb hby d5_38) rfl rfl (l' := #[.val (.ref r0), .val (.ref u1), .val (.ref b39), .val (.int (4 : Int32)), .val (.int (1 : Int32)), .val (.ref u1)]) rfl kS) ?_
      show own_Comes p e below s _ _ _ (T51.setTop (mkF m 39 #[.val (.ref r0), .val (.ref u1), .val (.ref b39), .val (.int (4 : Int32)), .val (.int (1 : Int32)), .val (.ref u1)] []))
      refine own_by (fun _ kS => XS.goto X51.here hx rfl (pc0 := 39) (pc' := 48) rfl (hb hby d5_39) (by decide) (by decide) kS) ?_
      show own_Comes p e below s _ _ _ (T51.setTop (mkF m 48 #[.val (.ref r0), .val (.ref u1), .val (.ref b39), .val (.int (4 : Int32)), .val (.int (1 : Int32)), .val (.ref u1)] []))
      refine own_by (fun _ kS => XS.aloadN X51.here hx rfl (hb hby d5_48) rfl rfl kS) ?_
      show own_Comes p e below s _ _ _ (T51.setTop (mkF m 49 #[.val (.ref r0), .val (.ref u1), .val (.ref b39), .val (.int (4 : Int32)), .val (.int (1 : Int32)), .val (.ref u1)] [(.ref u1)]))
      obtain ⟨vv53, _, ⟨T53, L53, k53, n53⟩, -, X53, ⟨Lc53, hQ53, l53, y53, z53⟩, st53⟩ := Jvm.LawKit.callS X51 hx (y := (⟨"java/util/Optional", "ofNullable", "(Ljava/lang/Object;)Ljava/util/Optional;"⟩ : MethodName)) hown (mvT hZ (hw _ (List.mem_of_getElem? (i := 62) rfl))) (mvT hZ (hw _ (List.mem_of_getElem? (i := 63) rfl))) (mvT hZ (hw _ (List.mem_of_getElem? (i := 64) rfl))) (mvT hZ (hw _ (List.mem_of_getElem? (i := 65) rfl))) (by decide) (backOf (W := 0) (rm9r l Z a0 hw [] u1 T39.heap n0 (Nat.le_trans Z0 E39.1)) hZ (hw _ (List.mem_of_getElem? (i := 65) rfl)) (hw _ (List.mem_of_getElem? (i := 64) rfl)) (by decide) (by decide)) (g := (mkF m 49 #[.val (.ref r0), .val (.ref u1), .val (.ref b39), .val (.int (4 : Int32)), .val (.int (1 : Int32)), .val (.ref u1)] [(.ref u1)])) rfl (by rw [hml]; rfl) (argsL := [(.ref u1)]) (rest := []) (lenOf pd__Ljava_lang_Object__Ljava_util_Optional__685 rfl) rfl (by show 2 * 0 + _ ≤ _; exact Nat.le_of_eq rfl) (hb hby d5_49) (fun _ _ => ⟨rfl, e51, (by decide : 1 + 1 ≤ _), (by decide : 4 + 1 ≤ _)⟩)
      dsimp only [Pt.U, Pt.locs, Pt.cells, Pt.slots] at X53 l53 y53 z53 st53 hQ53
      subst l53 y53 z53
      obtain ⟨o53, rfl, N53q, E53, Eo53, Fo53⟩ := hQ53
      have N53 := Fr.app N51 N53q
      refine own_by st53 ?_
      show own_Comes p e below s _ _ _ (T53.setTop (mkF m 52 #[.val (.ref r0), .val (.ref u1), .val (.ref b39), .val (.int (4 : Int32)), .val (.int (1 : Int32)), .val (.ref u1)] [(.ref o53)]))
      have hun : own_unit cs u0 u1 u2 u3 = (.ref u1) := by simp only [own_unit]; rw [if_neg hq0, if_pos hq1]
      refine own_ret X53 (v := some (.ref o53)) (fun h => by rw [Bd.returns] at h; cases h) Bd.notSynchronized (by decide) (by decide) ?_ (fun fs hr => own_reta X53 hx Bd.returns rfl rfl (hb hby d5_52) hr)
      exact ⟨_, rfl, N53, (own_ext (((Keep.refl _ []).ext E39).ext E53)), Eo53, by rw [hun]; exact Fo53⟩
    · show own_Comes p e below s _ _ _ (T51.setTop (mkF m 33 #[.val (.ref r0), .val .null, .val (.ref b39), .val (.int (4 : Int32)), .val (.int (1 : Int32)), .val (.ref u1)] [(.int (0 : Int32))]))
      have hb54 : (0 : Int32) = (0 : Int32) := by decide
      refine own_by (fun _ kS => XS.ifYes X51.here hx rfl (pc0 := 33) (pc' := 42) rfl (hb hby d5_33) rfl ((if0 _ _).trans (teq hb54).1) (by decide) (by decide) kS) ?_
      show own_Comes p e below s _ _ _ (T51.setTop (mkF m 42 #[.val (.ref r0), .val .null, .val (.ref b39), .val (.int (4 : Int32)), .val (.int (1 : Int32)), .val (.ref u1)] []))
      refine own_by (fun _ kS => XS.iinc X51.here hx rfl (hb hby d5_42) rfl (l' := #[.val (.ref r0), .val .null, .val (.ref b39), .val (.int (4 : Int32)), .val (.int ((1 : Int32) + (1 : Int32))), .val (.ref u1)]) rfl kS) ?_
      show own_Comes p e below s _ _ _ (T51.setTop (mkF m 45 #[.val (.ref r0), .val .null, .val (.ref b39), .val (.int (4 : Int32)), .val (.int ((1 : Int32) + (1 : Int32))), .val (.ref u1)] []))
      rw [show ((1 : Int32) + (1 : Int32)) = (2 : Int32) from by decide]
      show own_Comes p e below s _ _ _ (T51.setTop (mkF m 45 #[.val (.ref r0), .val .null, .val (.ref b39), .val (.int (4 : Int32)), .val (.int (2 : Int32)), .val (.ref u1)] []))
      refine own_by (fun _ kS => XS.goto X51.here hx rfl (pc0 := 45) (pc' := 12) rfl (hb hby d5_45) (by decide) (by decide) kS) ?_
      show own_Comes p e below s _ _ _ (T51.setTop (mkF m 12 #[.val (.ref r0), .val .null, .val (.ref b39), .val (.int (4 : Int32)), .val (.int (2 : Int32)), .val (.ref u1)] []))
      refine own_by (fun _ kS => XS.iload X51.here hx rfl (hb hby d5_12) rfl kS) ?_
      show own_Comes p e below s _ _ _ (T51.setTop (mkF m 14 #[.val (.ref r0), .val .null, .val (.ref b39), .val (.int (4 : Int32)), .val (.int (2 : Int32)), .val (.ref u1)] [(.int (2 : Int32))]))
      refine own_by (fun _ kS => XS.iloadN X51.here hx rfl (hb hby d5_14) rfl kS) ?_
      show own_Comes p e below s _ _ _ (T51.setTop (mkF m 15 #[.val (.ref r0), .val .null, .val (.ref b39), .val (.int (4 : Int32)), .val (.int (2 : Int32)), .val (.ref u1)] [(.int (4 : Int32)), (.int (2 : Int32))]))
      have hb55 : (2 : Int32) < (4 : Int32) := by decide
      refine own_by (fun _ kS => XS.icmpNo X51.here hx rfl (hb hby d5_15) rfl (tlt hb55).2.1 kS) ?_
      show own_Comes p e below s _ _ _ (T51.setTop (mkF m 18 #[.val (.ref r0), .val .null, .val (.ref b39), .val (.int (4 : Int32)), .val (.int (2 : Int32)), .val (.ref u1)] []))
      refine own_by (fun _ kS => XS.aloadN X51.here hx rfl (hb hby d5_18) rfl rfl kS) ?_
      show own_Comes p e below s _ _ _ (T51.setTop (mkF m 19 #[.val (.ref r0), .val .null, .val (.ref b39), .val (.int (4 : Int32)), .val (.int (2 : Int32)), .val (.ref u1)] [(.ref b39)]))
      refine own_by (fun _ kS => XS.iload X51.here hx rfl (hb hby d5_19) rfl kS) ?_
      show own_Comes p e below s _ _ _ (T51.setTop (mkF m 21 #[.val (.ref r0), .val .null, .val (.ref b39), .val (.int (4 : Int32)), .val (.int (2 : Int32)), .val (.ref u1)] [(.int (2 : Int32)), (.ref b39)]))
      have Vo56 := V39
      obtain ⟨cl56, Ar56, qA56, SA56, NA56, HA56, GA56⟩ := Vo56
      have hin56 : ¬ ((2 : Int32) < 0 ∨ cl56.slots.size ≤ ((2 : Int32)).toNatClampNeg) := inb_of SA56 ⟨by decide, by decide⟩
      have hat56 : cl56.slots[((2 : Int32)).toNatClampNeg]? = some (.ref u2) := HA56.at hin56 rfl
      refine own_by (fun _ kS => X51.aaload hx (j := (2 : Int32)) (v := (.ref u2)) (by rw [e51]; exact Ar56.1) (State.isArrayOf_alike hZ.alike Ar56.2.1) rfl Ar56.2.2 hin56 hat56 (g := (mkF m 21 #[.val (.ref r0), .val .null, .val (.ref b39), .val (.int (4 : Int32)), .val (.int (2 : Int32)), .val (.ref u1)] [(.int (2 : Int32)), (.ref b39)])) rfl rfl (hb hby d5_21) _ kS) ?_
      show own_Comes p e below s _ _ _ (T51.setTop (mkF m 22 #[.val (.ref r0), .val .null, .val (.ref b39), .val (.int (4 : Int32)), .val (.int (2 : Int32)), .val (.ref u1)] [(.ref u2)]))
      refine own_by (fun _ kS => XS.astore X51.here hx rfl (hb hby d5_22) rfl rfl (l' := #[.val (.ref r0), .val .null, .val (.ref b39), .val (.int (4 : Int32)), .val (.int (2 : Int32)), .val (.ref u2)]) rfl kS) ?_
      show own_Comes p e below s _ _ _ (T51.setTop (mkF m 24 #[.val (.ref r0), .val .null, .val (.ref b39), .val (.int (4 : Int32)), .val (.int (2 : Int32)), .val (.ref u2)] []))
      refine own_by (fun _ kS => XS.aload X51.here hx rfl (hb hby d5_24) rfl rfl kS) ?_
      show own_Comes p e below s _ _ _ (T51.setTop (mkF m 26 #[.val (.ref r0), .val .null, .val (.ref b39), .val (.int (4 : Int32)), .val (.int (2 : Int32)), .val (.ref u2)] [(.ref u2)]))
      obtain ⟨T57, X57, e57, st57⟩ := getF X51 hx hZ hown (host := "") (Or.inl (hw _ (List.mem_of_getElem? (i := 49) rfl))) Via.refl e51 (Fs_u2.ext (O0.ext E39).2) (g := (mkF m 26 #[.val (.ref r0), .val .null, .val (.ref b39), .val (.int (4 : Int32)), .val (.int (2 : Int32)), .val (.ref u2)] [(.ref u2)])) rfl rfl (hb hby d5_26)
      refine own_by st57 ?_
      show own_Comes p e below s _ _ _ (T57.setTop (mkF m 29 #[.val (.ref r0), .val .null, .val (.ref b39), .val (.int (4 : Int32)), .val (.int (2 : Int32)), .val (.ref u2)] [(.ref y2)]))
      refine own_by (fun _ kS => XS.aloadN X57.here hx rfl (hb hby d5_29) rfl rfl kS) ?_
      show own_Comes p e below s _ _ _ (T57.setTop (mkF m 30 #[.val (.ref r0), .val .null, .val (.ref b39), .val (.int (4 : Int32)), .val (.int (2 : Int32)), .val (.ref u2)] [(.ref r0), (.ref y2)]))
      obtain ⟨cq58, kq58, q58a, q58b, q58c⟩ := isOf hZ e57 (E_y2.ext (O0.ext E39).2)
      obtain ⟨vv58, _, ⟨T58, L58, k58, n58⟩, -, X58, ⟨Lc58, hQ58, l58, y58, z58⟩, st58⟩ := X57.virtualBack hx (y := (⟨"java/lang/String", "equals", "(Ljava/lang/Object;)Z"⟩ : MethodName)) (z := (⟨"java/lang/String", "equals", "(Ljava/lang/Object;)Z"⟩ : MethodName)) hown (mvT hZ (hw _ (List.mem_of_getElem? (i := 51) rfl))) (mvT hZ (hw _ (List.mem_of_getElem? (i := 52) rfl))) (notFace_of_selects (args := #[]) (mvT hZ (hw _ (List.mem_of_getElem? (i := 54) rfl)))) (mvT hZ (hw _ (List.mem_of_getElem? (i := 54) rfl))) (mvT hZ (hw _ (List.mem_of_getElem? (i := 53) rfl))) (by decide) (StrChars.Road.eqW (W := 0) hZ hws (kI := 4) (hw _ (List.mem_of_getElem? (i := 5) rfl)) (cs := [117, 115]) (ds := cs) (E_y2.ext (O0.ext E39).2) (V_y2.ext (O0.ext E39).2) (C_y2.ext (O0.ext E39).2) (A_y2.ext (O0.ext E39).2) H_y2 B_y2 L_y2 (Er.ext E39) (Vr.ext E39) (Cr.ext E39) (Ar.ext E39) Hr Br Lr (Sz.ext (O0.ext E39).2) hzc (by decide) (by decide)) q58a q58c (g := (mkF m 30 #[.val (.ref r0), .val .null, .val (.ref b39), .val (.int (4 : Int32)), .val (.int (2 : Int32)), .val (.ref u2)] [(.ref r0), (.ref y2)])) rfl (by rw [hml]; rfl) (Steps.refl _) (argsL := [(.ref r0)]) (rest := []) (lenOf pd__Ljava_lang_Object__Z_838 rfl) rfl (by show 2 * 0 + _ ≤ _; exact Nat.le_of_eq rfl) (hb hby d5_30) (fun _ _ => ⟨rfl, e57, (by decide : 1 + 0 ≤ _), (by decide : 4 + 0 ≤ _)⟩)
      dsimp only [Pt.U, Pt.locs, Pt.cells, Pt.slots] at X58 l58 y58 z58 st58 hQ58
      subst l58 y58 z58
      obtain ⟨hv58, rfl, e58q⟩ := hQ58
      have N58q := Fr.nil n0
      have N58 := Fr.app N51 N58q
      refine own_tr st58 ?_
      have e58 : T58.heap = T39.heap := e58q
      rcases hv58 with ⟨rfl, hq2⟩ | ⟨rfl, hq2⟩
      · show own_Comes p e below s _ _ _ (T58.setTop (mkF m 33 #[.val (.ref r0), .val .null, .val (.ref b39), .val (.int (4 : Int32)), .val (.int (2 : Int32)), .val (.ref u2)] [(.int (1 : Int32))]))
        have hb59 : ¬ ((1 : Int32) = (0 : Int32)) := by decide
        refine own_by (fun _ kS => XS.ifNo X58.here hx rfl (hb hby d5_33) rfl ((if0 _ _).trans (feq hb59).1) kS) ?_
        show own_Comes p e below s _ _ _ (T58.setTop (mkF m 36 #[.val (.ref r0), .val .null, .val (.ref b39), .val (.int (4 : Int32)), .val (.int (2 : Int32)), .val (.ref u2)] []))
        refine own_by (fun _ kS => XS.aload X58.here hx rfl (hb hby d5_36) rfl rfl kS) ?_
        show own_Comes p e below s _ _ _ (T58.setTop (mkF m 38 #[.val (.ref r0), .val .null, .val (.ref b39), .val (.int (4 : Int32)), .val (.int (2 : Int32)), .val (.ref u2)] [(.ref u2)]))
        refine own_by (fun _ kS => XS.astoreN X58.here hx rfl (hb hby d5_38) rfl rfl (l' := #[.val (.ref r0), .val (.ref u2), .val (.ref b39), .val (.int (4 : Int32)), .val (.int (2 : Int32)), .val (.ref u2)]) rfl kS) ?_
        show own_Comes p e below s _ _ _ (T58.setTop (mkF m 39 #[.val (.ref r0), .val (.ref u2), .val (.ref b39), .val (.int (4 : Int32)), .val (.int (2 : Int32)), .val (.ref u2)] []))
        refine own_by (fun _ kS => XS.goto X58.here hx rfl (pc0 := 39) (pc' := 48) rfl (hb hby d5_39) (by decide) (by decide) kS) ?_
        show own_Comes p e below s _ _ _ (T58.setTop (mkF m 48 #[.val (.ref r0), .val (.ref u2), .val (.ref b39), .val (.int (4 : Int32)), .val (.int (2 : Int32)), .val (.ref u2)] []))
        refine own_by (fun _ kS => XS.aloadN X58.here hx rfl (hb hby d5_48) rfl rfl kS) ?_
        show own_Comes p e below s _ _ _ (T58.setTop (mkF m 49 #[.val (.ref r0), .val (.ref u2), .val (.ref b39), .val (.int (4 : Int32)), .val (.int (2 : Int32)), .val (.ref u2)] [(.ref u2)]))
        obtain ⟨vv60, _, ⟨T60, L60, k60, n60⟩, -, X60, ⟨Lc60, hQ60, l60, y60, z60⟩, st60⟩ := Jvm.LawKit.callS X58 hx (y := (⟨"java/util/Optional", "ofNullable", "(Ljava/lang/Object;)Ljava/util/Optional;"⟩ : MethodName)) hown (mvT hZ (hw _ (List.mem_of_getElem? (i := 62) rfl))) (mvT hZ (hw _ (List.mem_of_getElem? (i := 63) rfl))) (mvT hZ (hw _ (List.mem_of_getElem? (i := 64) rfl))) (mvT hZ (hw _ (List.mem_of_getElem? (i := 65) rfl))) (by decide) (backOf (W := 0) (rm9r l Z a0 hw [] u2 T39.heap n0 (Nat.le_trans Z0 E39.1)) hZ (hw _ (List.mem_of_getElem? (i := 65) rfl)) (hw _ (List.mem_of_getElem? (i := 64) rfl)) (by decide) (by decide)) (g := (mkF m 49 #[.val (.ref r0), .val (.ref u2), .val (.ref b39), .val (.int (4 : Int32)), .val (.int (2 : Int32)), .val (.ref u2)] [(.ref u2)])) rfl (by rw [hml]; rfl) (argsL := [(.ref u2)]) (rest := []) (lenOf pd__Ljava_lang_Object__Ljava_util_Optional__685 rfl) rfl (by show 2 * 0 + _ ≤ _; exact Nat.le_of_eq rfl) (hb hby d5_49) (fun _ _ => ⟨rfl, e58, (by decide : 1 + 1 ≤ _), (by decide : 4 + 1 ≤ _)⟩)
        dsimp only [Pt.U, Pt.locs, Pt.cells, Pt.slots] at X60 l60 y60 z60 st60 hQ60
        subst l60 y60 z60
        obtain ⟨o60, rfl, N60q, E60, Eo60, Fo60⟩ := hQ60
        have N60 := Fr.app N58 N60q
        refine own_by st60 ?_
        show own_Comes p e below s _ _ _ (T60.setTop (mkF m 52 #[.val (.ref r0), .val (.ref u2), .val (.ref b39), .val (.int (4 : Int32)), .val (.int (2 : Int32)), .val (.ref u2)] [(.ref o60)]))
        have hun : own_unit cs u0 u1 u2 u3 = (.ref u2) := by simp only [own_unit]; rw [if_neg hq0, if_neg hq1, if_pos hq2]
        refine own_ret X60 (v := some (.ref o60)) (fun h => by rw [Bd.returns] at h; cases h) Bd.notSynchronized (by decide) (by decide) ?_ (fun fs hr => own_reta X60 hx Bd.returns rfl rfl (hb hby d5_52) hr)
        exact ⟨_, rfl, N60, (own_ext (((Keep.refl _ []).ext E39).ext E60)), Eo60, by rw [hun]; exact Fo60⟩
      · show own_Comes p e below s _ _ _ (T58.setTop (mkF m 33 #[.val (.ref r0), .val .null, .val (.ref b39), .val (.int (4 : Int32)), .val (.int (2 : Int32)), .val (.ref u2)] [(.int (0 : Int32))]))
        have hb61 : (0 : Int32) = (0 : Int32) := by decide
        refine own_by (fun _ kS => XS.ifYes X58.here hx rfl (pc0 := 33) (pc' := 42) rfl (hb hby d5_33) rfl ((if0 _ _).trans (teq hb61).1) (by decide) (by decide) kS) ?_
        show own_Comes p e below s _ _ _ (T58.setTop (mkF m 42 #[.val (.ref r0), .val .null, .val (.ref b39), .val (.int (4 : Int32)), .val (.int (2 : Int32)), .val (.ref u2)] []))
        refine own_by (fun _ kS => XS.iinc X58.here hx rfl (hb hby d5_42) rfl (l' := #[.val (.ref r0), .val .null, .val (.ref b39), .val (.int (4 : Int32)), .val (.int ((2 : Int32) + (1 : Int32))), .val (.ref u2)]) rfl kS) ?_
        show own_Comes p e below s _ _ _ (T58.setTop (mkF m 45 #[.val (.ref r0), .val .null, .val (.ref b39), .val (.int (4 : Int32)), .val (.int ((2 : Int32) + (1 : Int32))), .val (.ref u2)] []))
        rw [show ((2 : Int32) + (1 : Int32)) = (3 : Int32) from by decide]
        show own_Comes p e below s _ _ _ (T58.setTop (mkF m 45 #[.val (.ref r0), .val .null, .val (.ref b39), .val (.int (4 : Int32)), .val (.int (3 : Int32)), .val (.ref u2)] []))
        refine own_by (fun _ kS => XS.goto X58.here hx rfl (pc0 := 45) (pc' := 12) rfl (hb hby d5_45) (by decide) (by decide) kS) ?_
        show own_Comes p e below s _ _ _ (T58.setTop (mkF m 12 #[.val (.ref r0), .val .null, .val (.ref b39), .val (.int (4 : Int32)), .val (.int (3 : Int32)), .val (.ref u2)] []))
        refine own_by (fun _ kS => XS.iload X58.here hx rfl (hb hby d5_12) rfl kS) ?_
        show own_Comes p e below s _ _ _ (T58.setTop (mkF m 14 #[.val (.ref r0), .val .null, .val (.ref b39), .val (.int (4 : Int32)), .val (.int (3 : Int32)), .val (.ref u2)] [(.int (3 : Int32))]))
        refine own_by (fun _ kS => XS.iloadN X58.here hx rfl (hb hby d5_14) rfl kS) ?_
        show own_Comes p e below s _ _ _ (T58.setTop (mkF m 15 #[.val (.ref r0), .val .null, .val (.ref b39), .val (.int (4 : Int32)), .val (.int (3 : Int32)), .val (.ref u2)] [(.int (4 : Int32)), (.int (3 : Int32))]))
        have hb62 : (3 : Int32) < (4 : Int32) := by decide
        refine own_by (fun _ kS => XS.icmpNo X58.here hx rfl (hb hby d5_15) rfl (tlt hb62).2.1 kS) ?_
        show own_Comes p e below s _ _ _ (T58.setTop (mkF m 18 #[.val (.ref r0), .val .null, .val (.ref b39), .val (.int (4 : Int32)), .val (.int (3 : Int32)), .val (.ref u2)] []))
        refine own_by (fun _ kS => XS.aloadN X58.here hx rfl (hb hby d5_18) rfl rfl kS) ?_
        show own_Comes p e below s _ _ _ (T58.setTop (mkF m 19 #[.val (.ref r0), .val .null, .val (.ref b39), .val (.int (4 : Int32)), .val (.int (3 : Int32)), .val (.ref u2)] [(.ref b39)]))
        refine own_by (fun _ kS => XS.iload X58.here hx rfl (hb hby d5_19) rfl kS) ?_
        show own_Comes p e below s _ _ _ (T58.setTop (mkF m 21 #[.val (.ref r0), .val .null, .val (.ref b39), .val (.int (4 : Int32)), .val (.int (3 : Int32)), .val (.ref u2)] [(.int (3 : Int32)), (.ref b39)]))
        have Vo63 := V39
        obtain ⟨cl63, Ar63, qA63, SA63, NA63, HA63, GA63⟩ := Vo63
        have hin63 : ¬ ((3 : Int32) < 0 ∨ cl63.slots.size ≤ ((3 : Int32)).toNatClampNeg) := inb_of SA63 ⟨by decide, by decide⟩
        have hat63 : cl63.slots[((3 : Int32)).toNatClampNeg]? = some (.ref u3) := HA63.at hin63 rfl
        refine own_by (fun _ kS => X58.aaload hx (j := (3 : Int32)) (v := (.ref u3)) (by rw [e58]; exact Ar63.1) (State.isArrayOf_alike hZ.alike Ar63.2.1) rfl Ar63.2.2 hin63 hat63 (g := (mkF m 21 #[.val (.ref r0), .val .null, .val (.ref b39), .val (.int (4 : Int32)), .val (.int (3 : Int32)), .val (.ref u2)] [(.int (3 : Int32)), (.ref b39)])) rfl rfl (hb hby d5_21) _ kS) ?_
        show own_Comes p e below s _ _ _ (T58.setTop (mkF m 22 #[.val (.ref r0), .val .null, .val (.ref b39), .val (.int (4 : Int32)), .val (.int (3 : Int32)), .val (.ref u2)] [(.ref u3)]))
        refine own_by (fun _ kS => XS.astore X58.here hx rfl (hb hby d5_22) rfl rfl (l' := #[.val (.ref r0), .val .null, .val (.ref b39), .val (.int (4 : Int32)), .val (.int (3 : Int32)), .val (.ref u3)]) rfl kS) ?_
        show own_Comes p e below s _ _ _ (T58.setTop (mkF m 24 #[.val (.ref r0), .val .null, .val (.ref b39), .val (.int (4 : Int32)), .val (.int (3 : Int32)), .val (.ref u3)] []))
        refine own_by (fun _ kS => XS.aload X58.here hx rfl (hb hby d5_24) rfl rfl kS) ?_
        show own_Comes p e below s _ _ _ (T58.setTop (mkF m 26 #[.val (.ref r0), .val .null, .val (.ref b39), .val (.int (4 : Int32)), .val (.int (3 : Int32)), .val (.ref u3)] [(.ref u3)]))
        obtain ⟨T64, X64, e64, st64⟩ := getF X58 hx hZ hown (host := "") (Or.inl (hw _ (List.mem_of_getElem? (i := 49) rfl))) Via.refl e58 (Fs_u3.ext (O0.ext E39).2) (g := (mkF m 26 #[.val (.ref r0), .val .null, .val (.ref b39), .val (.int (4 : Int32)), .val (.int (3 : Int32)), .val (.ref u3)] [(.ref u3)])) rfl rfl (hb hby d5_26)
        refine own_by st64 ?_
        show own_Comes p e below s _ _ _ (T64.setTop (mkF m 29 #[.val (.ref r0), .val .null, .val (.ref b39), .val (.int (4 : Int32)), .val (.int (3 : Int32)), .val (.ref u3)] [(.ref y3)]))
        refine own_by (fun _ kS => XS.aloadN X64.here hx rfl (hb hby d5_29) rfl rfl kS) ?_
        show own_Comes p e below s _ _ _ (T64.setTop (mkF m 30 #[.val (.ref r0), .val .null, .val (.ref b39), .val (.int (4 : Int32)), .val (.int (3 : Int32)), .val (.ref u3)] [(.ref r0), (.ref y3)]))
        obtain ⟨cq65, kq65, q65a, q65b, q65c⟩ := isOf hZ e64 (E_y3.ext (O0.ext E39).2)
        obtain ⟨vv65, _, ⟨T65, L65, k65, n65⟩, -, X65, ⟨Lc65, hQ65, l65, y65, z65⟩, st65⟩ := X64.virtualBack hx (y := (⟨"java/lang/String", "equals", "(Ljava/lang/Object;)Z"⟩ : MethodName)) (z := (⟨"java/lang/String", "equals", "(Ljava/lang/Object;)Z"⟩ : MethodName)) hown (mvT hZ (hw _ (List.mem_of_getElem? (i := 51) rfl))) (mvT hZ (hw _ (List.mem_of_getElem? (i := 52) rfl))) (notFace_of_selects (args := #[]) (mvT hZ (hw _ (List.mem_of_getElem? (i := 54) rfl)))) (mvT hZ (hw _ (List.mem_of_getElem? (i := 54) rfl))) (mvT hZ (hw _ (List.mem_of_getElem? (i := 53) rfl))) (by decide) (StrChars.Road.eqW (W := 0) hZ hws (kI := 4) (hw _ (List.mem_of_getElem? (i := 5) rfl)) (cs := [110, 115]) (ds := cs) (E_y3.ext (O0.ext E39).2) (V_y3.ext (O0.ext E39).2) (C_y3.ext (O0.ext E39).2) (A_y3.ext (O0.ext E39).2) H_y3 B_y3 L_y3 (Er.ext E39) (Vr.ext E39) (Cr.ext E39) (Ar.ext E39) Hr Br Lr (Sz.ext (O0.ext E39).2) hzc (by decide) (by decide)) q65a q65c (g := (mkF m 30 #[.val (.ref r0), .val .null, .val (.ref b39), .val (.int (4 : Int32)), .val (.int (3 : Int32)), .val (.ref u3)] [(.ref r0), (.ref y3)])) rfl (by rw [hml]; rfl) (Steps.refl _) (argsL := [(.ref r0)]) (rest := []) (lenOf pd__Ljava_lang_Object__Z_838 rfl) rfl (by show 2 * 0 + _ ≤ _; exact Nat.le_of_eq rfl) (hb hby d5_30) (fun _ _ => ⟨rfl, e64, (by decide : 1 + 0 ≤ _), (by decide : 4 + 0 ≤ _)⟩)
        dsimp only [Pt.U, Pt.locs, Pt.cells, Pt.slots] at X65 l65 y65 z65 st65 hQ65
        subst l65 y65 z65
        obtain ⟨hv65, rfl, e65q⟩ := hQ65
        have N65q := Fr.nil n0
        have N65 := Fr.app N58 N65q
        refine own_tr st65 ?_
        have e65 : T65.heap = T39.heap := e65q
        rcases hv65 with ⟨rfl, hq3⟩ | ⟨rfl, hq3⟩
        · show own_Comes p e below s _ _ _ (T65.setTop (mkF m 33 #[.val (.ref r0), .val .null, .val (.ref b39), .val (.int (4 : Int32)), .val (.int (3 : Int32)), .val (.ref u3)] [(.int (1 : Int32))]))
          have hb66 : ¬ ((1 : Int32) = (0 : Int32)) := by decide
          refine own_by (fun _ kS => XS.ifNo X65.here hx rfl (hb hby d5_33) rfl ((if0 _ _).trans (feq hb66).1) kS) ?_
          show own_Comes p e below s _ _ _ (T65.setTop (mkF m 36 #[.val (.ref r0), .val .null, .val (.ref b39), .val (.int (4 : Int32)), .val (.int (3 : Int32)), .val (.ref u3)] []))
          refine own_by (fun _ kS => XS.aload X65.here hx rfl (hb hby d5_36) rfl rfl kS) ?_
          show own_Comes p e below s _ _ _ (T65.setTop (mkF m 38 #[.val (.ref r0), .val .null, .val (.ref b39), .val (.int (4 : Int32)), .val (.int (3 : Int32)), .val (.ref u3)] [(.ref u3)]))
          refine own_by (fun _ kS => XS.astoreN X65.here hx rfl (hb hby d5_38) rfl rfl (l' := #[.val (.ref r0), .val (.ref u3), .val (.ref b39), .val (.int (4 : Int32)), .val (.int (3 : Int32)), .val (.ref u3)]) rfl kS) ?_
          show own_Comes p e below s _ _ _ (T65.setTop (mkF m 39 #[.val (.ref r0), .val (.ref u3), .val (.ref b39), .val (.int (4 : Int32)), .val (.int (3 : Int32)), .val (.ref u3)] []))
          refine own_by (fun _ kS => XS.goto X65.here hx rfl (pc0 := 39) (pc' := 48) rfl (hb hby d5_39) (by decide) (by decide) kS) ?_
          show own_Comes p e below s _ _ _ (T65.setTop (mkF m 48 #[.val (.ref r0), .val (.ref u3), .val (.ref b39), .val (.int (4 : Int32)), .val (.int (3 : Int32)), .val (.ref u3)] []))
          refine own_by (fun _ kS => XS.aloadN X65.here hx rfl (hb hby d5_48) rfl rfl kS) ?_
          show own_Comes p e below s _ _ _ (T65.setTop (mkF m 49 #[.val (.ref r0), .val (.ref u3), .val (.ref b39), .val (.int (4 : Int32)), .val (.int (3 : Int32)), .val (.ref u3)] [(.ref u3)]))
          obtain ⟨vv67, _, ⟨T67, L67, k67, n67⟩, -, X67, ⟨Lc67, hQ67, l67, y67, z67⟩, st67⟩ := Jvm.LawKit.callS X65 hx (y := (⟨"java/util/Optional", "ofNullable", "(Ljava/lang/Object;)Ljava/util/Optional;"⟩ : MethodName)) hown (mvT hZ (hw _ (List.mem_of_getElem? (i := 62) rfl))) (mvT hZ (hw _ (List.mem_of_getElem? (i := 63) rfl))) (mvT hZ (hw _ (List.mem_of_getElem? (i := 64) rfl))) (mvT hZ (hw _ (List.mem_of_getElem? (i := 65) rfl))) (by decide) (backOf (W := 0) (rm9r l Z a0 hw [] u3 T39.heap n0 (Nat.le_trans Z0 E39.1)) hZ (hw _ (List.mem_of_getElem? (i := 65) rfl)) (hw _ (List.mem_of_getElem? (i := 64) rfl)) (by decide) (by decide)) (g := (mkF m 49 #[.val (.ref r0), .val (.ref u3), .val (.ref b39), .val (.int (4 : Int32)), .val (.int (3 : Int32)), .val (.ref u3)] [(.ref u3)])) rfl (by rw [hml]; rfl) (argsL := [(.ref u3)]) (rest := []) (lenOf pd__Ljava_lang_Object__Ljava_util_Optional__685 rfl) rfl (by show 2 * 0 + _ ≤ _; exact Nat.le_of_eq rfl) (hb hby d5_49) (fun _ _ => ⟨rfl, e65, (by decide : 1 + 1 ≤ _), (by decide : 4 + 1 ≤ _)⟩)
          dsimp only [Pt.U, Pt.locs, Pt.cells, Pt.slots] at X67 l67 y67 z67 st67 hQ67
          subst l67 y67 z67
          obtain ⟨o67, rfl, N67q, E67, Eo67, Fo67⟩ := hQ67
          have N67 := Fr.app N65 N67q
          refine own_by st67 ?_
          show own_Comes p e below s _ _ _ (T67.setTop (mkF m 52 #[.val (.ref r0), .val (.ref u3), .val (.ref b39), .val (.int (4 : Int32)), .val (.int (3 : Int32)), .val (.ref u3)] [(.ref o67)]))
          have hun : own_unit cs u0 u1 u2 u3 = (.ref u3) := by simp only [own_unit]; rw [if_neg hq0, if_neg hq1, if_neg hq2, if_pos hq3]
          refine own_ret X67 (v := some (.ref o67)) (fun h => by rw [Bd.returns] at h; cases h) Bd.notSynchronized (by decide) (by decide) ?_ (fun fs hr => own_reta X67 hx Bd.returns rfl rfl (hb hby d5_52) hr)
          exact ⟨_, rfl, N67, (own_ext (((Keep.refl _ []).ext E39).ext E67)), Eo67, by rw [hun]; exact Fo67⟩
        · show own_Comes p e below s _ _ _ (T65.setTop (mkF m 33 #[.val (.ref r0), .val .null, .val (.ref b39), .val (.int (4 : Int32)), .val (.int (3 : Int32)), .val (.ref u3)] [(.int (0 : Int32))]))
          have hb68 : (0 : Int32) = (0 : Int32) := by decide
          refine own_by (fun _ kS => XS.ifYes X65.here hx rfl (pc0 := 33) (pc' := 42) rfl (hb hby d5_33) rfl ((if0 _ _).trans (teq hb68).1) (by decide) (by decide) kS) ?_
          show own_Comes p e below s _ _ _ (T65.setTop (mkF m 42 #[.val (.ref r0), .val .null, .val (.ref b39), .val (.int (4 : Int32)), .val (.int (3 : Int32)), .val (.ref u3)] []))
          refine own_by (fun _ kS => XS.iinc X65.here hx rfl (hb hby d5_42) rfl (l' := #[.val (.ref r0), .val .null, .val (.ref b39), .val (.int (4 : Int32)), .val (.int ((3 : Int32) + (1 : Int32))), .val (.ref u3)]) rfl kS) ?_
          show own_Comes p e below s _ _ _ (T65.setTop (mkF m 45 #[.val (.ref r0), .val .null, .val (.ref b39), .val (.int (4 : Int32)), .val (.int ((3 : Int32) + (1 : Int32))), .val (.ref u3)] []))
          rw [show ((3 : Int32) + (1 : Int32)) = (4 : Int32) from by decide]
          show own_Comes p e below s _ _ _ (T65.setTop (mkF m 45 #[.val (.ref r0), .val .null, .val (.ref b39), .val (.int (4 : Int32)), .val (.int (4 : Int32)), .val (.ref u3)] []))
          refine own_by (fun _ kS => XS.goto X65.here hx rfl (pc0 := 45) (pc' := 12) rfl (hb hby d5_45) (by decide) (by decide) kS) ?_
          show own_Comes p e below s _ _ _ (T65.setTop (mkF m 12 #[.val (.ref r0), .val .null, .val (.ref b39), .val (.int (4 : Int32)), .val (.int (4 : Int32)), .val (.ref u3)] []))
          refine own_by (fun _ kS => XS.iload X65.here hx rfl (hb hby d5_12) rfl kS) ?_
          show own_Comes p e below s _ _ _ (T65.setTop (mkF m 14 #[.val (.ref r0), .val .null, .val (.ref b39), .val (.int (4 : Int32)), .val (.int (4 : Int32)), .val (.ref u3)] [(.int (4 : Int32))]))
          refine own_by (fun _ kS => XS.iloadN X65.here hx rfl (hb hby d5_14) rfl kS) ?_
          show own_Comes p e below s _ _ _ (T65.setTop (mkF m 15 #[.val (.ref r0), .val .null, .val (.ref b39), .val (.int (4 : Int32)), .val (.int (4 : Int32)), .val (.ref u3)] [(.int (4 : Int32)), (.int (4 : Int32))]))
          have hb69 : ¬ ((4 : Int32) < (4 : Int32)) := by decide
          refine own_by (fun _ kS => XS.icmpYes X65.here hx rfl (pc0 := 15) (pc' := 48) rfl (hb hby d5_15) rfl (flt hb69).2.1 (by decide) (by decide) kS) ?_
          show own_Comes p e below s _ _ _ (T65.setTop (mkF m 48 #[.val (.ref r0), .val .null, .val (.ref b39), .val (.int (4 : Int32)), .val (.int (4 : Int32)), .val (.ref u3)] []))
          refine own_by (fun _ kS => XS.aloadN X65.here hx rfl (hb hby d5_48) rfl rfl kS) ?_
          show own_Comes p e below s _ _ _ (T65.setTop (mkF m 49 #[.val (.ref r0), .val .null, .val (.ref b39), .val (.int (4 : Int32)), .val (.int (4 : Int32)), .val (.ref u3)] [.null]))
          obtain ⟨vv70, _, ⟨T70, L70, k70, n70⟩, -, X70, ⟨Lc70, hQ70, l70, y70, z70⟩, st70⟩ := Jvm.LawKit.callS X65 hx (y := (⟨"java/util/Optional", "ofNullable", "(Ljava/lang/Object;)Ljava/util/Optional;"⟩ : MethodName)) hown (mvT hZ (hw _ (List.mem_of_getElem? (i := 62) rfl))) (mvT hZ (hw _ (List.mem_of_getElem? (i := 63) rfl))) (mvT hZ (hw _ (List.mem_of_getElem? (i := 64) rfl))) (mvT hZ (hw _ (List.mem_of_getElem? (i := 65) rfl))) (by decide) (backOf (W := 0) (rm9n l Z a0 hw [] em T39.heap n0 (Nat.le_trans Z0 E39.1) (O0.ext E39) Sm Em Fm) hZ (hw _ (List.mem_of_getElem? (i := 65) rfl)) (hw _ (List.mem_of_getElem? (i := 64) rfl)) (by decide) (by decide)) (g := (mkF m 49 #[.val (.ref r0), .val .null, .val (.ref b39), .val (.int (4 : Int32)), .val (.int (4 : Int32)), .val (.ref u3)] [.null])) rfl (by rw [hml]; rfl) (argsL := [.null]) (rest := []) (lenOf pd__Ljava_lang_Object__Ljava_util_Optional__685 rfl) rfl (by show 2 * 0 + _ ≤ _; exact Nat.le_of_eq rfl) (hb hby d5_49) (fun _ _ => ⟨rfl, e65, (by decide : 1 + 0 ≤ _), (by decide : 4 + 0 ≤ _)⟩)
          dsimp only [Pt.U, Pt.locs, Pt.cells, Pt.slots] at X70 l70 y70 z70 st70 hQ70
          subst l70 y70 z70
          obtain ⟨o70, rfl, N70q, E70, Eo70, Fo70⟩ := hQ70
          have N70 := Fr.app N65 N70q
          refine own_by st70 ?_
          show own_Comes p e below s _ _ _ (T70.setTop (mkF m 52 #[.val (.ref r0), .val .null, .val (.ref b39), .val (.int (4 : Int32)), .val (.int (4 : Int32)), .val (.ref u3)] [(.ref o70)]))
          have hun : own_unit cs u0 u1 u2 u3 = .null := by simp only [own_unit]; rw [if_neg hq0, if_neg hq1, if_neg hq2, if_neg hq3]
          refine own_ret X70 (v := some (.ref o70)) (fun h => by rw [Bd.returns] at h; cases h) Bd.notSynchronized (by decide) (by decide) ?_ (fun fs hr => own_reta X70 hx Bd.returns rfl rfl (hb hby d5_52) hr)
          exact ⟨_, rfl, N70, (own_ext (((Keep.refl _ []).ext E39).ext E70)), Eo70, by rw [hun]; exact Fo70⟩
def Q0 (Z : State) (h0 : Heap) (n0 : Nat) (v : Option Value) (h : Heap) (L : List Loc) : Prop := v = some (.int (1 : Int32)) ∧ Fr n0 L
theorem ef_rm0 (m : MethodId) (x0 : Int32) (x1 : Int32) (x2 : Int32) (x3 : Int32) : entryFrame m #[(.int x0), (.int x1), (.int x2), (.int x3)] maxLocals = mkF m 0 #[.val (.int x0), .val (.int x1), .val (.int x2), .val (.int x3), .unset, .unset, .unset, .unset, .unset, .unset, .unset] [] := by first | (simp [entryFrame, mkF, argsToLocals, Value.category, maxLocals]; done) | rfl
theorem pd___C_V_325 : parseMethodDescriptor "([C)V" = some ⟨[(.array .char)], none⟩ := by decide +kernel
theorem pd__Ljava_lang_String__Ljava_util_Optional__717 : parseMethodDescriptor "(Ljava/lang/String;)Ljava/util/Optional;" = some ⟨[(.object "java/lang/String")], some (.object "java/util/Optional")⟩ := by decide +kernel
theorem pd__Ljava_lang_Object__Ljava_lang_Object__418 : parseMethodDescriptor "(Ljava/lang/Object;)Ljava/lang/Object;" = some ⟨[(.object "java/lang/Object")], some (.object "java/lang/Object")⟩ := by decide +kernel
set_option maxRecDepth 65536 in
set_option maxHeartbeats 40000000 in
theorem rm0 (l : Launch) (Z : State) (a0 : Array Value) (hw : ∀ d ∈ tables_1, d.before a0 Z = true) (ws : List Jvm.Cond) (p0 p1 p2 p3 : Int32) (va : Addr) (kv : ClassId) (u0 u1 u2 u3 y0 y1 y2 y3 em : Addr) (zc : Int32) (fm : Value) (h0 : Heap) (n0 : Nat) (Z0 : n0 ≤ h0.size) (O0 : Old Z n0 h0) (Sv : Sta Z Z.heap "com/example/mixed_margins/mixedmargins/model/TimeUnit" "$VALUES" "[Lcom/example/mixed_margins/mixedmargins/model/TimeUnit;" (.ref va)) (Vv : Arv Z Z.heap va kv (.object "com/example/mixed_margins/mixedmargins/model/TimeUnit") (4 : Int32) [(.ref u0), (.ref u1), (.ref u2), (.ref u3)] .null) (Ev : Exa Z Z.heap va "[Lcom/example/mixed_margins/mixedmargins/model/TimeUnit;") (St_u0 : Sta Z Z.heap "com/example/mixed_margins/mixedmargins/model/TimeUnit" "SECONDS" "Lcom/example/mixed_margins/mixedmargins/model/TimeUnit;" (.ref u0)) (Eu_u0 : Exa Z Z.heap u0 "com/example/mixed_margins/mixedmargins/model/TimeUnit") (St_u1 : Sta Z Z.heap "com/example/mixed_margins/mixedmargins/model/TimeUnit" "MILLISECONDS" "Lcom/example/mixed_margins/mixedmargins/model/TimeUnit;" (.ref u1)) (Eu_u1 : Exa Z Z.heap u1 "com/example/mixed_margins/mixedmargins/model/TimeUnit") (St_u2 : Sta Z Z.heap "com/example/mixed_margins/mixedmargins/model/TimeUnit" "MICROSECONDS" "Lcom/example/mixed_margins/mixedmargins/model/TimeUnit;" (.ref u2)) (Eu_u2 : Exa Z Z.heap u2 "com/example/mixed_margins/mixedmargins/model/TimeUnit") (St_u3 : Sta Z Z.heap "com/example/mixed_margins/mixedmargins/model/TimeUnit" "NANOSECONDS" "Lcom/example/mixed_margins/mixedmargins/model/TimeUnit;" (.ref u3)) (Eu_u3 : Exa Z Z.heap u3 "com/example/mixed_margins/mixedmargins/model/TimeUnit") (Fs_u0 : Fld Z Z.heap u0 "com/example/mixed_margins/mixedmargins/model/TimeUnit" "symbol" "Ljava/lang/String;" (.ref y0)) (Ss_u0 : own_Str Z Z.heap y0 [115]) (Fs_u1 : Fld Z Z.heap u1 "com/example/mixed_margins/mixedmargins/model/TimeUnit" "symbol" "Ljava/lang/String;" (.ref y1)) (Ss_u1 : own_Str Z Z.heap y1 [109, 115]) (Fs_u2 : Fld Z Z.heap u2 "com/example/mixed_margins/mixedmargins/model/TimeUnit" "symbol" "Ljava/lang/String;" (.ref y2)) (Ss_u2 : own_Str Z Z.heap y2 [117, 115]) (Fs_u3 : Fld Z Z.heap u3 "com/example/mixed_margins/mixedmargins/model/TimeUnit" "symbol" "Ljava/lang/String;" (.ref y3)) (Ss_u3 : own_Str Z Z.heap y3 [110, 115]) (Sm : Sta Z Z.heap "java/util/Optional" "EMPTY" "Ljava/util/Optional;" (.ref em)) (Em : Exa Z Z.heap em "java/util/Optional") (Fm : Fld Z Z.heap em "java/util/Optional" "value" "Ljava/lang/Object;" .null) (Sz : Sta Z Z.heap "java/lang/String" "COMPACT_STRINGS" "Z" (.int zc)) (hzc : ¬ zc = 0) (Sf : Sta Z Z.heap "jdk/internal/util/Preconditions" "SIOOBE_FORMATTER" "Ljava/util/function/BiFunction;" fm) (rf : fm.isRef = true) :
    MetFree l x (head1 (Jvm.Cond.code x code maxLocals ret :: ws) room_1) (fun aX UX => aX = #[(.int p0), (.int p1), (.int p2), (.int p3)] ∧ Z.Warmed39 UX.vm ∧ UX.heap = h0 ∧ CHv Z own_EL UX.vm h0) (fun _ _ _ _ _ => True) (fun _ UX oX UX' => ∃ vX LX, oX = .returned vX ∧ Q0 Z  h0 n0 vX UX'.heap LX ∧ CHr Z own_EL UX.vm UX.heap UX'.vm UX'.heap ∧ ReturnedEndW UX oX UX' LX room_1.cells room_1.slots) := by
  refine MetFree.of_bodySF (plainFor_of_name pn_com_example_mixed_margins_mixedmargins_model_TimeUnitOfSymbolPinLaw) hisR ?_
  intro p e s m args below meth c s₁ Bd hml0 hP hK
  obtain ⟨rfl, hZ, hh, hCH0⟩ := hP
  have hx := Bd.exec
  have hby := Bd.bytes
  have hml : c.maxLocals = 11 := hml0
  have hown : s.vm.findClass "com/example/mixed_margins/mixedmargins/model/TimeUnitOfSymbolPinLaw" = some m.cls := findClass_of_methodNamed Bd.named
  have hnm := (name_of_methodNamed Bd.named Bd.method).1
  have X0 : Stand p l e room_1 (s.setVm s.vm) m #[(.int p0), (.int p1), (.int p2), (.int p3)] below meth c s₁ [] 0 0 := Stand.of_body Bd
  have hS : s.Since s.vm 0 := (State.WarmedH.refl s).since 0
  have hk : 0 ≤ h0.size := Nat.zero_le _
  have hZ : Z.Warmed39 (s.setVm s.vm).vm := hZ
  have hown : (s.setVm s.vm).vm.findClass "com/example/mixed_margins/mixedmargins/model/TimeUnitOfSymbolPinLaw" = some m.cls := hown
  have hEL := own_EW hw
  have CH : CHr Z own_EL (s.setVm s.vm).vm h0 (s.setVm s.vm).vm h0 := CHr.refl hCH0
  have e0 : s₁.heap = h0 := by rw [← hh, Bd.state]; rfl
  have N0 := Fr.nil n0
  show own_ComesH Z p e below s room_1.cells room_1.slots (Q0 Z  h0 n0) _
  rw [show entryFrame m #[(.int p0), (.int p1), (.int p2), (.int p3)] maxLocals = mkF m 0 #[.val (.int p0), .val (.int p1), .val (.int p2), .val (.int p3), .unset, .unset, .unset, .unset, .unset, .unset, .unset] [] from ef_rm0 m p0 p1 p2 p3]
  show own_ComesH Z p e below s _ _ _ (s₁.setTop (mkF m 0 #[.val (.int p0), .val (.int p1), .val (.int p2), .val (.int p3), .unset, .unset, .unset, .unset, .unset, .unset, .unset] []))
  refine own_byH (fun _ kS => XS.iloadN X0.here hx rfl (hb hby at_0) rfl kS) ?_
  show own_ComesH Z p e below s _ _ _ (s₁.setTop (mkF m 1 #[.val (.int p0), .val (.int p1), .val (.int p2), .val (.int p3), .unset, .unset, .unset, .unset, .unset, .unset, .unset] [(.int p0)]))
  refine own_byH (fun _ kS => XS.iconst X0.here hx rfl (hb hby at_1) kS) ?_
  show own_ComesH Z p e below s _ _ _ (s₁.setTop (mkF m 2 #[.val (.int p0), .val (.int p1), .val (.int p2), .val (.int p3), .unset, .unset, .unset, .unset, .unset, .unset, .unset] [(.int (3 : Int32)), (.int p0)]))
  refine own_byH (fun _ kS => XS.iand X0.here hx rfl (hb hby at_2) rfl kS) ?_
  show own_ComesH Z p e below s _ _ _ (s₁.setTop (mkF m 3 #[.val (.int p0), .val (.int p1), .val (.int p2), .val (.int p3), .unset, .unset, .unset, .unset, .unset, .unset, .unset] [(.int (p0 &&& (3 : Int32)))]))
  refine own_byH (fun _ kS => XS.istore X0.here hx rfl (hb hby at_3) rfl (l' := #[.val (.int p0), .val (.int p1), .val (.int p2), .val (.int p3), .val (.int (p0 &&& (3 : Int32))), .unset, .unset, .unset, .unset, .unset, .unset]) rfl kS) ?_
  show own_ComesH Z p e below s _ _ _ (s₁.setTop (mkF m 5 #[.val (.int p0), .val (.int p1), .val (.int p2), .val (.int p3), .val (.int (p0 &&& (3 : Int32))), .unset, .unset, .unset, .unset, .unset, .unset] []))
  refine own_byH (fun _ kS => XS.iloadN X0.here hx rfl (hb hby at_5) rfl kS) ?_
  show own_ComesH Z p e below s _ _ _ (s₁.setTop (mkF m 6 #[.val (.int p0), .val (.int p1), .val (.int p2), .val (.int p3), .val (.int (p0 &&& (3 : Int32))), .unset, .unset, .unset, .unset, .unset, .unset] [(.int p1)]))
  obtain ⟨_, _, ⟨T71, L71, k71, n71⟩, -, Xw71, hs71, gr71, ⟨Lc71, hQ71, l71, y71, z71, CQ71⟩, st71⟩ := callSS X0 hx (y := (⟨"com/example/mixed_margins/mixedmargins/model/TimeUnitOfSymbolPinLaw", "pick", "(I)C"⟩ : MethodName)) hown (mvT hZ (hw _ (List.mem_of_getElem? (i := 0) rfl))) (mvT hZ (hw _ (List.mem_of_getElem? (i := 1) rfl))) (mvT hZ (hw _ (List.mem_of_getElem? (i := 2) rfl))) (mvT hZ (hw _ (List.mem_of_getElem? (i := 3) rfl))) (by decide) (backOfSH (W := 0) (rm1 l Z a0 hw [] p1 zc fm h0 n0 Z0 O0 Sz hzc Sf rf) hZ (hw _ (List.mem_of_getElem? (i := 3) rfl)) (hw _ (List.mem_of_getElem? (i := 2) rfl)) (by decide) (by decide) hEL CH.1) (g := (mkF m 6 #[.val (.int p0), .val (.int p1), .val (.int p2), .val (.int p3), .val (.int (p0 &&& (3 : Int32))), .unset, .unset, .unset, .unset, .unset, .unset] [(.int p1)])) rfl (by rw [hml]; rfl) (argsL := [(.int p1)]) (rest := []) (lenOf pd__I_C_221 rfl) rfl (by show 2 * 0 + _ ≤ _; exact Nat.le_of_eq rfl) (hb hby at_6) (fun _ _ => ⟨rfl, e0, (by decide : 0 + 2 ≤ _), (by decide : 0 + 20 ≤ _)⟩)
  dsimp only [Pt.U, Pt.locs, Pt.cells, Pt.slots] at Xw71 l71 y71 z71 st71 hQ71 hs71 gr71 CQ71
  subst l71 y71 z71
  obtain ⟨X71, hS71, hZ71, hown71⟩ := rebS hS (by rw [e0]; exact hk) Xw71 hs71 gr71 hZ hown
  obtain ⟨z71, rfl, N71q, E71, hz71⟩ := hQ71
  have N71 := Fr.app N0 N71q
  refine own_trH st71 ?_
  have CR72 := CQ71
  have CH72 := CH.trans CR72
  show own_ComesH Z p e below s _ _ _ (T71.setTop (mkF m 9 #[.val (.int p0), .val (.int p1), .val (.int p2), .val (.int p3), .val (.int (p0 &&& (3 : Int32))), .unset, .unset, .unset, .unset, .unset, .unset] [(.int z71)]))
  refine own_byH (fun _ kS => XS.istore X71.here hx rfl (hb hby at_9) rfl (l' := #[.val (.int p0), .val (.int p1), .val (.int p2), .val (.int p3), .val (.int (p0 &&& (3 : Int32))), .val (.int z71), .unset, .unset, .unset, .unset, .unset]) rfl kS) ?_
  show own_ComesH Z p e below s _ _ _ (T71.setTop (mkF m 11 #[.val (.int p0), .val (.int p1), .val (.int p2), .val (.int p3), .val (.int (p0 &&& (3 : Int32))), .val (.int z71), .unset, .unset, .unset, .unset, .unset] []))
  refine own_byH (fun _ kS => XS.iloadN X71.here hx rfl (hb hby at_11) rfl kS) ?_
  show own_ComesH Z p e below s _ _ _ (T71.setTop (mkF m 12 #[.val (.int p0), .val (.int p1), .val (.int p2), .val (.int p3), .val (.int (p0 &&& (3 : Int32))), .val (.int z71), .unset, .unset, .unset, .unset, .unset] [(.int p2)]))
  obtain ⟨_, _, ⟨T73, L73, k73, n73⟩, -, Xw73, hs73, gr73, ⟨Lc73, hQ73, l73, y73, z73, CQ73⟩, st73⟩ := callSS X71 hx (y := (⟨"com/example/mixed_margins/mixedmargins/model/TimeUnitOfSymbolPinLaw", "pick", "(I)C"⟩ : MethodName)) hown71 (mvT hZ71 (hw _ (List.mem_of_getElem? (i := 0) rfl))) (mvT hZ71 (hw _ (List.mem_of_getElem? (i := 1) rfl))) (mvT hZ71 (hw _ (List.mem_of_getElem? (i := 2) rfl))) (mvT hZ71 (hw _ (List.mem_of_getElem? (i := 3) rfl))) (by decide) (backOfSH (W := 0) (rm1 l Z a0 hw [] p2 zc fm T71.heap n0 (Nat.le_trans Z0 E71.1) (O0.ext E71) Sz hzc Sf rf) hZ71 (hw _ (List.mem_of_getElem? (i := 3) rfl)) (hw _ (List.mem_of_getElem? (i := 2) rfl)) (by decide) (by decide) hEL CH72.1) (g := (mkF m 12 #[.val (.int p0), .val (.int p1), .val (.int p2), .val (.int p3), .val (.int (p0 &&& (3 : Int32))), .val (.int z71), .unset, .unset, .unset, .unset, .unset] [(.int p2)])) rfl (by rw [hml]; rfl) (argsL := [(.int p2)]) (rest := []) (lenOf pd__I_C_221 rfl) rfl (by show 2 * 0 + _ ≤ _; exact Nat.le_of_eq rfl) (hb hby at_12) (fun _ _ => ⟨rfl, rfl, (by decide : 2 + 2 ≤ _), (by decide : 20 + 20 ≤ _)⟩)
  dsimp only [Pt.U, Pt.locs, Pt.cells, Pt.slots] at Xw73 l73 y73 z73 st73 hQ73 hs73 gr73 CQ73
  subst l73 y73 z73
  obtain ⟨X73, hS73, hZ73, hown73⟩ := rebS hS71 (Nat.le_refl (Array.size T71.heap)) Xw73 hs73 gr73 hZ71 hown71
  obtain ⟨z73, rfl, N73q, E73, hz73⟩ := hQ73
  have N73 := Fr.app N71 N73q
  refine own_trH st73 ?_
  have CR74 := CQ73
  have CH74 := CH72.trans CR74
  show own_ComesH Z p e below s _ _ _ (T73.setTop (mkF m 15 #[.val (.int p0), .val (.int p1), .val (.int p2), .val (.int p3), .val (.int (p0 &&& (3 : Int32))), .val (.int z71), .unset, .unset, .unset, .unset, .unset] [(.int z73)]))
  refine own_byH (fun _ kS => XS.istore X73.here hx rfl (hb hby at_15) rfl (l' := #[.val (.int p0), .val (.int p1), .val (.int p2), .val (.int p3), .val (.int (p0 &&& (3 : Int32))), .val (.int z71), .val (.int z73), .unset, .unset, .unset, .unset]) rfl kS) ?_
  show own_ComesH Z p e below s _ _ _ (T73.setTop (mkF m 17 #[.val (.int p0), .val (.int p1), .val (.int p2), .val (.int p3), .val (.int (p0 &&& (3 : Int32))), .val (.int z71), .val (.int z73), .unset, .unset, .unset, .unset] []))
  refine own_byH (fun _ kS => XS.iloadN X73.here hx rfl (hb hby at_17) rfl kS) ?_
  show own_ComesH Z p e below s _ _ _ (T73.setTop (mkF m 18 #[.val (.int p0), .val (.int p1), .val (.int p2), .val (.int p3), .val (.int (p0 &&& (3 : Int32))), .val (.int z71), .val (.int z73), .unset, .unset, .unset, .unset] [(.int p3)]))
  obtain ⟨_, _, ⟨T75, L75, k75, n75⟩, -, Xw75, hs75, gr75, ⟨Lc75, hQ75, l75, y75, z75, CQ75⟩, st75⟩ := callSS X73 hx (y := (⟨"com/example/mixed_margins/mixedmargins/model/TimeUnitOfSymbolPinLaw", "pick", "(I)C"⟩ : MethodName)) hown73 (mvT hZ73 (hw _ (List.mem_of_getElem? (i := 0) rfl))) (mvT hZ73 (hw _ (List.mem_of_getElem? (i := 1) rfl))) (mvT hZ73 (hw _ (List.mem_of_getElem? (i := 2) rfl))) (mvT hZ73 (hw _ (List.mem_of_getElem? (i := 3) rfl))) (by decide) (backOfSH (W := 0) (rm1 l Z a0 hw [] p3 zc fm T73.heap n0 (Nat.le_trans (Nat.le_trans Z0 E71.1) E73.1) ((O0.ext E71).ext E73) Sz hzc Sf rf) hZ73 (hw _ (List.mem_of_getElem? (i := 3) rfl)) (hw _ (List.mem_of_getElem? (i := 2) rfl)) (by decide) (by decide) hEL CH74.1) (g := (mkF m 18 #[.val (.int p0), .val (.int p1), .val (.int p2), .val (.int p3), .val (.int (p0 &&& (3 : Int32))), .val (.int z71), .val (.int z73), .unset, .unset, .unset, .unset] [(.int p3)])) rfl (by rw [hml]; rfl) (argsL := [(.int p3)]) (rest := []) (lenOf pd__I_C_221 rfl) rfl (by show 2 * 0 + _ ≤ _; exact Nat.le_of_eq rfl) (hb hby at_18) (fun _ _ => ⟨rfl, rfl, (by decide : 4 + 2 ≤ _), (by decide : 40 + 20 ≤ _)⟩)
  dsimp only [Pt.U, Pt.locs, Pt.cells, Pt.slots] at Xw75 l75 y75 z75 st75 hQ75 hs75 gr75 CQ75
  subst l75 y75 z75
  obtain ⟨X75, hS75, hZ75, hown75⟩ := rebS hS73 (Nat.le_refl (Array.size T73.heap)) Xw75 hs75 gr75 hZ73 hown73
  obtain ⟨z75, rfl, N75q, E75, hz75⟩ := hQ75
  have N75 := Fr.app N73 N75q
  refine own_trH st75 ?_
  have CR76 := CQ75
  have CH76 := CH74.trans CR76
  show own_ComesH Z p e below s _ _ _ (T75.setTop (mkF m 21 #[.val (.int p0), .val (.int p1), .val (.int p2), .val (.int p3), .val (.int (p0 &&& (3 : Int32))), .val (.int z71), .val (.int z73), .unset, .unset, .unset, .unset] [(.int z75)]))
  refine own_byH (fun _ kS => XS.istore X75.here hx rfl (hb hby at_21) rfl (l' := #[.val (.int p0), .val (.int p1), .val (.int p2), .val (.int p3), .val (.int (p0 &&& (3 : Int32))), .val (.int z71), .val (.int z73), .val (.int z75), .unset, .unset, .unset]) rfl kS) ?_
  show own_ComesH Z p e below s _ _ _ (T75.setTop (mkF m 23 #[.val (.int p0), .val (.int p1), .val (.int p2), .val (.int p3), .val (.int (p0 &&& (3 : Int32))), .val (.int z71), .val (.int z73), .val (.int z75), .unset, .unset, .unset] []))
  refine own_byH (fun _ kS => XS.iload X75.here hx rfl (hb hby at_23) rfl kS) ?_
  show own_ComesH Z p e below s _ _ _ (T75.setTop (mkF m 25 #[.val (.int p0), .val (.int p1), .val (.int p2), .val (.int p3), .val (.int (p0 &&& (3 : Int32))), .val (.int z71), .val (.int z73), .val (.int z75), .unset, .unset, .unset] [(.int (p0 &&& (3 : Int32)))]))
  by_cases hl0 : (p0 &&& (3 : Int32)) = (0 : Int32)
  · refine own_byH (fun _ kS => XS.ifNo X75.here hx rfl (hb hby at_25) rfl ((if0 _ _).trans (teq hl0).2) kS) ?_
    show own_ComesH Z p e below s _ _ _ (T75.setTop (mkF m 28 #[.val (.int p0), .val (.int p1), .val (.int p2), .val (.int p3), .val (.int (p0 &&& (3 : Int32))), .val (.int z71), .val (.int z73), .val (.int z75), .unset, .unset, .unset] []))
    obtain ⟨T77, h77, X77, e77, E77, A77, D77, -, st77⟩ := newO X75 hx hZ75 hown75 (hw _ (List.mem_of_getElem? (i := 4) rfl)) (hw _ (List.mem_of_getElem? (i := 5) rfl)) (hw _ (List.mem_of_getElem? (i := 6) rfl)) rfl (g := (mkF m 28 #[.val (.int p0), .val (.int p1), .val (.int p2), .val (.int p3), .val (.int (p0 &&& (3 : Int32))), .val (.int z71), .val (.int z73), .val (.int z75), .unset, .unset, .unset] [])) rfl (hb hby at_28) (by decide) (by decide)
    obtain ⟨b77, g77⟩ : ∃ z, z = T75.heap.size := ⟨_, rfl⟩
    rw [← g77] at A77 D77 st77
    have g_b77 : n0 ≤ b77 := Nat.le_trans (Nat.le_trans (Nat.le_trans (Nat.le_trans Z0 E71.1) E73.1) E75.1) (Nat.le_of_eq g77.symm)
    refine own_byH st77 ?_
    have CR78 := CHr.ext E77 CH76.1
    have CH78 := CH76.trans CR78
    have sb77 := Safe.ext E77 CH76.1 (Safe.new (Nat.le_of_eq g77.symm))
    show own_ComesH Z p e below s _ _ _ (T77.setTop (mkF m 31 #[.val (.int p0), .val (.int p1), .val (.int p2), .val (.int p3), .val (.int (p0 &&& (3 : Int32))), .val (.int z71), .val (.int z73), .val (.int z75), .unset, .unset, .unset] [(.ref b77)]))
    refine own_byH (fun _ kS => XS.dup X77.here hx rfl (hb hby at_31) rfl rfl kS) ?_
    show own_ComesH Z p e below s _ _ _ (T77.setTop (mkF m 32 #[.val (.int p0), .val (.int p1), .val (.int p2), .val (.int p3), .val (.int (p0 &&& (3 : Int32))), .val (.int z71), .val (.int z73), .val (.int z75), .unset, .unset, .unset] [(.ref b77), (.ref b77)]))
    refine own_byH (fun _ kS => XS.iconst X77.here hx rfl (hb hby at_32) kS) ?_
    show own_ComesH Z p e below s _ _ _ (T77.setTop (mkF m 33 #[.val (.int p0), .val (.int p1), .val (.int p2), .val (.int p3), .val (.int (p0 &&& (3 : Int32))), .val (.int z71), .val (.int z73), .val (.int z75), .unset, .unset, .unset] [(.int (0 : Int32)), (.ref b77), (.ref b77)]))
    obtain ⟨T79, h79, k79, X79, e79, E79, A79, st79⟩ := newP X77 hx hZ75 (hw _ (List.mem_of_getElem? (i := 7) rfl)) e77 (g := (mkF m 33 #[.val (.int p0), .val (.int p1), .val (.int p2), .val (.int p3), .val (.int (p0 &&& (3 : Int32))), .val (.int z71), .val (.int z73), .val (.int z75), .unset, .unset, .unset] [(.int (0 : Int32)), (.ref b77), (.ref b77)])) rfl (hb hby at_33) rfl (by decide) (cap := 0) (by decide) (by decide) (by decide) (by decide)
    obtain ⟨b79, g79⟩ : ∃ z, z = h77.size := ⟨_, rfl⟩
    rw [← g79] at A79 st79
    have g_b79 : n0 ≤ b79 := Nat.le_trans (Nat.le_trans (Nat.le_trans (Nat.le_trans (Nat.le_trans Z0 E71.1) E73.1) E75.1) E77.1) (Nat.le_of_eq g79.symm)
    refine own_byH st79 ?_
    have CR80 := CHr.ext E79 CH78.1
    have CH80 := CH78.trans CR80
    have sb79 := Safe.ext E79 CH78.1 (Safe.new (Nat.le_of_eq g79.symm))
    have V_b79 : Arv Z h79 b79 k79 .char (0 : Int32) [] (.int (0 : Int32)) := (Arv.new A79 (by decide)).pad (pad_rep [] (.int (0 : Int32)) 0)
    show own_ComesH Z p e below s _ _ _ (T79.setTop (mkF m 35 #[.val (.int p0), .val (.int p1), .val (.int p2), .val (.int p3), .val (.int (p0 &&& (3 : Int32))), .val (.int z71), .val (.int z73), .val (.int z75), .unset, .unset, .unset] [(.ref b79), (.ref b77), (.ref b77)]))
    have nA : b77 ≠ b79 := Nat.ne_of_lt (Nat.lt_of_lt_of_le A77.lt (Nat.le_of_eq g79.symm))
    have c81 := ((D77 (Or.inr (hw _ (List.mem_of_getElem? (i := 20) rfl))) (ty := (.array .byte)) (by decide)).ext E79)
    have c82 := ((D77 (Or.inr (hw _ (List.mem_of_getElem? (i := 21) rfl))) (ty := .byte) (by decide)).ext E79)
    obtain ⟨_, _, ⟨T83, L83, k83, n83⟩, -, Xw83, hs83, gr83, ⟨Lc83, hQ83, l83, y83, z83, CQ83⟩, st83⟩ := X79.specialBackS hx (y := (⟨"java/lang/String", "<init>", "([C)V"⟩ : MethodName)) rfl hown75 (mvT hZ75 (hw _ (List.mem_of_getElem? (i := 8) rfl))) (mvT hZ75 (hw _ (List.mem_of_getElem? (i := 9) rfl))) (mvT hZ75 (hw _ (List.mem_of_getElem? (i := 10) rfl))) (by decide) (backOfSH (W := 1) (rm2 l Z a0 hw [] b77 b79 k79 h79 n0 (Nat.le_trans (Nat.le_trans (Nat.le_trans (Nat.le_trans (Nat.le_trans Z0 E71.1) E73.1) E75.1) E77.1) E79.1) (A77.ext E79) c81 c82 g_b77 V_b79) hZ75 (hw _ (List.mem_of_getElem? (i := 10) rfl)) (hw _ (List.mem_of_getElem? (i := 6) rfl)) (by decide) (by decide) hEL CH80.1) (g := (mkF m 35 #[.val (.int p0), .val (.int p1), .val (.int p2), .val (.int p3), .val (.int (p0 &&& (3 : Int32))), .val (.int z71), .val (.int z73), .val (.int z75), .unset, .unset, .unset] [(.ref b79), (.ref b77), (.ref b77)])) rfl (by rw [hml]; rfl) (Steps.refl _) (a := b77) (argsL := [(.ref b79)]) (rest := [(.ref b77)]) (lenOf pd___C_V_325 rfl) rfl (by show 2 * 0 + _ ≤ _; exact Nat.le_of_eq rfl) (hb hby at_35) (fun _ _ => ⟨rfl, e79, (by decide : 8 + 4 ≤ _), (by decide : 64 + 8 ≤ _)⟩)
    dsimp only [Pt.U, Pt.locs, Pt.cells, Pt.slots] at Xw83 l83 y83 z83 st83 hQ83 hs83 gr83 CQ83
    subst l83 y83 z83
    obtain ⟨X83, hS83, hZ83, hown83⟩ := rebS hS75 (by rw [e79]; exact (Nat.le_trans (Nat.le_trans (Nat.le_refl (Array.size T75.heap)) E77.1) E79.1)) Xw83 hs83 gr83 hZ75 hown75
    obtain ⟨rfl, N83q, K83, Y83⟩ := hQ83
    have N83 := Fr.app N75 N83q
    refine own_trH st83 ?_
    have CR84 := CQ83
    have CH84 := CH80.trans CR84
    show own_ComesH Z p e below s _ _ _ (T83.setTop (mkF m 38 #[.val (.int p0), .val (.int p1), .val (.int p2), .val (.int p3), .val (.int (p0 &&& (3 : Int32))), .val (.int z71), .val (.int z73), .val (.int z75), .unset, .unset, .unset] [(.ref b77)]))
    have hY := Y83
    refine own_byH (fun _ kS => XS.astore X83.here hx rfl (hb hby at_38) rfl rfl (l' := #[.val (.int p0), .val (.int p1), .val (.int p2), .val (.int p3), .val (.int (p0 &&& (3 : Int32))), .val (.int z71), .val (.int z73), .val (.int z75), .val (.ref b77), .unset, .unset]) rfl kS) ?_
    show own_ComesH Z p e below s _ _ _ (T83.setTop (mkF m 40 #[.val (.int p0), .val (.int p1), .val (.int p2), .val (.int p3), .val (.int (p0 &&& (3 : Int32))), .val (.int z71), .val (.int z73), .val (.int z75), .val (.ref b77), .unset, .unset] []))
    refine own_byH (fun _ kS => XS.goto X83.here hx rfl (pc0 := 40) (pc' := 127) rfl (hb hby at_40) (by decide) (by decide) kS) ?_
    show own_ComesH Z p e below s _ _ _ (T83.setTop (mkF m 127 #[.val (.int p0), .val (.int p1), .val (.int p2), .val (.int p3), .val (.int (p0 &&& (3 : Int32))), .val (.int z71), .val (.int z73), .val (.int z75), .val (.ref b77), .unset, .unset] []))
    refine own_byH (fun _ kS => XS.aload X83.here hx rfl (hb hby at_127) rfl rfl kS) ?_
    show own_ComesH Z p e below s _ _ _ (T83.setTop (mkF m 129 #[.val (.int p0), .val (.int p1), .val (.int p2), .val (.int p3), .val (.int (p0 &&& (3 : Int32))), .val (.int z71), .val (.int z73), .val (.int z75), .val (.ref b77), .unset, .unset] [(.ref b77)]))
    have c85 := ((((((O0.ext E71).ext E73).ext E75).ext E77).ext E79).keep K83 (allS g_b77 all0))
    obtain ⟨vv86, _, ⟨T86, L86, k86, n86⟩, -, X86, ⟨Lc86, hQ86, l86, y86, z86⟩, st86⟩ := Jvm.LawKit.callS X83 hx (y := (⟨"com/example/mixed_margins/mixedmargins/model/TimeUnit", "ofSymbol", "(Ljava/lang/String;)Ljava/util/Optional;"⟩ : MethodName)) hown83 (mvT hZ83 (hw _ (List.mem_of_getElem? (i := 26) rfl))) (mvT hZ83 (hw _ (List.mem_of_getElem? (i := 27) rfl))) (mvT hZ83 (hw _ (List.mem_of_getElem? (i := 28) rfl))) (mvT hZ83 (hw _ (List.mem_of_getElem? (i := 29) rfl))) (by decide) (backOf (W := 0) (rm5 l Z a0 hw [] b77 [] va kv u0 u1 u2 u3 y0 y1 y2 y3 em zc T83.heap n0 (Nat.le_trans (Nat.le_trans (Nat.le_trans (Nat.le_trans (Nat.le_trans (Nat.le_trans Z0 E71.1) E73.1) E75.1) E77.1) E79.1) K83.1) c85 Sv Vv Ev Fs_u0 Ss_u0 Fs_u1 Ss_u1 Fs_u2 Ss_u2 Fs_u3 Ss_u3 Sm Em Fm Sz hzc hY) hZ83 (hw _ (List.mem_of_getElem? (i := 29) rfl)) (hw _ (List.mem_of_getElem? (i := 28) rfl)) (by decide) (by decide)) (g := (mkF m 129 #[.val (.int p0), .val (.int p1), .val (.int p2), .val (.int p3), .val (.int (p0 &&& (3 : Int32))), .val (.int z71), .val (.int z73), .val (.int z75), .val (.ref b77), .unset, .unset] [(.ref b77)])) rfl (by rw [hml]; rfl) (argsL := [(.ref b77)]) (rest := []) (lenOf pd__Ljava_lang_String__Ljava_util_Optional__717 rfl) rfl (by show 2 * 0 + _ ≤ _; exact Nat.le_of_eq rfl) (hb hby at_129) (fun _ _ => ⟨rfl, rfl, (by decide : 12 + 2 ≤ _), (by decide : 72 + 5 ≤ _)⟩)
    dsimp only [Pt.U, Pt.locs, Pt.cells, Pt.slots] at X86 l86 y86 z86 st86 hQ86
    subst l86 y86 z86
    obtain ⟨o86, rfl, N86q, E86, Eo86, Fo86⟩ := hQ86
    have N86 := Fr.app N83 N86q
    refine own_byH st86 ?_
    have CR87 := CHr.ext E86 CH84.1
    have CH87 := CH84.trans CR87
    show own_ComesH Z p e below s _ _ _ (T86.setTop (mkF m 132 #[.val (.int p0), .val (.int p1), .val (.int p2), .val (.int p3), .val (.int (p0 &&& (3 : Int32))), .val (.int z71), .val (.int z73), .val (.int z75), .val (.ref b77), .unset, .unset] [(.ref o86)]))
    rw [own_u0] at Fo86
    refine own_byH (fun _ kS => XS.aconstNull X86.here hx rfl (hb hby at_132) kS) ?_
    show own_ComesH Z p e below s _ _ _ (T86.setTop (mkF m 133 #[.val (.int p0), .val (.int p1), .val (.int p2), .val (.int p3), .val (.int (p0 &&& (3 : Int32))), .val (.int z71), .val (.int z73), .val (.int z75), .val (.ref b77), .unset, .unset] [.null, (.ref o86)]))
    obtain ⟨cq88, kq88, q88a, q88b, q88c⟩ := isOf hZ83 rfl Eo86
    obtain ⟨vv88, _, ⟨T88, L88, k88, n88⟩, -, X88, ⟨Lc88, hQ88, l88, y88, z88⟩, st88⟩ := X86.virtualBack hx (y := (⟨"java/util/Optional", "orElse", "(Ljava/lang/Object;)Ljava/lang/Object;"⟩ : MethodName)) (z := (⟨"java/util/Optional", "orElse", "(Ljava/lang/Object;)Ljava/lang/Object;"⟩ : MethodName)) hown83 (mvT hZ83 (hw _ (List.mem_of_getElem? (i := 67) rfl))) (mvT hZ83 (hw _ (List.mem_of_getElem? (i := 68) rfl))) (notFace_of_selects (args := #[]) (mvT hZ83 (hw _ (List.mem_of_getElem? (i := 70) rfl)))) (mvT hZ83 (hw _ (List.mem_of_getElem? (i := 70) rfl))) (mvT hZ83 (hw _ (List.mem_of_getElem? (i := 69) rfl))) (by decide) (backOf (W := 0) (rm10n l Z a0 hw [] o86 T86.heap n0 (Nat.le_trans (Nat.le_trans (Nat.le_trans (Nat.le_trans (Nat.le_trans (Nat.le_trans (Nat.le_trans Z0 E71.1) E73.1) E75.1) E77.1) E79.1) K83.1) E86.1) Fo86) hZ83 (hw _ (List.mem_of_getElem? (i := 71) rfl)) (hw _ (List.mem_of_getElem? (i := 64) rfl)) (by decide) (by decide)) q88a q88c (g := (mkF m 133 #[.val (.int p0), .val (.int p1), .val (.int p2), .val (.int p3), .val (.int (p0 &&& (3 : Int32))), .val (.int z71), .val (.int z73), .val (.int z75), .val (.ref b77), .unset, .unset] [.null, (.ref o86)])) rfl (by rw [hml]; rfl) (Steps.refl _) (argsL := [.null]) (rest := []) (lenOf pd__Ljava_lang_Object__Ljava_lang_Object__418 rfl) rfl (by show 2 * 0 + _ ≤ _; exact Nat.le_of_eq rfl) (hb hby at_133) (fun _ _ => ⟨rfl, rfl, (by decide : 14 + 0 ≤ _), (by decide : 77 + 0 ≤ _)⟩)
    dsimp only [Pt.U, Pt.locs, Pt.cells, Pt.slots] at X88 l88 y88 z88 st88 hQ88
    subst l88 y88 z88
    obtain ⟨rfl, N88q, e88q⟩ := hQ88
    have N88 := Fr.app N86 N88q
    refine own_trH st88 ?_
    have e88 : T88.heap = T86.heap := e88q
    show own_ComesH Z p e below s _ _ _ (T88.setTop (mkF m 136 #[.val (.int p0), .val (.int p1), .val (.int p2), .val (.int p3), .val (.int (p0 &&& (3 : Int32))), .val (.int z71), .val (.int z73), .val (.int z75), .val (.ref b77), .unset, .unset] [.null]))
    refine own_byH (fun _ kS => X88.checkcastNull hx (g := (mkF m 136 #[.val (.int p0), .val (.int p1), .val (.int p2), .val (.int p3), .val (.int (p0 &&& (3 : Int32))), .val (.int z71), .val (.int z73), .val (.int z75), .val (.ref b77), .unset, .unset] [.null])) rfl rfl (hb hby at_136) _ kS) ?_
    show own_ComesH Z p e below s _ _ _ (T88.setTop (mkF m 139 #[.val (.int p0), .val (.int p1), .val (.int p2), .val (.int p3), .val (.int (p0 &&& (3 : Int32))), .val (.int z71), .val (.int z73), .val (.int z75), .val (.ref b77), .unset, .unset] [.null]))
    refine own_byH (fun _ kS => XS.astore X88.here hx rfl (hb hby at_139) rfl rfl (l' := #[.val (.int p0), .val (.int p1), .val (.int p2), .val (.int p3), .val (.int (p0 &&& (3 : Int32))), .val (.int z71), .val (.int z73), .val (.int z75), .val (.ref b77), .val .null, .unset]) rfl kS) ?_
    show own_ComesH Z p e below s _ _ _ (T88.setTop (mkF m 141 #[.val (.int p0), .val (.int p1), .val (.int p2), .val (.int p3), .val (.int (p0 &&& (3 : Int32))), .val (.int z71), .val (.int z73), .val (.int z75), .val (.ref b77), .val .null, .unset] []))
    refine own_byH (fun _ kS => XS.aconstNull X88.here hx rfl (hb hby at_141) kS) ?_
    show own_ComesH Z p e below s _ _ _ (T88.setTop (mkF m 142 #[.val (.int p0), .val (.int p1), .val (.int p2), .val (.int p3), .val (.int (p0 &&& (3 : Int32))), .val (.int z71), .val (.int z73), .val (.int z75), .val (.ref b77), .val .null, .unset] [.null]))
    refine own_byH (fun _ kS => XS.astore X88.here hx rfl (hb hby at_142) rfl rfl (l' := #[.val (.int p0), .val (.int p1), .val (.int p2), .val (.int p3), .val (.int (p0 &&& (3 : Int32))), .val (.int z71), .val (.int z73), .val (.int z75), .val (.ref b77), .val .null, .val .null]) rfl kS) ?_
    show own_ComesH Z p e below s _ _ _ (T88.setTop (mkF m 144 #[.val (.int p0), .val (.int p1), .val (.int p2), .val (.int p3), .val (.int (p0 &&& (3 : Int32))), .val (.int z71), .val (.int z73), .val (.int z75), .val (.ref b77), .val .null, .val .null] []))
    refine own_byH (fun _ kS => XS.iload X88.here hx rfl (hb hby at_144) rfl kS) ?_
    show own_ComesH Z p e below s _ _ _ (T88.setTop (mkF m 146 #[.val (.int p0), .val (.int p1), .val (.int p2), .val (.int p3), .val (.int (p0 &&& (3 : Int32))), .val (.int z71), .val (.int z73), .val (.int z75), .val (.ref b77), .val .null, .val .null] [(.int (p0 &&& (3 : Int32)))]))
    refine own_byH (fun _ kS => XS.iconst X88.here hx rfl (hb hby at_146) kS) ?_
    show own_ComesH Z p e below s _ _ _ (T88.setTop (mkF m 147 #[.val (.int p0), .val (.int p1), .val (.int p2), .val (.int p3), .val (.int (p0 &&& (3 : Int32))), .val (.int z71), .val (.int z73), .val (.int z75), .val (.ref b77), .val .null, .val .null] [(.int (1 : Int32)), (.int (p0 &&& (3 : Int32)))]))
    have hb89 : ¬ ((p0 &&& (3 : Int32)) = (1 : Int32)) := fun q => absurd (hl0.symm.trans q) (by decide)
    refine own_byH (fun _ kS => XS.icmpYes X88.here hx rfl (pc0 := 147) (pc' := 165) rfl (hb hby at_147) rfl (feq hb89).2 (by decide) (by decide) kS) ?_
    show own_ComesH Z p e below s _ _ _ (T88.setTop (mkF m 165 #[.val (.int p0), .val (.int p1), .val (.int p2), .val (.int p3), .val (.int (p0 &&& (3 : Int32))), .val (.int z71), .val (.int z73), .val (.int z75), .val (.ref b77), .val .null, .val .null] []))
    refine own_byH (fun _ kS => XS.iload X88.here hx rfl (hb hby at_165) rfl kS) ?_
    show own_ComesH Z p e below s _ _ _ (T88.setTop (mkF m 167 #[.val (.int p0), .val (.int p1), .val (.int p2), .val (.int p3), .val (.int (p0 &&& (3 : Int32))), .val (.int z71), .val (.int z73), .val (.int z75), .val (.ref b77), .val .null, .val .null] [(.int (p0 &&& (3 : Int32)))]))
    refine own_byH (fun _ kS => XS.iconst X88.here hx rfl (hb hby at_167) kS) ?_
    show own_ComesH Z p e below s _ _ _ (T88.setTop (mkF m 168 #[.val (.int p0), .val (.int p1), .val (.int p2), .val (.int p3), .val (.int (p0 &&& (3 : Int32))), .val (.int z71), .val (.int z73), .val (.int z75), .val (.ref b77), .val .null, .val .null] [(.int (2 : Int32)), (.int (p0 &&& (3 : Int32)))]))
    have hb90 : ¬ ((p0 &&& (3 : Int32)) = (2 : Int32)) := fun q => absurd (hl0.symm.trans q) (by decide)
    refine own_byH (fun _ kS => XS.icmpYes X88.here hx rfl (pc0 := 168) (pc' := 220) rfl (hb hby at_168) rfl (feq hb90).2 (by decide) (by decide) kS) ?_
    show own_ComesH Z p e below s _ _ _ (T88.setTop (mkF m 220 #[.val (.int p0), .val (.int p1), .val (.int p2), .val (.int p3), .val (.int (p0 &&& (3 : Int32))), .val (.int z71), .val (.int z73), .val (.int z75), .val (.ref b77), .val .null, .val .null] []))
    refine own_byH (fun _ kS => XS.aload X88.here hx rfl (hb hby at_220) rfl rfl kS) ?_
    show own_ComesH Z p e below s _ _ _ (T88.setTop (mkF m 222 #[.val (.int p0), .val (.int p1), .val (.int p2), .val (.int p3), .val (.int (p0 &&& (3 : Int32))), .val (.int z71), .val (.int z73), .val (.int z75), .val (.ref b77), .val .null, .val .null] [.null]))
    refine own_byH (fun _ kS => XS.aload X88.here hx rfl (hb hby at_222) rfl rfl kS) ?_
    show own_ComesH Z p e below s _ _ _ (T88.setTop (mkF m 224 #[.val (.int p0), .val (.int p1), .val (.int p2), .val (.int p3), .val (.int (p0 &&& (3 : Int32))), .val (.int z71), .val (.int z73), .val (.int z75), .val (.ref b77), .val .null, .val .null] [.null, .null]))
    refine own_byH (fun _ kS => Jvm.RoadKit.acmp (g := (mkF m 224 #[.val (.int p0), .val (.int p1), .val (.int p2), .val (.int p3), .val (.int (p0 &&& (3 : Int32))), .val (.int z71), .val (.int z73), .val (.int z75), .val (.ref b77), .val .null, .val .null] [.null, .null])) X88 hx rfl rfl rfl (pc0 := 224) (pc' := 227) (same := true) rfl (hb hby at_224) rfl (decide_eq_true rfl) (by decide) (by decide) kS) ?_
    show own_ComesH Z p e below s _ _ _ (T88.setTop (mkF m 227 #[.val (.int p0), .val (.int p1), .val (.int p2), .val (.int p3), .val (.int (p0 &&& (3 : Int32))), .val (.int z71), .val (.int z73), .val (.int z75), .val (.ref b77), .val .null, .val .null] []))
    refine own_byH (fun _ kS => XS.iconst X88.here hx rfl (hb hby at_227) kS) ?_
    show own_ComesH Z p e below s _ _ _ (T88.setTop (mkF m 228 #[.val (.int p0), .val (.int p1), .val (.int p2), .val (.int p3), .val (.int (p0 &&& (3 : Int32))), .val (.int z71), .val (.int z73), .val (.int z75), .val (.ref b77), .val .null, .val .null] [(.int (1 : Int32))]))
    refine own_byH (fun _ kS => XS.goto X88.here hx rfl (pc0 := 228) (pc' := 232) rfl (hb hby at_228) (by decide) (by decide) kS) ?_
    show own_ComesH Z p e below s _ _ _ (T88.setTop (mkF m 232 #[.val (.int p0), .val (.int p1), .val (.int p2), .val (.int p3), .val (.int (p0 &&& (3 : Int32))), .val (.int z71), .val (.int z73), .val (.int z75), .val (.ref b77), .val .null, .val .null] [(.int (1 : Int32))]))
    have hkr91 := (Nat.le_trans (Nat.le_refl (Array.size T83.heap)) E86.1)
    have hcr91 := CH87.trans (CHv.at X88 hZ83 hEL CH87.1)
    refine own_retH X88 hS83 (by rw [e88]; exact hkr91) (by rw [hh]; rw [e88]; exact hcr91) (v := some (.int (1 : Int32))) (fun h => by rw [Bd.returns] at h; cases h) Bd.notSynchronized (by decide) (by decide) ?_ (fun fs hr => retN X88 hx (t := .boolean) Bd.returns (by simp) (hb hby at_232) hr)
    rw [e88]; exact ⟨rfl, N88⟩
  · refine own_byH (fun _ kS => XS.ifYes X75.here hx rfl (pc0 := 25) (pc' := 43) rfl (hb hby at_25) rfl ((if0 _ _).trans (feq hl0).2) (by decide) (by decide) kS) ?_
    show own_ComesH Z p e below s _ _ _ (T75.setTop (mkF m 43 #[.val (.int p0), .val (.int p1), .val (.int p2), .val (.int p3), .val (.int (p0 &&& (3 : Int32))), .val (.int z71), .val (.int z73), .val (.int z75), .unset, .unset, .unset] []))
    refine own_byH (fun _ kS => XS.iload X75.here hx rfl (hb hby at_43) rfl kS) ?_
    show own_ComesH Z p e below s _ _ _ (T75.setTop (mkF m 45 #[.val (.int p0), .val (.int p1), .val (.int p2), .val (.int p3), .val (.int (p0 &&& (3 : Int32))), .val (.int z71), .val (.int z73), .val (.int z75), .unset, .unset, .unset] [(.int (p0 &&& (3 : Int32)))]))
    refine own_byH (fun _ kS => XS.iconst X75.here hx rfl (hb hby at_45) kS) ?_
    show own_ComesH Z p e below s _ _ _ (T75.setTop (mkF m 46 #[.val (.int p0), .val (.int p1), .val (.int p2), .val (.int p3), .val (.int (p0 &&& (3 : Int32))), .val (.int z71), .val (.int z73), .val (.int z75), .unset, .unset, .unset] [(.int (1 : Int32)), (.int (p0 &&& (3 : Int32)))]))
    by_cases hl1 : (p0 &&& (3 : Int32)) = (1 : Int32)
    · refine own_byH (fun _ kS => XS.icmpNo X75.here hx rfl (hb hby at_46) rfl (teq hl1).2 kS) ?_
      show own_ComesH Z p e below s _ _ _ (T75.setTop (mkF m 49 #[.val (.int p0), .val (.int p1), .val (.int p2), .val (.int p3), .val (.int (p0 &&& (3 : Int32))), .val (.int z71), .val (.int z73), .val (.int z75), .unset, .unset, .unset] []))
      obtain ⟨T92, h92, X92, e92, E92, A92, D92, -, st92⟩ := newO X75 hx hZ75 hown75 (hw _ (List.mem_of_getElem? (i := 4) rfl)) (hw _ (List.mem_of_getElem? (i := 5) rfl)) (hw _ (List.mem_of_getElem? (i := 6) rfl)) rfl (g := (mkF m 49 #[.val (.int p0), .val (.int p1), .val (.int p2), .val (.int p3), .val (.int (p0 &&& (3 : Int32))), .val (.int z71), .val (.int z73), .val (.int z75), .unset, .unset, .unset] [])) rfl (hb hby at_49) (by decide) (by decide)
      obtain ⟨b92, g92⟩ : ∃ z, z = T75.heap.size := ⟨_, rfl⟩
      rw [← g92] at A92 D92 st92
      have g_b92 : n0 ≤ b92 := Nat.le_trans (Nat.le_trans (Nat.le_trans (Nat.le_trans Z0 E71.1) E73.1) E75.1) (Nat.le_of_eq g92.symm)
      refine own_byH st92 ?_
      have CR93 := CHr.ext E92 CH76.1
      have CH93 := CH76.trans CR93
      have sb92 := Safe.ext E92 CH76.1 (Safe.new (Nat.le_of_eq g92.symm))
      show own_ComesH Z p e below s _ _ _ (T92.setTop (mkF m 52 #[.val (.int p0), .val (.int p1), .val (.int p2), .val (.int p3), .val (.int (p0 &&& (3 : Int32))), .val (.int z71), .val (.int z73), .val (.int z75), .unset, .unset, .unset] [(.ref b92)]))
      refine own_byH (fun _ kS => XS.dup X92.here hx rfl (hb hby at_52) rfl rfl kS) ?_
      show own_ComesH Z p e below s _ _ _ (T92.setTop (mkF m 53 #[.val (.int p0), .val (.int p1), .val (.int p2), .val (.int p3), .val (.int (p0 &&& (3 : Int32))), .val (.int z71), .val (.int z73), .val (.int z75), .unset, .unset, .unset] [(.ref b92), (.ref b92)]))
      refine own_byH (fun _ kS => XS.iconst X92.here hx rfl (hb hby at_53) kS) ?_
      show own_ComesH Z p e below s _ _ _ (T92.setTop (mkF m 54 #[.val (.int p0), .val (.int p1), .val (.int p2), .val (.int p3), .val (.int (p0 &&& (3 : Int32))), .val (.int z71), .val (.int z73), .val (.int z75), .unset, .unset, .unset] [(.int (1 : Int32)), (.ref b92), (.ref b92)]))
      obtain ⟨T94, h94, k94, X94, e94, E94, A94, st94⟩ := newP X92 hx hZ75 (hw _ (List.mem_of_getElem? (i := 7) rfl)) e92 (g := (mkF m 54 #[.val (.int p0), .val (.int p1), .val (.int p2), .val (.int p3), .val (.int (p0 &&& (3 : Int32))), .val (.int z71), .val (.int z73), .val (.int z75), .unset, .unset, .unset] [(.int (1 : Int32)), (.ref b92), (.ref b92)])) rfl (hb hby at_54) rfl (by decide) (cap := 1) (by decide) (by decide) (by decide) (by decide)
      obtain ⟨b94, g94⟩ : ∃ z, z = h92.size := ⟨_, rfl⟩
      rw [← g94] at A94 st94
      have g_b94 : n0 ≤ b94 := Nat.le_trans (Nat.le_trans (Nat.le_trans (Nat.le_trans (Nat.le_trans Z0 E71.1) E73.1) E75.1) E92.1) (Nat.le_of_eq g94.symm)
      refine own_byH st94 ?_
      have CR95 := CHr.ext E94 CH93.1
      have CH95 := CH93.trans CR95
      have sb94 := Safe.ext E94 CH93.1 (Safe.new (Nat.le_of_eq g94.symm))
      have V_b94 : Arv Z h94 b94 k94 .char (1 : Int32) [(.int (0 : Int32))] (.int (0 : Int32)) := (Arv.new A94 (by decide)).pad (pad_rep [] (.int (0 : Int32)) 1)
      show own_ComesH Z p e below s _ _ _ (T94.setTop (mkF m 56 #[.val (.int p0), .val (.int p1), .val (.int p2), .val (.int p3), .val (.int (p0 &&& (3 : Int32))), .val (.int z71), .val (.int z73), .val (.int z75), .unset, .unset, .unset] [(.ref b94), (.ref b92), (.ref b92)]))
      have nA : b92 ≠ b94 := Nat.ne_of_lt (Nat.lt_of_lt_of_le A92.lt (Nat.le_of_eq g94.symm))
      refine own_byH (fun _ kS => XS.dup X94.here hx rfl (hb hby at_56) rfl rfl kS) ?_
      show own_ComesH Z p e below s _ _ _ (T94.setTop (mkF m 57 #[.val (.int p0), .val (.int p1), .val (.int p2), .val (.int p3), .val (.int (p0 &&& (3 : Int32))), .val (.int z71), .val (.int z73), .val (.int z75), .unset, .unset, .unset] [(.ref b94), (.ref b94), (.ref b92), (.ref b92)]))
      refine own_byH (fun _ kS => XS.iconst X94.here hx rfl (hb hby at_57) kS) ?_
      show own_ComesH Z p e below s _ _ _ (T94.setTop (mkF m 58 #[.val (.int p0), .val (.int p1), .val (.int p2), .val (.int p3), .val (.int (p0 &&& (3 : Int32))), .val (.int z71), .val (.int z73), .val (.int z75), .unset, .unset, .unset] [(.int (0 : Int32)), (.ref b94), (.ref b94), (.ref b92), (.ref b92)]))
      refine own_byH (fun _ kS => XS.iload X94.here hx rfl (hb hby at_58) rfl kS) ?_
      show own_ComesH Z p e below s _ _ _ (T94.setTop (mkF m 60 #[.val (.int p0), .val (.int p1), .val (.int p2), .val (.int p3), .val (.int (p0 &&& (3 : Int32))), .val (.int z71), .val (.int z73), .val (.int z75), .unset, .unset, .unset] [(.int z71), (.int (0 : Int32)), (.ref b94), (.ref b94), (.ref b92), (.ref b92)]))
      have Vo96 := V_b94
      obtain ⟨cl96, Ar96, qA96, SA96, NA96, HA96, GA96⟩ := Vo96
      have hin96 : ¬ ((0 : Int32) < 0 ∨ cl96.slots.size ≤ ((0 : Int32)).toNatClampNeg) := inb_of SA96 ⟨by decide, by decide⟩
      obtain ⟨T97, h97, X97, e97, W97, st97⟩ := stC X94 hx hZ75 e94 Ar96 (j := (0 : Int32)) hin96 (g := (mkF m 60 #[.val (.int p0), .val (.int p1), .val (.int p2), .val (.int p3), .val (.int (p0 &&& (3 : Int32))), .val (.int z71), .val (.int z73), .val (.int z75), .unset, .unset, .unset] [(.int z71), (.int (0 : Int32)), (.ref b94), (.ref b94), (.ref b92), (.ref b92)])) rfl rfl (hb hby at_60)
      refine own_byH st97 ?_
      have V97 : Arv Z h97 b94 k94 .char (1 : Int32) [(.int (nar .char z71))] (.int (0 : Int32)) := Arv.set Ar96 qA96 SA96 NA96 HA96 GA96 (by first | rfl | exact fits_nar_char _) W97 0 rfl (Nat.le_of_ble_eq_true rfl)
      have CR98 := CHr.wr W97 sb94 CH95.1
      have CH98 := CH95.trans CR98
      have N97 := Fr.snoc X97 N75 g_b94
      show own_ComesH Z p e below s _ _ _ (T97.setTop (mkF m 61 #[.val (.int p0), .val (.int p1), .val (.int p2), .val (.int p3), .val (.int (p0 &&& (3 : Int32))), .val (.int z71), .val (.int z73), .val (.int z75), .unset, .unset, .unset] [(.ref b94), (.ref b92), (.ref b92)]))
      have Vc := V97
      rw [own_narc hz71] at Vc
      have hws : ∀ d ∈ StrChars.Road.words, d.before a0 Z = true := fun d hd => hw d ((by decide +kernel : ∀ d ∈ StrChars.Road.words, d ∈ tables_1) d hd)
      have hp : ∀ c ∈ [z71], ¬ c < 0 ∧ ¬ (255 : Int32) < c := fun c hc => by
        simp only [List.mem_cons, List.not_mem_nil, or_false] at hc
        rcases hc with rfl
        · exact hz71
      have c99 := (((D92 (Or.inr (hw _ (List.mem_of_getElem? (i := 20) rfl))) (ty := (.array .byte)) (by decide)).ext E94).other W97 (Or.inl nA))
      have c100 := (((D92 (Or.inr (hw _ (List.mem_of_getElem? (i := 21) rfl))) (ty := .byte) (by decide)).ext E94).other W97 (Or.inl nA))
      have c101 := ((((((O0.ext E71).ext E73).ext E75).ext E92).ext E94).wr W97 g_b94)
      obtain ⟨vv102, _, ⟨T102, L102, k102, n102⟩, -, X102, ⟨Lc102, hQ102, l102, y102, z102⟩, st102⟩ := X97.specialBack hx (y := (⟨"java/lang/String", "<init>", "([C)V"⟩ : MethodName)) rfl hown75 (mvT hZ75 (hw _ (List.mem_of_getElem? (i := 8) rfl))) (mvT hZ75 (hw _ (List.mem_of_getElem? (i := 9) rfl))) (mvT hZ75 (hw _ (List.mem_of_getElem? (i := 10) rfl))) (by decide) (StrChars.Road.backV (W := 1) hZ75 hws (kI := 4) (hw _ (List.mem_of_getElem? (i := 5) rfl)) (cs := [z71]) (bs := [z71].map (fun c => c.toInt8.toInt32)) (n := 1) (n0 := n0) g_b92 (Nat.le_trans (Nat.le_trans (Nat.le_trans (Nat.le_trans (Nat.le_trans (Nat.le_trans Z0 E71.1) E73.1) E75.1) E92.1) E94.1) (Keep.of_wr W97).1) ((A92.ext E94).wr W97) c99 c100 Vc (Sz.ext c101.2) hzc rfl rfl (by decide) (by decide) hp rfl (by decide) (by decide)) (g := (mkF m 61 #[.val (.int p0), .val (.int p1), .val (.int p2), .val (.int p3), .val (.int (p0 &&& (3 : Int32))), .val (.int z71), .val (.int z73), .val (.int z75), .unset, .unset, .unset] [(.ref b94), (.ref b92), (.ref b92)])) rfl (by rw [hml]; rfl) (Steps.refl _) (a := b92) (argsL := [(.ref b94)]) (rest := [(.ref b92)]) (lenOf pd___C_V_325 rfl) rfl (by show 2 * 0 + _ ≤ _; exact Nat.le_of_eq rfl) (hb hby at_61) (fun _ _ => ⟨rfl, e97, (by decide : 8 + 1 ≤ _), (by decide : 65 + 1 ≤ _)⟩)
      dsimp only [Pt.U, Pt.locs, Pt.cells, Pt.slots] at X102 l102 y102 z102 st102 hQ102
      subst l102 y102 z102
      obtain ⟨rfl, N102q, K102, Eb102, Cb102, t102, kb102, _, _, _, Vb102, Ab102⟩ := hQ102
      have N102 := Fr.app N97 N102q
      refine own_trH st102 ?_
      have sf104 := (CR95.trans CR98).safe A92.lt sb92
      have CR103 := CHr.keep K102 (sfS sf104 sf0) CH98.1
      have CH103 := CH98.trans CR103
      show own_ComesH Z p e below s _ _ _ (T102.setTop (mkF m 64 #[.val (.int p0), .val (.int p1), .val (.int p2), .val (.int p3), .val (.int (p0 &&& (3 : Int32))), .val (.int z71), .val (.int z73), .val (.int z75), .unset, .unset, .unset] [(.ref b92)]))
      have hY : own_Str Z T102.heap b92 [z71] := ⟨Eb102, t102, kb102, _, _, Vb102, Cb102, Ab102, StrChars.Road.codOf rfl (fun c hc => (hp c hc).2), fun c hc => own_up (hp c hc), Nat.le_of_ble_eq_true rfl⟩
      refine own_byH (fun _ kS => XS.astore X102.here hx rfl (hb hby at_64) rfl rfl (l' := #[.val (.int p0), .val (.int p1), .val (.int p2), .val (.int p3), .val (.int (p0 &&& (3 : Int32))), .val (.int z71), .val (.int z73), .val (.int z75), .val (.ref b92), .unset, .unset]) rfl kS) ?_
      show own_ComesH Z p e below s _ _ _ (T102.setTop (mkF m 66 #[.val (.int p0), .val (.int p1), .val (.int p2), .val (.int p3), .val (.int (p0 &&& (3 : Int32))), .val (.int z71), .val (.int z73), .val (.int z75), .val (.ref b92), .unset, .unset] []))
      refine own_byH (fun _ kS => XS.goto X102.here hx rfl (pc0 := 66) (pc' := 127) rfl (hb hby at_66) (by decide) (by decide) kS) ?_
      show own_ComesH Z p e below s _ _ _ (T102.setTop (mkF m 127 #[.val (.int p0), .val (.int p1), .val (.int p2), .val (.int p3), .val (.int (p0 &&& (3 : Int32))), .val (.int z71), .val (.int z73), .val (.int z75), .val (.ref b92), .unset, .unset] []))
      by_cases hc0 : z71 = (115 : Int32)
      · show own_ComesH Z p e below s _ _ _ (T102.setTop (mkF m 127 #[.val (.int p0), .val (.int p1), .val (.int p2), .val (.int p3), .val (.int (p0 &&& (3 : Int32))), .val (.int z71), .val (.int z73), .val (.int z75), .val (.ref b92), .unset, .unset] []))
        refine own_byH (fun _ kS => XS.aload X102.here hx rfl (hb hby at_127) rfl rfl kS) ?_
        show own_ComesH Z p e below s _ _ _ (T102.setTop (mkF m 129 #[.val (.int p0), .val (.int p1), .val (.int p2), .val (.int p3), .val (.int (p0 &&& (3 : Int32))), .val (.int z71), .val (.int z73), .val (.int z75), .val (.ref b92), .unset, .unset] [(.ref b92)]))
        obtain ⟨vv105, _, ⟨T105, L105, k105, n105⟩, -, X105, ⟨Lc105, hQ105, l105, y105, z105⟩, st105⟩ := Jvm.LawKit.callS X102 hx (y := (⟨"com/example/mixed_margins/mixedmargins/model/TimeUnit", "ofSymbol", "(Ljava/lang/String;)Ljava/util/Optional;"⟩ : MethodName)) hown75 (mvT hZ75 (hw _ (List.mem_of_getElem? (i := 26) rfl))) (mvT hZ75 (hw _ (List.mem_of_getElem? (i := 27) rfl))) (mvT hZ75 (hw _ (List.mem_of_getElem? (i := 28) rfl))) (mvT hZ75 (hw _ (List.mem_of_getElem? (i := 29) rfl))) (by decide) (backOf (W := 0) (rm5 l Z a0 hw [] b92 [z71] va kv u0 u1 u2 u3 y0 y1 y2 y3 em zc T102.heap n0 (Nat.le_trans (Nat.le_trans (Nat.le_trans (Nat.le_trans (Nat.le_trans (Nat.le_trans (Nat.le_trans Z0 E71.1) E73.1) E75.1) E92.1) E94.1) (Keep.of_wr W97).1) K102.1) (c101.keep K102 (allS g_b92 all0)) Sv Vv Ev Fs_u0 Ss_u0 Fs_u1 Ss_u1 Fs_u2 Ss_u2 Fs_u3 Ss_u3 Sm Em Fm Sz hzc hY) hZ75 (hw _ (List.mem_of_getElem? (i := 29) rfl)) (hw _ (List.mem_of_getElem? (i := 28) rfl)) (by decide) (by decide)) (g := (mkF m 129 #[.val (.int p0), .val (.int p1), .val (.int p2), .val (.int p3), .val (.int (p0 &&& (3 : Int32))), .val (.int z71), .val (.int z73), .val (.int z75), .val (.ref b92), .unset, .unset] [(.ref b92)])) rfl (by rw [hml]; rfl) (argsL := [(.ref b92)]) (rest := []) (lenOf pd__Ljava_lang_String__Ljava_util_Optional__717 rfl) rfl (by show 2 * 0 + _ ≤ _; exact Nat.le_of_eq rfl) (hb hby at_129) (fun _ _ => ⟨rfl, rfl, (by decide : 9 + 2 ≤ _), (by decide : 66 + 5 ≤ _)⟩)
        dsimp only [Pt.U, Pt.locs, Pt.cells, Pt.slots] at X105 l105 y105 z105 st105 hQ105
        subst l105 y105 z105
        obtain ⟨o105, rfl, N105q, E105, Eo105, Fo105⟩ := hQ105
        have N105 := Fr.app N102 N105q
        refine own_byH st105 ?_
        have CR106 := CHr.ext E105 CH103.1
        have CH106 := CH103.trans CR106
        show own_ComesH Z p e below s _ _ _ (T105.setTop (mkF m 132 #[.val (.int p0), .val (.int p1), .val (.int p2), .val (.int p3), .val (.int (p0 &&& (3 : Int32))), .val (.int z71), .val (.int z73), .val (.int z75), .val (.ref b92), .unset, .unset] [(.ref o105)]))
        rw [own_u1y _ _ _ _ hc0] at Fo105
        refine own_byH (fun _ kS => XS.aconstNull X105.here hx rfl (hb hby at_132) kS) ?_
        show own_ComesH Z p e below s _ _ _ (T105.setTop (mkF m 133 #[.val (.int p0), .val (.int p1), .val (.int p2), .val (.int p3), .val (.int (p0 &&& (3 : Int32))), .val (.int z71), .val (.int z73), .val (.int z75), .val (.ref b92), .unset, .unset] [.null, (.ref o105)]))
        obtain ⟨cq107, kq107, q107a, q107b, q107c⟩ := isOf hZ75 rfl Eo105
        obtain ⟨vv107, _, ⟨T107, L107, k107, n107⟩, -, X107, ⟨Lc107, hQ107, l107, y107, z107⟩, st107⟩ := X105.virtualBack hx (y := (⟨"java/util/Optional", "orElse", "(Ljava/lang/Object;)Ljava/lang/Object;"⟩ : MethodName)) (z := (⟨"java/util/Optional", "orElse", "(Ljava/lang/Object;)Ljava/lang/Object;"⟩ : MethodName)) hown75 (mvT hZ75 (hw _ (List.mem_of_getElem? (i := 67) rfl))) (mvT hZ75 (hw _ (List.mem_of_getElem? (i := 68) rfl))) (notFace_of_selects (args := #[]) (mvT hZ75 (hw _ (List.mem_of_getElem? (i := 70) rfl)))) (mvT hZ75 (hw _ (List.mem_of_getElem? (i := 70) rfl))) (mvT hZ75 (hw _ (List.mem_of_getElem? (i := 69) rfl))) (by decide) (backOf (W := 0) (rm10r l Z a0 hw [] o105 u0 T105.heap n0 (Nat.le_trans (Nat.le_trans (Nat.le_trans (Nat.le_trans (Nat.le_trans (Nat.le_trans (Nat.le_trans (Nat.le_trans Z0 E71.1) E73.1) E75.1) E92.1) E94.1) (Keep.of_wr W97).1) K102.1) E105.1) Fo105) hZ75 (hw _ (List.mem_of_getElem? (i := 71) rfl)) (hw _ (List.mem_of_getElem? (i := 64) rfl)) (by decide) (by decide)) q107a q107c (g := (mkF m 133 #[.val (.int p0), .val (.int p1), .val (.int p2), .val (.int p3), .val (.int (p0 &&& (3 : Int32))), .val (.int z71), .val (.int z73), .val (.int z75), .val (.ref b92), .unset, .unset] [.null, (.ref o105)])) rfl (by rw [hml]; rfl) (Steps.refl _) (argsL := [.null]) (rest := []) (lenOf pd__Ljava_lang_Object__Ljava_lang_Object__418 rfl) rfl (by show 2 * 0 + _ ≤ _; exact Nat.le_of_eq rfl) (hb hby at_133) (fun _ _ => ⟨rfl, rfl, (by decide : 11 + 0 ≤ _), (by decide : 71 + 0 ≤ _)⟩)
        dsimp only [Pt.U, Pt.locs, Pt.cells, Pt.slots] at X107 l107 y107 z107 st107 hQ107
        subst l107 y107 z107
        obtain ⟨rfl, N107q, e107q⟩ := hQ107
        have N107 := Fr.app N105 N107q
        refine own_trH st107 ?_
        have e107 : T107.heap = T105.heap := e107q
        show own_ComesH Z p e below s _ _ _ (T107.setTop (mkF m 136 #[.val (.int p0), .val (.int p1), .val (.int p2), .val (.int p3), .val (.int (p0 &&& (3 : Int32))), .val (.int z71), .val (.int z73), .val (.int z75), .val (.ref b92), .unset, .unset] [(.ref u0)]))
        obtain ⟨T108, X108, e108, st108⟩ := castY X107 hx hZ75 hown75 (hw _ (List.mem_of_getElem? (i := 113) rfl)) e107 (Ins.self (Eu_u0.ext ((c101.keep K102 (allS g_b92 all0)).ext E105).2)) (g := (mkF m 136 #[.val (.int p0), .val (.int p1), .val (.int p2), .val (.int p3), .val (.int (p0 &&& (3 : Int32))), .val (.int z71), .val (.int z73), .val (.int z75), .val (.ref b92), .unset, .unset] [(.ref u0)])) rfl rfl (hb hby at_136)
        refine own_byH st108 ?_
        show own_ComesH Z p e below s _ _ _ (T108.setTop (mkF m 139 #[.val (.int p0), .val (.int p1), .val (.int p2), .val (.int p3), .val (.int (p0 &&& (3 : Int32))), .val (.int z71), .val (.int z73), .val (.int z75), .val (.ref b92), .unset, .unset] [(.ref u0)]))
        refine own_byH (fun _ kS => XS.astore X108.here hx rfl (hb hby at_139) rfl rfl (l' := #[.val (.int p0), .val (.int p1), .val (.int p2), .val (.int p3), .val (.int (p0 &&& (3 : Int32))), .val (.int z71), .val (.int z73), .val (.int z75), .val (.ref b92), .val (.ref u0), .unset]) rfl kS) ?_
        show own_ComesH Z p e below s _ _ _ (T108.setTop (mkF m 141 #[.val (.int p0), .val (.int p1), .val (.int p2), .val (.int p3), .val (.int (p0 &&& (3 : Int32))), .val (.int z71), .val (.int z73), .val (.int z75), .val (.ref b92), .val (.ref u0), .unset] []))
        refine own_byH (fun _ kS => XS.aconstNull X108.here hx rfl (hb hby at_141) kS) ?_
        show own_ComesH Z p e below s _ _ _ (T108.setTop (mkF m 142 #[.val (.int p0), .val (.int p1), .val (.int p2), .val (.int p3), .val (.int (p0 &&& (3 : Int32))), .val (.int z71), .val (.int z73), .val (.int z75), .val (.ref b92), .val (.ref u0), .unset] [.null]))
        refine own_byH (fun _ kS => XS.astore X108.here hx rfl (hb hby at_142) rfl rfl (l' := #[.val (.int p0), .val (.int p1), .val (.int p2), .val (.int p3), .val (.int (p0 &&& (3 : Int32))), .val (.int z71), .val (.int z73), .val (.int z75), .val (.ref b92), .val (.ref u0), .val .null]) rfl kS) ?_
        show own_ComesH Z p e below s _ _ _ (T108.setTop (mkF m 144 #[.val (.int p0), .val (.int p1), .val (.int p2), .val (.int p3), .val (.int (p0 &&& (3 : Int32))), .val (.int z71), .val (.int z73), .val (.int z75), .val (.ref b92), .val (.ref u0), .val .null] []))
        refine own_byH (fun _ kS => XS.iload X108.here hx rfl (hb hby at_144) rfl kS) ?_
        show own_ComesH Z p e below s _ _ _ (T108.setTop (mkF m 146 #[.val (.int p0), .val (.int p1), .val (.int p2), .val (.int p3), .val (.int (p0 &&& (3 : Int32))), .val (.int z71), .val (.int z73), .val (.int z75), .val (.ref b92), .val (.ref u0), .val .null] [(.int (p0 &&& (3 : Int32)))]))
        refine own_byH (fun _ kS => XS.iconst X108.here hx rfl (hb hby at_146) kS) ?_
        show own_ComesH Z p e below s _ _ _ (T108.setTop (mkF m 147 #[.val (.int p0), .val (.int p1), .val (.int p2), .val (.int p3), .val (.int (p0 &&& (3 : Int32))), .val (.int z71), .val (.int z73), .val (.int z75), .val (.ref b92), .val (.ref u0), .val .null] [(.int (1 : Int32)), (.int (p0 &&& (3 : Int32)))]))
        refine own_byH (fun _ kS => XS.icmpNo X108.here hx rfl (hb hby at_147) rfl (teq hl1).2 kS) ?_
        show own_ComesH Z p e below s _ _ _ (T108.setTop (mkF m 150 #[.val (.int p0), .val (.int p1), .val (.int p2), .val (.int p3), .val (.int (p0 &&& (3 : Int32))), .val (.int z71), .val (.int z73), .val (.int z75), .val (.ref b92), .val (.ref u0), .val .null] []))
        refine own_byH (fun _ kS => XS.iload X108.here hx rfl (hb hby at_150) rfl kS) ?_
        show own_ComesH Z p e below s _ _ _ (T108.setTop (mkF m 152 #[.val (.int p0), .val (.int p1), .val (.int p2), .val (.int p3), .val (.int (p0 &&& (3 : Int32))), .val (.int z71), .val (.int z73), .val (.int z75), .val (.ref b92), .val (.ref u0), .val .null] [(.int z71)]))
        refine own_byH (fun _ kS => XS.bipush X108.here hx rfl (hb hby at_152) kS) ?_
        show own_ComesH Z p e below s _ _ _ (T108.setTop (mkF m 154 #[.val (.int p0), .val (.int p1), .val (.int p2), .val (.int p3), .val (.int (p0 &&& (3 : Int32))), .val (.int z71), .val (.int z73), .val (.int z75), .val (.ref b92), .val (.ref u0), .val .null] [(.int (115 : Int32)), (.int z71)]))
        refine own_byH (fun _ kS => XS.icmpNo X108.here hx rfl (hb hby at_154) rfl (teq hc0).2 kS) ?_
        show own_ComesH Z p e below s _ _ _ (T108.setTop (mkF m 157 #[.val (.int p0), .val (.int p1), .val (.int p2), .val (.int p3), .val (.int (p0 &&& (3 : Int32))), .val (.int z71), .val (.int z73), .val (.int z75), .val (.ref b92), .val (.ref u0), .val .null] []))
        obtain ⟨T109, X109, e109, st109⟩ := getS2 X108 hx hZ75 hown75 (host := "") (Or.inl (hw _ (List.mem_of_getElem? (i := 116) rfl))) Via.refl e108 (St_u0.ext ((c101.keep K102 (allS g_b92 all0)).ext E105).2) (g := (mkF m 157 #[.val (.int p0), .val (.int p1), .val (.int p2), .val (.int p3), .val (.int (p0 &&& (3 : Int32))), .val (.int z71), .val (.int z73), .val (.int z75), .val (.ref b92), .val (.ref u0), .val .null] [])) rfl (hb hby at_157)
        refine own_byH st109 ?_
        show own_ComesH Z p e below s _ _ _ (T109.setTop (mkF m 160 #[.val (.int p0), .val (.int p1), .val (.int p2), .val (.int p3), .val (.int (p0 &&& (3 : Int32))), .val (.int z71), .val (.int z73), .val (.int z75), .val (.ref b92), .val (.ref u0), .val .null] [(.ref u0)]))
        refine own_byH (fun _ kS => XS.astore X109.here hx rfl (hb hby at_160) rfl rfl (l' := #[.val (.int p0), .val (.int p1), .val (.int p2), .val (.int p3), .val (.int (p0 &&& (3 : Int32))), .val (.int z71), .val (.int z73), .val (.int z75), .val (.ref b92), .val (.ref u0), .val (.ref u0)]) rfl kS) ?_
        show own_ComesH Z p e below s _ _ _ (T109.setTop (mkF m 162 #[.val (.int p0), .val (.int p1), .val (.int p2), .val (.int p3), .val (.int (p0 &&& (3 : Int32))), .val (.int z71), .val (.int z73), .val (.int z75), .val (.ref b92), .val (.ref u0), .val (.ref u0)] []))
        refine own_byH (fun _ kS => XS.goto X109.here hx rfl (pc0 := 162) (pc' := 220) rfl (hb hby at_162) (by decide) (by decide) kS) ?_
        show own_ComesH Z p e below s _ _ _ (T109.setTop (mkF m 220 #[.val (.int p0), .val (.int p1), .val (.int p2), .val (.int p3), .val (.int (p0 &&& (3 : Int32))), .val (.int z71), .val (.int z73), .val (.int z75), .val (.ref b92), .val (.ref u0), .val (.ref u0)] []))
        refine own_byH (fun _ kS => XS.aload X109.here hx rfl (hb hby at_220) rfl rfl kS) ?_
        show own_ComesH Z p e below s _ _ _ (T109.setTop (mkF m 222 #[.val (.int p0), .val (.int p1), .val (.int p2), .val (.int p3), .val (.int (p0 &&& (3 : Int32))), .val (.int z71), .val (.int z73), .val (.int z75), .val (.ref b92), .val (.ref u0), .val (.ref u0)] [(.ref u0)]))
        refine own_byH (fun _ kS => XS.aload X109.here hx rfl (hb hby at_222) rfl rfl kS) ?_
        show own_ComesH Z p e below s _ _ _ (T109.setTop (mkF m 224 #[.val (.int p0), .val (.int p1), .val (.int p2), .val (.int p3), .val (.int (p0 &&& (3 : Int32))), .val (.int z71), .val (.int z73), .val (.int z75), .val (.ref b92), .val (.ref u0), .val (.ref u0)] [(.ref u0), (.ref u0)]))
        refine own_byH (fun _ kS => Jvm.RoadKit.acmp (g := (mkF m 224 #[.val (.int p0), .val (.int p1), .val (.int p2), .val (.int p3), .val (.int (p0 &&& (3 : Int32))), .val (.int z71), .val (.int z73), .val (.int z75), .val (.ref b92), .val (.ref u0), .val (.ref u0)] [(.ref u0), (.ref u0)])) X109 hx rfl rfl rfl (pc0 := 224) (pc' := 227) (same := true) rfl (hb hby at_224) rfl (decide_eq_true rfl) (by decide) (by decide) kS) ?_
        show own_ComesH Z p e below s _ _ _ (T109.setTop (mkF m 227 #[.val (.int p0), .val (.int p1), .val (.int p2), .val (.int p3), .val (.int (p0 &&& (3 : Int32))), .val (.int z71), .val (.int z73), .val (.int z75), .val (.ref b92), .val (.ref u0), .val (.ref u0)] []))
        refine own_byH (fun _ kS => XS.iconst X109.here hx rfl (hb hby at_227) kS) ?_
        show own_ComesH Z p e below s _ _ _ (T109.setTop (mkF m 228 #[.val (.int p0), .val (.int p1), .val (.int p2), .val (.int p3), .val (.int (p0 &&& (3 : Int32))), .val (.int z71), .val (.int z73), .val (.int z75), .val (.ref b92), .val (.ref u0), .val (.ref u0)] [(.int (1 : Int32))]))
        refine own_byH (fun _ kS => XS.goto X109.here hx rfl (pc0 := 228) (pc' := 232) rfl (hb hby at_228) (by decide) (by decide) kS) ?_
        show own_ComesH Z p e below s _ _ _ (T109.setTop (mkF m 232 #[.val (.int p0), .val (.int p1), .val (.int p2), .val (.int p3), .val (.int (p0 &&& (3 : Int32))), .val (.int z71), .val (.int z73), .val (.int z75), .val (.ref b92), .val (.ref u0), .val (.ref u0)] [(.int (1 : Int32))]))
        have hkr110 := (Nat.le_trans (Nat.le_trans (Nat.le_trans (Nat.le_trans (Nat.le_trans (Nat.le_refl (Array.size T75.heap)) E92.1) E94.1) (Keep.of_wr W97).1) K102.1) E105.1)
        have hcr110 := CH106.trans (CHv.at X109 hZ75 hEL CH106.1)
        refine own_retH X109 hS75 (by rw [e109]; exact hkr110) (by rw [hh]; rw [e109]; exact hcr110) (v := some (.int (1 : Int32))) (fun h => by rw [Bd.returns] at h; cases h) Bd.notSynchronized (by decide) (by decide) ?_ (fun fs hr => retN X109 hx (t := .boolean) Bd.returns (by simp) (hb hby at_232) hr)
        rw [e109]; exact ⟨rfl, N107⟩
      · show own_ComesH Z p e below s _ _ _ (T102.setTop (mkF m 127 #[.val (.int p0), .val (.int p1), .val (.int p2), .val (.int p3), .val (.int (p0 &&& (3 : Int32))), .val (.int z71), .val (.int z73), .val (.int z75), .val (.ref b92), .unset, .unset] []))
        refine own_byH (fun _ kS => XS.aload X102.here hx rfl (hb hby at_127) rfl rfl kS) ?_
        show own_ComesH Z p e below s _ _ _ (T102.setTop (mkF m 129 #[.val (.int p0), .val (.int p1), .val (.int p2), .val (.int p3), .val (.int (p0 &&& (3 : Int32))), .val (.int z71), .val (.int z73), .val (.int z75), .val (.ref b92), .unset, .unset] [(.ref b92)]))
        obtain ⟨vv111, _, ⟨T111, L111, k111, n111⟩, -, X111, ⟨Lc111, hQ111, l111, y111, z111⟩, st111⟩ := Jvm.LawKit.callS X102 hx (y := (⟨"com/example/mixed_margins/mixedmargins/model/TimeUnit", "ofSymbol", "(Ljava/lang/String;)Ljava/util/Optional;"⟩ : MethodName)) hown75 (mvT hZ75 (hw _ (List.mem_of_getElem? (i := 26) rfl))) (mvT hZ75 (hw _ (List.mem_of_getElem? (i := 27) rfl))) (mvT hZ75 (hw _ (List.mem_of_getElem? (i := 28) rfl))) (mvT hZ75 (hw _ (List.mem_of_getElem? (i := 29) rfl))) (by decide) (backOf (W := 0) (rm5 l Z a0 hw [] b92 [z71] va kv u0 u1 u2 u3 y0 y1 y2 y3 em zc T102.heap n0 (Nat.le_trans (Nat.le_trans (Nat.le_trans (Nat.le_trans (Nat.le_trans (Nat.le_trans (Nat.le_trans Z0 E71.1) E73.1) E75.1) E92.1) E94.1) (Keep.of_wr W97).1) K102.1) (c101.keep K102 (allS g_b92 all0)) Sv Vv Ev Fs_u0 Ss_u0 Fs_u1 Ss_u1 Fs_u2 Ss_u2 Fs_u3 Ss_u3 Sm Em Fm Sz hzc hY) hZ75 (hw _ (List.mem_of_getElem? (i := 29) rfl)) (hw _ (List.mem_of_getElem? (i := 28) rfl)) (by decide) (by decide)) (g := (mkF m 129 #[.val (.int p0), .val (.int p1), .val (.int p2), .val (.int p3), .val (.int (p0 &&& (3 : Int32))), .val (.int z71), .val (.int z73), .val (.int z75), .val (.ref b92), .unset, .unset] [(.ref b92)])) rfl (by rw [hml]; rfl) (argsL := [(.ref b92)]) (rest := []) (lenOf pd__Ljava_lang_String__Ljava_util_Optional__717 rfl) rfl (by show 2 * 0 + _ ≤ _; exact Nat.le_of_eq rfl) (hb hby at_129) (fun _ _ => ⟨rfl, rfl, (by decide : 9 + 2 ≤ _), (by decide : 66 + 5 ≤ _)⟩)
        dsimp only [Pt.U, Pt.locs, Pt.cells, Pt.slots] at X111 l111 y111 z111 st111 hQ111
        subst l111 y111 z111
        obtain ⟨o111, rfl, N111q, E111, Eo111, Fo111⟩ := hQ111
        have N111 := Fr.app N102 N111q
        refine own_byH st111 ?_
        have CR112 := CHr.ext E111 CH103.1
        have CH112 := CH103.trans CR112
        show own_ComesH Z p e below s _ _ _ (T111.setTop (mkF m 132 #[.val (.int p0), .val (.int p1), .val (.int p2), .val (.int p3), .val (.int (p0 &&& (3 : Int32))), .val (.int z71), .val (.int z73), .val (.int z75), .val (.ref b92), .unset, .unset] [(.ref o111)]))
        rw [own_u1n _ _ _ _ hc0] at Fo111
        refine own_byH (fun _ kS => XS.aconstNull X111.here hx rfl (hb hby at_132) kS) ?_
        show own_ComesH Z p e below s _ _ _ (T111.setTop (mkF m 133 #[.val (.int p0), .val (.int p1), .val (.int p2), .val (.int p3), .val (.int (p0 &&& (3 : Int32))), .val (.int z71), .val (.int z73), .val (.int z75), .val (.ref b92), .unset, .unset] [.null, (.ref o111)]))
        obtain ⟨cq113, kq113, q113a, q113b, q113c⟩ := isOf hZ75 rfl Eo111
        obtain ⟨vv113, _, ⟨T113, L113, k113, n113⟩, -, X113, ⟨Lc113, hQ113, l113, y113, z113⟩, st113⟩ := X111.virtualBack hx (y := (⟨"java/util/Optional", "orElse", "(Ljava/lang/Object;)Ljava/lang/Object;"⟩ : MethodName)) (z := (⟨"java/util/Optional", "orElse", "(Ljava/lang/Object;)Ljava/lang/Object;"⟩ : MethodName)) hown75 (mvT hZ75 (hw _ (List.mem_of_getElem? (i := 67) rfl))) (mvT hZ75 (hw _ (List.mem_of_getElem? (i := 68) rfl))) (notFace_of_selects (args := #[]) (mvT hZ75 (hw _ (List.mem_of_getElem? (i := 70) rfl)))) (mvT hZ75 (hw _ (List.mem_of_getElem? (i := 70) rfl))) (mvT hZ75 (hw _ (List.mem_of_getElem? (i := 69) rfl))) (by decide) (backOf (W := 0) (rm10n l Z a0 hw [] o111 T111.heap n0 (Nat.le_trans (Nat.le_trans (Nat.le_trans (Nat.le_trans (Nat.le_trans (Nat.le_trans (Nat.le_trans (Nat.le_trans Z0 E71.1) E73.1) E75.1) E92.1) E94.1) (Keep.of_wr W97).1) K102.1) E111.1) Fo111) hZ75 (hw _ (List.mem_of_getElem? (i := 71) rfl)) (hw _ (List.mem_of_getElem? (i := 64) rfl)) (by decide) (by decide)) q113a q113c (g := (mkF m 133 #[.val (.int p0), .val (.int p1), .val (.int p2), .val (.int p3), .val (.int (p0 &&& (3 : Int32))), .val (.int z71), .val (.int z73), .val (.int z75), .val (.ref b92), .unset, .unset] [.null, (.ref o111)])) rfl (by rw [hml]; rfl) (Steps.refl _) (argsL := [.null]) (rest := []) (lenOf pd__Ljava_lang_Object__Ljava_lang_Object__418 rfl) rfl (by show 2 * 0 + _ ≤ _; exact Nat.le_of_eq rfl) (hb hby at_133) (fun _ _ => ⟨rfl, rfl, (by decide : 11 + 0 ≤ _), (by decide : 71 + 0 ≤ _)⟩)
        dsimp only [Pt.U, Pt.locs, Pt.cells, Pt.slots] at X113 l113 y113 z113 st113 hQ113
        subst l113 y113 z113
        obtain ⟨rfl, N113q, e113q⟩ := hQ113
        have N113 := Fr.app N111 N113q
        refine own_trH st113 ?_
        have e113 : T113.heap = T111.heap := e113q
        show own_ComesH Z p e below s _ _ _ (T113.setTop (mkF m 136 #[.val (.int p0), .val (.int p1), .val (.int p2), .val (.int p3), .val (.int (p0 &&& (3 : Int32))), .val (.int z71), .val (.int z73), .val (.int z75), .val (.ref b92), .unset, .unset] [.null]))
        refine own_byH (fun _ kS => X113.checkcastNull hx (g := (mkF m 136 #[.val (.int p0), .val (.int p1), .val (.int p2), .val (.int p3), .val (.int (p0 &&& (3 : Int32))), .val (.int z71), .val (.int z73), .val (.int z75), .val (.ref b92), .unset, .unset] [.null])) rfl rfl (hb hby at_136) _ kS) ?_
        show own_ComesH Z p e below s _ _ _ (T113.setTop (mkF m 139 #[.val (.int p0), .val (.int p1), .val (.int p2), .val (.int p3), .val (.int (p0 &&& (3 : Int32))), .val (.int z71), .val (.int z73), .val (.int z75), .val (.ref b92), .unset, .unset] [.null]))
        refine own_byH (fun _ kS => XS.astore X113.here hx rfl (hb hby at_139) rfl rfl (l' := #[.val (.int p0), .val (.int p1), .val (.int p2), .val (.int p3), .val (.int (p0 &&& (3 : Int32))), .val (.int z71), .val (.int z73), .val (.int z75), .val (.ref b92), .val .null, .unset]) rfl kS) ?_
        show own_ComesH Z p e below s _ _ _ (T113.setTop (mkF m 141 #[.val (.int p0), .val (.int p1), .val (.int p2), .val (.int p3), .val (.int (p0 &&& (3 : Int32))), .val (.int z71), .val (.int z73), .val (.int z75), .val (.ref b92), .val .null, .unset] []))
        refine own_byH (fun _ kS => XS.aconstNull X113.here hx rfl (hb hby at_141) kS) ?_
        show own_ComesH Z p e below s _ _ _ (T113.setTop (mkF m 142 #[.val (.int p0), .val (.int p1), .val (.int p2), .val (.int p3), .val (.int (p0 &&& (3 : Int32))), .val (.int z71), .val (.int z73), .val (.int z75), .val (.ref b92), .val .null, .unset] [.null]))
        refine own_byH (fun _ kS => XS.astore X113.here hx rfl (hb hby at_142) rfl rfl (l' := #[.val (.int p0), .val (.int p1), .val (.int p2), .val (.int p3), .val (.int (p0 &&& (3 : Int32))), .val (.int z71), .val (.int z73), .val (.int z75), .val (.ref b92), .val .null, .val .null]) rfl kS) ?_
        show own_ComesH Z p e below s _ _ _ (T113.setTop (mkF m 144 #[.val (.int p0), .val (.int p1), .val (.int p2), .val (.int p3), .val (.int (p0 &&& (3 : Int32))), .val (.int z71), .val (.int z73), .val (.int z75), .val (.ref b92), .val .null, .val .null] []))
        refine own_byH (fun _ kS => XS.iload X113.here hx rfl (hb hby at_144) rfl kS) ?_
        show own_ComesH Z p e below s _ _ _ (T113.setTop (mkF m 146 #[.val (.int p0), .val (.int p1), .val (.int p2), .val (.int p3), .val (.int (p0 &&& (3 : Int32))), .val (.int z71), .val (.int z73), .val (.int z75), .val (.ref b92), .val .null, .val .null] [(.int (p0 &&& (3 : Int32)))]))
        refine own_byH (fun _ kS => XS.iconst X113.here hx rfl (hb hby at_146) kS) ?_
        show own_ComesH Z p e below s _ _ _ (T113.setTop (mkF m 147 #[.val (.int p0), .val (.int p1), .val (.int p2), .val (.int p3), .val (.int (p0 &&& (3 : Int32))), .val (.int z71), .val (.int z73), .val (.int z75), .val (.ref b92), .val .null, .val .null] [(.int (1 : Int32)), (.int (p0 &&& (3 : Int32)))]))
        refine own_byH (fun _ kS => XS.icmpNo X113.here hx rfl (hb hby at_147) rfl (teq hl1).2 kS) ?_
        show own_ComesH Z p e below s _ _ _ (T113.setTop (mkF m 150 #[.val (.int p0), .val (.int p1), .val (.int p2), .val (.int p3), .val (.int (p0 &&& (3 : Int32))), .val (.int z71), .val (.int z73), .val (.int z75), .val (.ref b92), .val .null, .val .null] []))
        refine own_byH (fun _ kS => XS.iload X113.here hx rfl (hb hby at_150) rfl kS) ?_
        show own_ComesH Z p e below s _ _ _ (T113.setTop (mkF m 152 #[.val (.int p0), .val (.int p1), .val (.int p2), .val (.int p3), .val (.int (p0 &&& (3 : Int32))), .val (.int z71), .val (.int z73), .val (.int z75), .val (.ref b92), .val .null, .val .null] [(.int z71)]))
        refine own_byH (fun _ kS => XS.bipush X113.here hx rfl (hb hby at_152) kS) ?_
        show own_ComesH Z p e below s _ _ _ (T113.setTop (mkF m 154 #[.val (.int p0), .val (.int p1), .val (.int p2), .val (.int p3), .val (.int (p0 &&& (3 : Int32))), .val (.int z71), .val (.int z73), .val (.int z75), .val (.ref b92), .val .null, .val .null] [(.int (115 : Int32)), (.int z71)]))
        refine own_byH (fun _ kS => XS.icmpYes X113.here hx rfl (pc0 := 154) (pc' := 165) rfl (hb hby at_154) rfl (feq hc0).2 (by decide) (by decide) kS) ?_
        show own_ComesH Z p e below s _ _ _ (T113.setTop (mkF m 165 #[.val (.int p0), .val (.int p1), .val (.int p2), .val (.int p3), .val (.int (p0 &&& (3 : Int32))), .val (.int z71), .val (.int z73), .val (.int z75), .val (.ref b92), .val .null, .val .null] []))
        refine own_byH (fun _ kS => XS.iload X113.here hx rfl (hb hby at_165) rfl kS) ?_
        show own_ComesH Z p e below s _ _ _ (T113.setTop (mkF m 167 #[.val (.int p0), .val (.int p1), .val (.int p2), .val (.int p3), .val (.int (p0 &&& (3 : Int32))), .val (.int z71), .val (.int z73), .val (.int z75), .val (.ref b92), .val .null, .val .null] [(.int (p0 &&& (3 : Int32)))]))
        refine own_byH (fun _ kS => XS.iconst X113.here hx rfl (hb hby at_167) kS) ?_
        show own_ComesH Z p e below s _ _ _ (T113.setTop (mkF m 168 #[.val (.int p0), .val (.int p1), .val (.int p2), .val (.int p3), .val (.int (p0 &&& (3 : Int32))), .val (.int z71), .val (.int z73), .val (.int z75), .val (.ref b92), .val .null, .val .null] [(.int (2 : Int32)), (.int (p0 &&& (3 : Int32)))]))
        have hb114 : ¬ ((p0 &&& (3 : Int32)) = (2 : Int32)) := fun q => absurd (hl1.symm.trans q) (by decide)
        refine own_byH (fun _ kS => XS.icmpYes X113.here hx rfl (pc0 := 168) (pc' := 220) rfl (hb hby at_168) rfl (feq hb114).2 (by decide) (by decide) kS) ?_
        show own_ComesH Z p e below s _ _ _ (T113.setTop (mkF m 220 #[.val (.int p0), .val (.int p1), .val (.int p2), .val (.int p3), .val (.int (p0 &&& (3 : Int32))), .val (.int z71), .val (.int z73), .val (.int z75), .val (.ref b92), .val .null, .val .null] []))
        refine own_byH (fun _ kS => XS.aload X113.here hx rfl (hb hby at_220) rfl rfl kS) ?_
        show own_ComesH Z p e below s _ _ _ (T113.setTop (mkF m 222 #[.val (.int p0), .val (.int p1), .val (.int p2), .val (.int p3), .val (.int (p0 &&& (3 : Int32))), .val (.int z71), .val (.int z73), .val (.int z75), .val (.ref b92), .val .null, .val .null] [.null]))
        refine own_byH (fun _ kS => XS.aload X113.here hx rfl (hb hby at_222) rfl rfl kS) ?_
        show own_ComesH Z p e below s _ _ _ (T113.setTop (mkF m 224 #[.val (.int p0), .val (.int p1), .val (.int p2), .val (.int p3), .val (.int (p0 &&& (3 : Int32))), .val (.int z71), .val (.int z73), .val (.int z75), .val (.ref b92), .val .null, .val .null] [.null, .null]))
        refine own_byH (fun _ kS => Jvm.RoadKit.acmp (g := (mkF m 224 #[.val (.int p0), .val (.int p1), .val (.int p2), .val (.int p3), .val (.int (p0 &&& (3 : Int32))), .val (.int z71), .val (.int z73), .val (.int z75), .val (.ref b92), .val .null, .val .null] [.null, .null])) X113 hx rfl rfl rfl (pc0 := 224) (pc' := 227) (same := true) rfl (hb hby at_224) rfl (decide_eq_true rfl) (by decide) (by decide) kS) ?_
        show own_ComesH Z p e below s _ _ _ (T113.setTop (mkF m 227 #[.val (.int p0), .val (.int p1), .val (.int p2), .val (.int p3), .val (.int (p0 &&& (3 : Int32))), .val (.int z71), .val (.int z73), .val (.int z75), .val (.ref b92), .val .null, .val .null] []))
        refine own_byH (fun _ kS => XS.iconst X113.here hx rfl (hb hby at_227) kS) ?_
        show own_ComesH Z p e below s _ _ _ (T113.setTop (mkF m 228 #[.val (.int p0), .val (.int p1), .val (.int p2), .val (.int p3), .val (.int (p0 &&& (3 : Int32))), .val (.int z71), .val (.int z73), .val (.int z75), .val (.ref b92), .val .null, .val .null] [(.int (1 : Int32))]))
        refine own_byH (fun _ kS => XS.goto X113.here hx rfl (pc0 := 228) (pc' := 232) rfl (hb hby at_228) (by decide) (by decide) kS) ?_
        show own_ComesH Z p e below s _ _ _ (T113.setTop (mkF m 232 #[.val (.int p0), .val (.int p1), .val (.int p2), .val (.int p3), .val (.int (p0 &&& (3 : Int32))), .val (.int z71), .val (.int z73), .val (.int z75), .val (.ref b92), .val .null, .val .null] [(.int (1 : Int32))]))
        have hkr115 := (Nat.le_trans (Nat.le_trans (Nat.le_trans (Nat.le_trans (Nat.le_trans (Nat.le_refl (Array.size T75.heap)) E92.1) E94.1) (Keep.of_wr W97).1) K102.1) E111.1)
        have hcr115 := CH112.trans (CHv.at X113 hZ75 hEL CH112.1)
        refine own_retH X113 hS75 (by rw [e113]; exact hkr115) (by rw [hh]; rw [e113]; exact hcr115) (v := some (.int (1 : Int32))) (fun h => by rw [Bd.returns] at h; cases h) Bd.notSynchronized (by decide) (by decide) ?_ (fun fs hr => retN X113 hx (t := .boolean) Bd.returns (by simp) (hb hby at_232) hr)
        rw [e113]; exact ⟨rfl, N113⟩
    · refine own_byH (fun _ kS => XS.icmpYes X75.here hx rfl (pc0 := 46) (pc' := 69) rfl (hb hby at_46) rfl (feq hl1).2 (by decide) (by decide) kS) ?_
      show own_ComesH Z p e below s _ _ _ (T75.setTop (mkF m 69 #[.val (.int p0), .val (.int p1), .val (.int p2), .val (.int p3), .val (.int (p0 &&& (3 : Int32))), .val (.int z71), .val (.int z73), .val (.int z75), .unset, .unset, .unset] []))
      refine own_byH (fun _ kS => XS.iload X75.here hx rfl (hb hby at_69) rfl kS) ?_
      show own_ComesH Z p e below s _ _ _ (T75.setTop (mkF m 71 #[.val (.int p0), .val (.int p1), .val (.int p2), .val (.int p3), .val (.int (p0 &&& (3 : Int32))), .val (.int z71), .val (.int z73), .val (.int z75), .unset, .unset, .unset] [(.int (p0 &&& (3 : Int32)))]))
      refine own_byH (fun _ kS => XS.iconst X75.here hx rfl (hb hby at_71) kS) ?_
      show own_ComesH Z p e below s _ _ _ (T75.setTop (mkF m 72 #[.val (.int p0), .val (.int p1), .val (.int p2), .val (.int p3), .val (.int (p0 &&& (3 : Int32))), .val (.int z71), .val (.int z73), .val (.int z75), .unset, .unset, .unset] [(.int (2 : Int32)), (.int (p0 &&& (3 : Int32)))]))
      by_cases hl2 : (p0 &&& (3 : Int32)) = (2 : Int32)
      · refine own_byH (fun _ kS => XS.icmpNo X75.here hx rfl (hb hby at_72) rfl (teq hl2).2 kS) ?_
        show own_ComesH Z p e below s _ _ _ (T75.setTop (mkF m 75 #[.val (.int p0), .val (.int p1), .val (.int p2), .val (.int p3), .val (.int (p0 &&& (3 : Int32))), .val (.int z71), .val (.int z73), .val (.int z75), .unset, .unset, .unset] []))
        obtain ⟨T116, h116, X116, e116, E116, A116, D116, -, st116⟩ := newO X75 hx hZ75 hown75 (hw _ (List.mem_of_getElem? (i := 4) rfl)) (hw _ (List.mem_of_getElem? (i := 5) rfl)) (hw _ (List.mem_of_getElem? (i := 6) rfl)) rfl (g := (mkF m 75 #[.val (.int p0), .val (.int p1), .val (.int p2), .val (.int p3), .val (.int (p0 &&& (3 : Int32))), .val (.int z71), .val (.int z73), .val (.int z75), .unset, .unset, .unset] [])) rfl (hb hby at_75) (by decide) (by decide)
        obtain ⟨b116, g116⟩ : ∃ z, z = T75.heap.size := ⟨_, rfl⟩
        rw [← g116] at A116 D116 st116
        have g_b116 : n0 ≤ b116 := Nat.le_trans (Nat.le_trans (Nat.le_trans (Nat.le_trans Z0 E71.1) E73.1) E75.1) (Nat.le_of_eq g116.symm)
        refine own_byH st116 ?_
        have CR117 := CHr.ext E116 CH76.1
        have CH117 := CH76.trans CR117
        have sb116 := Safe.ext E116 CH76.1 (Safe.new (Nat.le_of_eq g116.symm))
        show own_ComesH Z p e below s _ _ _ (T116.setTop (mkF m 78 #[.val (.int p0), .val (.int p1), .val (.int p2), .val (.int p3), .val (.int (p0 &&& (3 : Int32))), .val (.int z71), .val (.int z73), .val (.int z75), .unset, .unset, .unset] [(.ref b116)]))
        refine own_byH (fun _ kS => XS.dup X116.here hx rfl (hb hby at_78) rfl rfl kS) ?_
        show own_ComesH Z p e below s _ _ _ (T116.setTop (mkF m 79 #[.val (.int p0), .val (.int p1), .val (.int p2), .val (.int p3), .val (.int (p0 &&& (3 : Int32))), .val (.int z71), .val (.int z73), .val (.int z75), .unset, .unset, .unset] [(.ref b116), (.ref b116)]))
        refine own_byH (fun _ kS => XS.iconst X116.here hx rfl (hb hby at_79) kS) ?_
        show own_ComesH Z p e below s _ _ _ (T116.setTop (mkF m 80 #[.val (.int p0), .val (.int p1), .val (.int p2), .val (.int p3), .val (.int (p0 &&& (3 : Int32))), .val (.int z71), .val (.int z73), .val (.int z75), .unset, .unset, .unset] [(.int (2 : Int32)), (.ref b116), (.ref b116)]))
        obtain ⟨T118, h118, k118, X118, e118, E118, A118, st118⟩ := newP X116 hx hZ75 (hw _ (List.mem_of_getElem? (i := 7) rfl)) e116 (g := (mkF m 80 #[.val (.int p0), .val (.int p1), .val (.int p2), .val (.int p3), .val (.int (p0 &&& (3 : Int32))), .val (.int z71), .val (.int z73), .val (.int z75), .unset, .unset, .unset] [(.int (2 : Int32)), (.ref b116), (.ref b116)])) rfl (hb hby at_80) rfl (by decide) (cap := 2) (by decide) (by decide) (by decide) (by decide)
        obtain ⟨b118, g118⟩ : ∃ z, z = h116.size := ⟨_, rfl⟩
        rw [← g118] at A118 st118
        have g_b118 : n0 ≤ b118 := Nat.le_trans (Nat.le_trans (Nat.le_trans (Nat.le_trans (Nat.le_trans Z0 E71.1) E73.1) E75.1) E116.1) (Nat.le_of_eq g118.symm)
        refine own_byH st118 ?_
        have CR119 := CHr.ext E118 CH117.1
        have CH119 := CH117.trans CR119
        have sb118 := Safe.ext E118 CH117.1 (Safe.new (Nat.le_of_eq g118.symm))
        have V_b118 : Arv Z h118 b118 k118 .char (2 : Int32) [(.int (0 : Int32)), (.int (0 : Int32))] (.int (0 : Int32)) := (Arv.new A118 (by decide)).pad (pad_rep [] (.int (0 : Int32)) 2)
        show own_ComesH Z p e below s _ _ _ (T118.setTop (mkF m 82 #[.val (.int p0), .val (.int p1), .val (.int p2), .val (.int p3), .val (.int (p0 &&& (3 : Int32))), .val (.int z71), .val (.int z73), .val (.int z75), .unset, .unset, .unset] [(.ref b118), (.ref b116), (.ref b116)]))
        have nA : b116 ≠ b118 := Nat.ne_of_lt (Nat.lt_of_lt_of_le A116.lt (Nat.le_of_eq g118.symm))
        refine own_byH (fun _ kS => XS.dup X118.here hx rfl (hb hby at_82) rfl rfl kS) ?_
        show own_ComesH Z p e below s _ _ _ (T118.setTop (mkF m 83 #[.val (.int p0), .val (.int p1), .val (.int p2), .val (.int p3), .val (.int (p0 &&& (3 : Int32))), .val (.int z71), .val (.int z73), .val (.int z75), .unset, .unset, .unset] [(.ref b118), (.ref b118), (.ref b116), (.ref b116)]))
        refine own_byH (fun _ kS => XS.iconst X118.here hx rfl (hb hby at_83) kS) ?_
        show own_ComesH Z p e below s _ _ _ (T118.setTop (mkF m 84 #[.val (.int p0), .val (.int p1), .val (.int p2), .val (.int p3), .val (.int (p0 &&& (3 : Int32))), .val (.int z71), .val (.int z73), .val (.int z75), .unset, .unset, .unset] [(.int (0 : Int32)), (.ref b118), (.ref b118), (.ref b116), (.ref b116)]))
        refine own_byH (fun _ kS => XS.iload X118.here hx rfl (hb hby at_84) rfl kS) ?_
        show own_ComesH Z p e below s _ _ _ (T118.setTop (mkF m 86 #[.val (.int p0), .val (.int p1), .val (.int p2), .val (.int p3), .val (.int (p0 &&& (3 : Int32))), .val (.int z71), .val (.int z73), .val (.int z75), .unset, .unset, .unset] [(.int z71), (.int (0 : Int32)), (.ref b118), (.ref b118), (.ref b116), (.ref b116)]))
        have Vo120 := V_b118
        obtain ⟨cl120, Ar120, qA120, SA120, NA120, HA120, GA120⟩ := Vo120
        have hin120 : ¬ ((0 : Int32) < 0 ∨ cl120.slots.size ≤ ((0 : Int32)).toNatClampNeg) := inb_of SA120 ⟨by decide, by decide⟩
        obtain ⟨T121, h121, X121, e121, W121, st121⟩ := stC X118 hx hZ75 e118 Ar120 (j := (0 : Int32)) hin120 (g := (mkF m 86 #[.val (.int p0), .val (.int p1), .val (.int p2), .val (.int p3), .val (.int (p0 &&& (3 : Int32))), .val (.int z71), .val (.int z73), .val (.int z75), .unset, .unset, .unset] [(.int z71), (.int (0 : Int32)), (.ref b118), (.ref b118), (.ref b116), (.ref b116)])) rfl rfl (hb hby at_86)
        refine own_byH st121 ?_
        have V121 : Arv Z h121 b118 k118 .char (2 : Int32) [(.int (nar .char z71)), (.int (0 : Int32))] (.int (0 : Int32)) := Arv.set Ar120 qA120 SA120 NA120 HA120 GA120 (by first | rfl | exact fits_nar_char _) W121 0 rfl (Nat.le_of_ble_eq_true rfl)
        have CR122 := CHr.wr W121 sb118 CH119.1
        have CH122 := CH119.trans CR122
        have N121 := Fr.snoc X121 N75 g_b118
        show own_ComesH Z p e below s _ _ _ (T121.setTop (mkF m 87 #[.val (.int p0), .val (.int p1), .val (.int p2), .val (.int p3), .val (.int (p0 &&& (3 : Int32))), .val (.int z71), .val (.int z73), .val (.int z75), .unset, .unset, .unset] [(.ref b118), (.ref b116), (.ref b116)]))
        refine own_byH (fun _ kS => XS.dup X121.here hx rfl (hb hby at_87) rfl rfl kS) ?_
        show own_ComesH Z p e below s _ _ _ (T121.setTop (mkF m 88 #[.val (.int p0), .val (.int p1), .val (.int p2), .val (.int p3), .val (.int (p0 &&& (3 : Int32))), .val (.int z71), .val (.int z73), .val (.int z75), .unset, .unset, .unset] [(.ref b118), (.ref b118), (.ref b116), (.ref b116)]))
        refine own_byH (fun _ kS => XS.iconst X121.here hx rfl (hb hby at_88) kS) ?_
        show own_ComesH Z p e below s _ _ _ (T121.setTop (mkF m 89 #[.val (.int p0), .val (.int p1), .val (.int p2), .val (.int p3), .val (.int (p0 &&& (3 : Int32))), .val (.int z71), .val (.int z73), .val (.int z75), .unset, .unset, .unset] [(.int (1 : Int32)), (.ref b118), (.ref b118), (.ref b116), (.ref b116)]))
        refine own_byH (fun _ kS => XS.iload X121.here hx rfl (hb hby at_89) rfl kS) ?_
        show own_ComesH Z p e below s _ _ _ (T121.setTop (mkF m 91 #[.val (.int p0), .val (.int p1), .val (.int p2), .val (.int p3), .val (.int (p0 &&& (3 : Int32))), .val (.int z71), .val (.int z73), .val (.int z75), .unset, .unset, .unset] [(.int z73), (.int (1 : Int32)), (.ref b118), (.ref b118), (.ref b116), (.ref b116)]))
        have Vo123 := V121
        obtain ⟨cl123, Ar123, qA123, SA123, NA123, HA123, GA123⟩ := Vo123
        have hin123 : ¬ ((1 : Int32) < 0 ∨ cl123.slots.size ≤ ((1 : Int32)).toNatClampNeg) := inb_of SA123 ⟨by decide, by decide⟩
        obtain ⟨T124, h124, X124, e124, W124, st124⟩ := stC X121 hx hZ75 e121 Ar123 (j := (1 : Int32)) hin123 (g := (mkF m 91 #[.val (.int p0), .val (.int p1), .val (.int p2), .val (.int p3), .val (.int (p0 &&& (3 : Int32))), .val (.int z71), .val (.int z73), .val (.int z75), .unset, .unset, .unset] [(.int z73), (.int (1 : Int32)), (.ref b118), (.ref b118), (.ref b116), (.ref b116)])) rfl rfl (hb hby at_91)
        refine own_byH st124 ?_
        have V124 : Arv Z h124 b118 k118 .char (2 : Int32) [(.int (nar .char z71)), (.int (nar .char z73))] (.int (0 : Int32)) := Arv.set Ar123 qA123 SA123 NA123 HA123 GA123 (by first | rfl | exact fits_nar_char _) W124 1 rfl (Nat.le_of_ble_eq_true rfl)
        have sf126 := CR122.safe A118.lt sb118
        have CR125 := CHr.wr W124 sf126 CH122.1
        have CH125 := CH122.trans CR125
        have N124 := Fr.snoc X124 N121 g_b118
        show own_ComesH Z p e below s _ _ _ (T124.setTop (mkF m 92 #[.val (.int p0), .val (.int p1), .val (.int p2), .val (.int p3), .val (.int (p0 &&& (3 : Int32))), .val (.int z71), .val (.int z73), .val (.int z75), .unset, .unset, .unset] [(.ref b118), (.ref b116), (.ref b116)]))
        have Vc := V124
        rw [own_narc hz71, own_narc hz73] at Vc
        have hws : ∀ d ∈ StrChars.Road.words, d.before a0 Z = true := fun d hd => hw d ((by decide +kernel : ∀ d ∈ StrChars.Road.words, d ∈ tables_1) d hd)
        have hp : ∀ c ∈ [z71, z73], ¬ c < 0 ∧ ¬ (255 : Int32) < c := fun c hc => by
          simp only [List.mem_cons, List.not_mem_nil, or_false] at hc
          rcases hc with rfl | rfl
          · exact hz71
          · exact hz73
        have c127 := ((((D116 (Or.inr (hw _ (List.mem_of_getElem? (i := 20) rfl))) (ty := (.array .byte)) (by decide)).ext E118).other W121 (Or.inl nA)).other W124 (Or.inl nA))
        have c128 := ((((D116 (Or.inr (hw _ (List.mem_of_getElem? (i := 21) rfl))) (ty := .byte) (by decide)).ext E118).other W121 (Or.inl nA)).other W124 (Or.inl nA))
        have c129 := (((((((O0.ext E71).ext E73).ext E75).ext E116).ext E118).wr W121 g_b118).wr W124 g_b118)
        obtain ⟨vv130, _, ⟨T130, L130, k130, n130⟩, -, X130, ⟨Lc130, hQ130, l130, y130, z130⟩, st130⟩ := X124.specialBack hx (y := (⟨"java/lang/String", "<init>", "([C)V"⟩ : MethodName)) rfl hown75 (mvT hZ75 (hw _ (List.mem_of_getElem? (i := 8) rfl))) (mvT hZ75 (hw _ (List.mem_of_getElem? (i := 9) rfl))) (mvT hZ75 (hw _ (List.mem_of_getElem? (i := 10) rfl))) (by decide) (StrChars.Road.backV (W := 1) hZ75 hws (kI := 4) (hw _ (List.mem_of_getElem? (i := 5) rfl)) (cs := [z71, z73]) (bs := [z71, z73].map (fun c => c.toInt8.toInt32)) (n := 2) (n0 := n0) g_b116 (Nat.le_trans (Nat.le_trans (Nat.le_trans (Nat.le_trans (Nat.le_trans (Nat.le_trans (Nat.le_trans Z0 E71.1) E73.1) E75.1) E116.1) E118.1) (Keep.of_wr W121).1) (Keep.of_wr W124).1) (((A116.ext E118).wr W121).wr W124) c127 c128 Vc (Sz.ext c129.2) hzc rfl rfl (by decide) (by decide) hp rfl (by decide) (by decide)) (g := (mkF m 92 #[.val (.int p0), .val (.int p1), .val (.int p2), .val (.int p3), .val (.int (p0 &&& (3 : Int32))), .val (.int z71), .val (.int z73), .val (.int z75), .unset, .unset, .unset] [(.ref b118), (.ref b116), (.ref b116)])) rfl (by rw [hml]; rfl) (Steps.refl _) (a := b116) (argsL := [(.ref b118)]) (rest := [(.ref b116)]) (lenOf pd___C_V_325 rfl) rfl (by show 2 * 0 + _ ≤ _; exact Nat.le_of_eq rfl) (hb hby at_92) (fun _ _ => ⟨rfl, e124, (by decide : 8 + 1 ≤ _), (by decide : 66 + 2 ≤ _)⟩)
        dsimp only [Pt.U, Pt.locs, Pt.cells, Pt.slots] at X130 l130 y130 z130 st130 hQ130
        subst l130 y130 z130
        obtain ⟨rfl, N130q, K130, Eb130, Cb130, t130, kb130, _, _, _, Vb130, Ab130⟩ := hQ130
        have N130 := Fr.app N124 N130q
        refine own_trH st130 ?_
        have sf132 := (CR119.trans (CR122.trans CR125)).safe A116.lt sb116
        have CR131 := CHr.keep K130 (sfS sf132 sf0) CH125.1
        have CH131 := CH125.trans CR131
        show own_ComesH Z p e below s _ _ _ (T130.setTop (mkF m 95 #[.val (.int p0), .val (.int p1), .val (.int p2), .val (.int p3), .val (.int (p0 &&& (3 : Int32))), .val (.int z71), .val (.int z73), .val (.int z75), .unset, .unset, .unset] [(.ref b116)]))
        have hY : own_Str Z T130.heap b116 [z71, z73] := ⟨Eb130, t130, kb130, _, _, Vb130, Cb130, Ab130, StrChars.Road.codOf rfl (fun c hc => (hp c hc).2), fun c hc => own_up (hp c hc), Nat.le_of_ble_eq_true rfl⟩
        refine own_byH (fun _ kS => XS.astore X130.here hx rfl (hb hby at_95) rfl rfl (l' := #[.val (.int p0), .val (.int p1), .val (.int p2), .val (.int p3), .val (.int (p0 &&& (3 : Int32))), .val (.int z71), .val (.int z73), .val (.int z75), .val (.ref b116), .unset, .unset]) rfl kS) ?_
        show own_ComesH Z p e below s _ _ _ (T130.setTop (mkF m 97 #[.val (.int p0), .val (.int p1), .val (.int p2), .val (.int p3), .val (.int (p0 &&& (3 : Int32))), .val (.int z71), .val (.int z73), .val (.int z75), .val (.ref b116), .unset, .unset] []))
        refine own_byH (fun _ kS => XS.goto X130.here hx rfl (pc0 := 97) (pc' := 127) rfl (hb hby at_97) (by decide) (by decide) kS) ?_
        show own_ComesH Z p e below s _ _ _ (T130.setTop (mkF m 127 #[.val (.int p0), .val (.int p1), .val (.int p2), .val (.int p3), .val (.int (p0 &&& (3 : Int32))), .val (.int z71), .val (.int z73), .val (.int z75), .val (.ref b116), .unset, .unset] []))
        by_cases hc1 : z73 = (115 : Int32)
        · show own_ComesH Z p e below s _ _ _ (T130.setTop (mkF m 127 #[.val (.int p0), .val (.int p1), .val (.int p2), .val (.int p3), .val (.int (p0 &&& (3 : Int32))), .val (.int z71), .val (.int z73), .val (.int z75), .val (.ref b116), .unset, .unset] []))
          by_cases hm : z71 = (109 : Int32)
          · show own_ComesH Z p e below s _ _ _ (T130.setTop (mkF m 127 #[.val (.int p0), .val (.int p1), .val (.int p2), .val (.int p3), .val (.int (p0 &&& (3 : Int32))), .val (.int z71), .val (.int z73), .val (.int z75), .val (.ref b116), .unset, .unset] []))
            refine own_byH (fun _ kS => XS.aload X130.here hx rfl (hb hby at_127) rfl rfl kS) ?_
            show own_ComesH Z p e below s _ _ _ (T130.setTop (mkF m 129 #[.val (.int p0), .val (.int p1), .val (.int p2), .val (.int p3), .val (.int (p0 &&& (3 : Int32))), .val (.int z71), .val (.int z73), .val (.int z75), .val (.ref b116), .unset, .unset] [(.ref b116)]))
            obtain ⟨vv133, _, ⟨T133, L133, k133, n133⟩, -, X133, ⟨Lc133, hQ133, l133, y133, z133⟩, st133⟩ := Jvm.LawKit.callS X130 hx (y := (⟨"com/example/mixed_margins/mixedmargins/model/TimeUnit", "ofSymbol", "(Ljava/lang/String;)Ljava/util/Optional;"⟩ : MethodName)) hown75 (mvT hZ75 (hw _ (List.mem_of_getElem? (i := 26) rfl))) (mvT hZ75 (hw _ (List.mem_of_getElem? (i := 27) rfl))) (mvT hZ75 (hw _ (List.mem_of_getElem? (i := 28) rfl))) (mvT hZ75 (hw _ (List.mem_of_getElem? (i := 29) rfl))) (by decide) (backOf (W := 0) (rm5 l Z a0 hw [] b116 [z71, z73] va kv u0 u1 u2 u3 y0 y1 y2 y3 em zc T130.heap n0 (Nat.le_trans (Nat.le_trans (Nat.le_trans (Nat.le_trans (Nat.le_trans (Nat.le_trans (Nat.le_trans (Nat.le_trans Z0 E71.1) E73.1) E75.1) E116.1) E118.1) (Keep.of_wr W121).1) (Keep.of_wr W124).1) K130.1) (c129.keep K130 (allS g_b116 all0)) Sv Vv Ev Fs_u0 Ss_u0 Fs_u1 Ss_u1 Fs_u2 Ss_u2 Fs_u3 Ss_u3 Sm Em Fm Sz hzc hY) hZ75 (hw _ (List.mem_of_getElem? (i := 29) rfl)) (hw _ (List.mem_of_getElem? (i := 28) rfl)) (by decide) (by decide)) (g := (mkF m 129 #[.val (.int p0), .val (.int p1), .val (.int p2), .val (.int p3), .val (.int (p0 &&& (3 : Int32))), .val (.int z71), .val (.int z73), .val (.int z75), .val (.ref b116), .unset, .unset] [(.ref b116)])) rfl (by rw [hml]; rfl) (argsL := [(.ref b116)]) (rest := []) (lenOf pd__Ljava_lang_String__Ljava_util_Optional__717 rfl) rfl (by show 2 * 0 + _ ≤ _; exact Nat.le_of_eq rfl) (hb hby at_129) (fun _ _ => ⟨rfl, rfl, (by decide : 9 + 2 ≤ _), (by decide : 68 + 5 ≤ _)⟩)
            dsimp only [Pt.U, Pt.locs, Pt.cells, Pt.slots] at X133 l133 y133 z133 st133 hQ133
            subst l133 y133 z133
            obtain ⟨o133, rfl, N133q, E133, Eo133, Fo133⟩ := hQ133
            have N133 := Fr.app N130 N133q
            refine own_byH st133 ?_
            have CR134 := CHr.ext E133 CH131.1
            have CH134 := CH131.trans CR134
            show own_ComesH Z p e below s _ _ _ (T133.setTop (mkF m 132 #[.val (.int p0), .val (.int p1), .val (.int p2), .val (.int p3), .val (.int (p0 &&& (3 : Int32))), .val (.int z71), .val (.int z73), .val (.int z75), .val (.ref b116), .unset, .unset] [(.ref o133)]))
            rw [own_u21 _ _ _ _ hc1 hm] at Fo133
            refine own_byH (fun _ kS => XS.aconstNull X133.here hx rfl (hb hby at_132) kS) ?_
            show own_ComesH Z p e below s _ _ _ (T133.setTop (mkF m 133 #[.val (.int p0), .val (.int p1), .val (.int p2), .val (.int p3), .val (.int (p0 &&& (3 : Int32))), .val (.int z71), .val (.int z73), .val (.int z75), .val (.ref b116), .unset, .unset] [.null, (.ref o133)]))
            obtain ⟨cq135, kq135, q135a, q135b, q135c⟩ := isOf hZ75 rfl Eo133
            obtain ⟨vv135, _, ⟨T135, L135, k135, n135⟩, -, X135, ⟨Lc135, hQ135, l135, y135, z135⟩, st135⟩ := X133.virtualBack hx (y := (⟨"java/util/Optional", "orElse", "(Ljava/lang/Object;)Ljava/lang/Object;"⟩ : MethodName)) (z := (⟨"java/util/Optional", "orElse", "(Ljava/lang/Object;)Ljava/lang/Object;"⟩ : MethodName)) hown75 (mvT hZ75 (hw _ (List.mem_of_getElem? (i := 67) rfl))) (mvT hZ75 (hw _ (List.mem_of_getElem? (i := 68) rfl))) (notFace_of_selects (args := #[]) (mvT hZ75 (hw _ (List.mem_of_getElem? (i := 70) rfl)))) (mvT hZ75 (hw _ (List.mem_of_getElem? (i := 70) rfl))) (mvT hZ75 (hw _ (List.mem_of_getElem? (i := 69) rfl))) (by decide) (backOf (W := 0) (rm10r l Z a0 hw [] o133 u1 T133.heap n0 (Nat.le_trans (Nat.le_trans (Nat.le_trans (Nat.le_trans (Nat.le_trans (Nat.le_trans (Nat.le_trans (Nat.le_trans (Nat.le_trans Z0 E71.1) E73.1) E75.1) E116.1) E118.1) (Keep.of_wr W121).1) (Keep.of_wr W124).1) K130.1) E133.1) Fo133) hZ75 (hw _ (List.mem_of_getElem? (i := 71) rfl)) (hw _ (List.mem_of_getElem? (i := 64) rfl)) (by decide) (by decide)) q135a q135c (g := (mkF m 133 #[.val (.int p0), .val (.int p1), .val (.int p2), .val (.int p3), .val (.int (p0 &&& (3 : Int32))), .val (.int z71), .val (.int z73), .val (.int z75), .val (.ref b116), .unset, .unset] [.null, (.ref o133)])) rfl (by rw [hml]; rfl) (Steps.refl _) (argsL := [.null]) (rest := []) (lenOf pd__Ljava_lang_Object__Ljava_lang_Object__418 rfl) rfl (by show 2 * 0 + _ ≤ _; exact Nat.le_of_eq rfl) (hb hby at_133) (fun _ _ => ⟨rfl, rfl, (by decide : 11 + 0 ≤ _), (by decide : 73 + 0 ≤ _)⟩)
            dsimp only [Pt.U, Pt.locs, Pt.cells, Pt.slots] at X135 l135 y135 z135 st135 hQ135
            subst l135 y135 z135
            obtain ⟨rfl, N135q, e135q⟩ := hQ135
            have N135 := Fr.app N133 N135q
            refine own_trH st135 ?_
            have e135 : T135.heap = T133.heap := e135q
            show own_ComesH Z p e below s _ _ _ (T135.setTop (mkF m 136 #[.val (.int p0), .val (.int p1), .val (.int p2), .val (.int p3), .val (.int (p0 &&& (3 : Int32))), .val (.int z71), .val (.int z73), .val (.int z75), .val (.ref b116), .unset, .unset] [(.ref u1)]))
            obtain ⟨T136, X136, e136, st136⟩ := castY X135 hx hZ75 hown75 (hw _ (List.mem_of_getElem? (i := 113) rfl)) e135 (Ins.self (Eu_u1.ext ((c129.keep K130 (allS g_b116 all0)).ext E133).2)) (g := (mkF m 136 #[.val (.int p0), .val (.int p1), .val (.int p2), .val (.int p3), .val (.int (p0 &&& (3 : Int32))), .val (.int z71), .val (.int z73), .val (.int z75), .val (.ref b116), .unset, .unset] [(.ref u1)])) rfl rfl (hb hby at_136)
            refine own_byH st136 ?_
            show own_ComesH Z p e below s _ _ _ (T136.setTop (mkF m 139 #[.val (.int p0), .val (.int p1), .val (.int p2), .val (.int p3), .val (.int (p0 &&& (3 : Int32))), .val (.int z71), .val (.int z73), .val (.int z75), .val (.ref b116), .unset, .unset] [(.ref u1)]))
            refine own_byH (fun _ kS => XS.astore X136.here hx rfl (hb hby at_139) rfl rfl (l' := #[.val (.int p0), .val (.int p1), .val (.int p2), .val (.int p3), .val (.int (p0 &&& (3 : Int32))), .val (.int z71), .val (.int z73), .val (.int z75), .val (.ref b116), .val (.ref u1), .unset]) rfl kS) ?_
            show own_ComesH Z p e below s _ _ _ (T136.setTop (mkF m 141 #[.val (.int p0), .val (.int p1), .val (.int p2), .val (.int p3), .val (.int (p0 &&& (3 : Int32))), .val (.int z71), .val (.int z73), .val (.int z75), .val (.ref b116), .val (.ref u1), .unset] []))
            refine own_byH (fun _ kS => XS.aconstNull X136.here hx rfl (hb hby at_141) kS) ?_
            show own_ComesH Z p e below s _ _ _ (T136.setTop (mkF m 142 #[.val (.int p0), .val (.int p1), .val (.int p2), .val (.int p3), .val (.int (p0 &&& (3 : Int32))), .val (.int z71), .val (.int z73), .val (.int z75), .val (.ref b116), .val (.ref u1), .unset] [.null]))
            refine own_byH (fun _ kS => XS.astore X136.here hx rfl (hb hby at_142) rfl rfl (l' := #[.val (.int p0), .val (.int p1), .val (.int p2), .val (.int p3), .val (.int (p0 &&& (3 : Int32))), .val (.int z71), .val (.int z73), .val (.int z75), .val (.ref b116), .val (.ref u1), .val .null]) rfl kS) ?_
            show own_ComesH Z p e below s _ _ _ (T136.setTop (mkF m 144 #[.val (.int p0), .val (.int p1), .val (.int p2), .val (.int p3), .val (.int (p0 &&& (3 : Int32))), .val (.int z71), .val (.int z73), .val (.int z75), .val (.ref b116), .val (.ref u1), .val .null] []))
            refine own_byH (fun _ kS => XS.iload X136.here hx rfl (hb hby at_144) rfl kS) ?_
            show own_ComesH Z p e below s _ _ _ (T136.setTop (mkF m 146 #[.val (.int p0), .val (.int p1), .val (.int p2), .val (.int p3), .val (.int (p0 &&& (3 : Int32))), .val (.int z71), .val (.int z73), .val (.int z75), .val (.ref b116), .val (.ref u1), .val .null] [(.int (p0 &&& (3 : Int32)))]))
            refine own_byH (fun _ kS => XS.iconst X136.here hx rfl (hb hby at_146) kS) ?_
            show own_ComesH Z p e below s _ _ _ (T136.setTop (mkF m 147 #[.val (.int p0), .val (.int p1), .val (.int p2), .val (.int p3), .val (.int (p0 &&& (3 : Int32))), .val (.int z71), .val (.int z73), .val (.int z75), .val (.ref b116), .val (.ref u1), .val .null] [(.int (1 : Int32)), (.int (p0 &&& (3 : Int32)))]))
            refine own_byH (fun _ kS => XS.icmpYes X136.here hx rfl (pc0 := 147) (pc' := 165) rfl (hb hby at_147) rfl (feq hl1).2 (by decide) (by decide) kS) ?_
            show own_ComesH Z p e below s _ _ _ (T136.setTop (mkF m 165 #[.val (.int p0), .val (.int p1), .val (.int p2), .val (.int p3), .val (.int (p0 &&& (3 : Int32))), .val (.int z71), .val (.int z73), .val (.int z75), .val (.ref b116), .val (.ref u1), .val .null] []))
            refine own_byH (fun _ kS => XS.iload X136.here hx rfl (hb hby at_165) rfl kS) ?_
            show own_ComesH Z p e below s _ _ _ (T136.setTop (mkF m 167 #[.val (.int p0), .val (.int p1), .val (.int p2), .val (.int p3), .val (.int (p0 &&& (3 : Int32))), .val (.int z71), .val (.int z73), .val (.int z75), .val (.ref b116), .val (.ref u1), .val .null] [(.int (p0 &&& (3 : Int32)))]))
            refine own_byH (fun _ kS => XS.iconst X136.here hx rfl (hb hby at_167) kS) ?_
            show own_ComesH Z p e below s _ _ _ (T136.setTop (mkF m 168 #[.val (.int p0), .val (.int p1), .val (.int p2), .val (.int p3), .val (.int (p0 &&& (3 : Int32))), .val (.int z71), .val (.int z73), .val (.int z75), .val (.ref b116), .val (.ref u1), .val .null] [(.int (2 : Int32)), (.int (p0 &&& (3 : Int32)))]))
            refine own_byH (fun _ kS => XS.icmpNo X136.here hx rfl (hb hby at_168) rfl (teq hl2).2 kS) ?_
            show own_ComesH Z p e below s _ _ _ (T136.setTop (mkF m 171 #[.val (.int p0), .val (.int p1), .val (.int p2), .val (.int p3), .val (.int (p0 &&& (3 : Int32))), .val (.int z71), .val (.int z73), .val (.int z75), .val (.ref b116), .val (.ref u1), .val .null] []))
            refine own_byH (fun _ kS => XS.iload X136.here hx rfl (hb hby at_171) rfl kS) ?_
            show own_ComesH Z p e below s _ _ _ (T136.setTop (mkF m 173 #[.val (.int p0), .val (.int p1), .val (.int p2), .val (.int p3), .val (.int (p0 &&& (3 : Int32))), .val (.int z71), .val (.int z73), .val (.int z75), .val (.ref b116), .val (.ref u1), .val .null] [(.int z73)]))
            refine own_byH (fun _ kS => XS.bipush X136.here hx rfl (hb hby at_173) kS) ?_
            show own_ComesH Z p e below s _ _ _ (T136.setTop (mkF m 175 #[.val (.int p0), .val (.int p1), .val (.int p2), .val (.int p3), .val (.int (p0 &&& (3 : Int32))), .val (.int z71), .val (.int z73), .val (.int z75), .val (.ref b116), .val (.ref u1), .val .null] [(.int (115 : Int32)), (.int z73)]))
            refine own_byH (fun _ kS => XS.icmpNo X136.here hx rfl (hb hby at_175) rfl (teq hc1).2 kS) ?_
            show own_ComesH Z p e below s _ _ _ (T136.setTop (mkF m 178 #[.val (.int p0), .val (.int p1), .val (.int p2), .val (.int p3), .val (.int (p0 &&& (3 : Int32))), .val (.int z71), .val (.int z73), .val (.int z75), .val (.ref b116), .val (.ref u1), .val .null] []))
            refine own_byH (fun _ kS => XS.iload X136.here hx rfl (hb hby at_178) rfl kS) ?_
            show own_ComesH Z p e below s _ _ _ (T136.setTop (mkF m 180 #[.val (.int p0), .val (.int p1), .val (.int p2), .val (.int p3), .val (.int (p0 &&& (3 : Int32))), .val (.int z71), .val (.int z73), .val (.int z75), .val (.ref b116), .val (.ref u1), .val .null] [(.int z71)]))
            refine own_byH (fun _ kS => XS.bipush X136.here hx rfl (hb hby at_180) kS) ?_
            show own_ComesH Z p e below s _ _ _ (T136.setTop (mkF m 182 #[.val (.int p0), .val (.int p1), .val (.int p2), .val (.int p3), .val (.int (p0 &&& (3 : Int32))), .val (.int z71), .val (.int z73), .val (.int z75), .val (.ref b116), .val (.ref u1), .val .null] [(.int (109 : Int32)), (.int z71)]))
            refine own_byH (fun _ kS => XS.icmpNo X136.here hx rfl (hb hby at_182) rfl (teq hm).2 kS) ?_
            show own_ComesH Z p e below s _ _ _ (T136.setTop (mkF m 185 #[.val (.int p0), .val (.int p1), .val (.int p2), .val (.int p3), .val (.int (p0 &&& (3 : Int32))), .val (.int z71), .val (.int z73), .val (.int z75), .val (.ref b116), .val (.ref u1), .val .null] []))
            obtain ⟨T137, X137, e137, st137⟩ := getS2 X136 hx hZ75 hown75 (host := "") (Or.inl (hw _ (List.mem_of_getElem? (i := 117) rfl))) Via.refl e136 (St_u1.ext ((c129.keep K130 (allS g_b116 all0)).ext E133).2) (g := (mkF m 185 #[.val (.int p0), .val (.int p1), .val (.int p2), .val (.int p3), .val (.int (p0 &&& (3 : Int32))), .val (.int z71), .val (.int z73), .val (.int z75), .val (.ref b116), .val (.ref u1), .val .null] [])) rfl (hb hby at_185)
            refine own_byH st137 ?_
            show own_ComesH Z p e below s _ _ _ (T137.setTop (mkF m 188 #[.val (.int p0), .val (.int p1), .val (.int p2), .val (.int p3), .val (.int (p0 &&& (3 : Int32))), .val (.int z71), .val (.int z73), .val (.int z75), .val (.ref b116), .val (.ref u1), .val .null] [(.ref u1)]))
            refine own_byH (fun _ kS => XS.astore X137.here hx rfl (hb hby at_188) rfl rfl (l' := #[.val (.int p0), .val (.int p1), .val (.int p2), .val (.int p3), .val (.int (p0 &&& (3 : Int32))), .val (.int z71), .val (.int z73), .val (.int z75), .val (.ref b116), .val (.ref u1), .val (.ref u1)]) rfl kS) ?_
            show own_ComesH Z p e below s _ _ _ (T137.setTop (mkF m 190 #[.val (.int p0), .val (.int p1), .val (.int p2), .val (.int p3), .val (.int (p0 &&& (3 : Int32))), .val (.int z71), .val (.int z73), .val (.int z75), .val (.ref b116), .val (.ref u1), .val (.ref u1)] []))
            refine own_byH (fun _ kS => XS.goto X137.here hx rfl (pc0 := 190) (pc' := 220) rfl (hb hby at_190) (by decide) (by decide) kS) ?_
            show own_ComesH Z p e below s _ _ _ (T137.setTop (mkF m 220 #[.val (.int p0), .val (.int p1), .val (.int p2), .val (.int p3), .val (.int (p0 &&& (3 : Int32))), .val (.int z71), .val (.int z73), .val (.int z75), .val (.ref b116), .val (.ref u1), .val (.ref u1)] []))
            refine own_byH (fun _ kS => XS.aload X137.here hx rfl (hb hby at_220) rfl rfl kS) ?_
            show own_ComesH Z p e below s _ _ _ (T137.setTop (mkF m 222 #[.val (.int p0), .val (.int p1), .val (.int p2), .val (.int p3), .val (.int (p0 &&& (3 : Int32))), .val (.int z71), .val (.int z73), .val (.int z75), .val (.ref b116), .val (.ref u1), .val (.ref u1)] [(.ref u1)]))
            refine own_byH (fun _ kS => XS.aload X137.here hx rfl (hb hby at_222) rfl rfl kS) ?_
            show own_ComesH Z p e below s _ _ _ (T137.setTop (mkF m 224 #[.val (.int p0), .val (.int p1), .val (.int p2), .val (.int p3), .val (.int (p0 &&& (3 : Int32))), .val (.int z71), .val (.int z73), .val (.int z75), .val (.ref b116), .val (.ref u1), .val (.ref u1)] [(.ref u1), (.ref u1)]))
            refine own_byH (fun _ kS => Jvm.RoadKit.acmp (g := (mkF m 224 #[.val (.int p0), .val (.int p1), .val (.int p2), .val (.int p3), .val (.int (p0 &&& (3 : Int32))), .val (.int z71), .val (.int z73), .val (.int z75), .val (.ref b116), .val (.ref u1), .val (.ref u1)] [(.ref u1), (.ref u1)])) X137 hx rfl rfl rfl (pc0 := 224) (pc' := 227) (same := true) rfl (hb hby at_224) rfl (decide_eq_true rfl) (by decide) (by decide) kS) ?_
            show own_ComesH Z p e below s _ _ _ (T137.setTop (mkF m 227 #[.val (.int p0), .val (.int p1), .val (.int p2), .val (.int p3), .val (.int (p0 &&& (3 : Int32))), .val (.int z71), .val (.int z73), .val (.int z75), .val (.ref b116), .val (.ref u1), .val (.ref u1)] []))
            refine own_byH (fun _ kS => XS.iconst X137.here hx rfl (hb hby at_227) kS) ?_
            show own_ComesH Z p e below s _ _ _ (T137.setTop (mkF m 228 #[.val (.int p0), .val (.int p1), .val (.int p2), .val (.int p3), .val (.int (p0 &&& (3 : Int32))), .val (.int z71), .val (.int z73), .val (.int z75), .val (.ref b116), .val (.ref u1), .val (.ref u1)] [(.int (1 : Int32))]))
            refine own_byH (fun _ kS => XS.goto X137.here hx rfl (pc0 := 228) (pc' := 232) rfl (hb hby at_228) (by decide) (by decide) kS) ?_
            show own_ComesH Z p e below s _ _ _ (T137.setTop (mkF m 232 #[.val (.int p0), .val (.int p1), .val (.int p2), .val (.int p3), .val (.int (p0 &&& (3 : Int32))), .val (.int z71), .val (.int z73), .val (.int z75), .val (.ref b116), .val (.ref u1), .val (.ref u1)] [(.int (1 : Int32))]))
            have hkr138 := (Nat.le_trans (Nat.le_trans (Nat.le_trans (Nat.le_trans (Nat.le_trans (Nat.le_trans (Nat.le_refl (Array.size T75.heap)) E116.1) E118.1) (Keep.of_wr W121).1) (Keep.of_wr W124).1) K130.1) E133.1)
            have hcr138 := CH134.trans (CHv.at X137 hZ75 hEL CH134.1)
            refine own_retH X137 hS75 (by rw [e137]; exact hkr138) (by rw [hh]; rw [e137]; exact hcr138) (v := some (.int (1 : Int32))) (fun h => by rw [Bd.returns] at h; cases h) Bd.notSynchronized (by decide) (by decide) ?_ (fun fs hr => retN X137 hx (t := .boolean) Bd.returns (by simp) (hb hby at_232) hr)
            rw [e137]; exact ⟨rfl, N135⟩
          · show own_ComesH Z p e below s _ _ _ (T130.setTop (mkF m 127 #[.val (.int p0), .val (.int p1), .val (.int p2), .val (.int p3), .val (.int (p0 &&& (3 : Int32))), .val (.int z71), .val (.int z73), .val (.int z75), .val (.ref b116), .unset, .unset] []))
            by_cases hu : z71 = (117 : Int32)
            · show own_ComesH Z p e below s _ _ _ (T130.setTop (mkF m 127 #[.val (.int p0), .val (.int p1), .val (.int p2), .val (.int p3), .val (.int (p0 &&& (3 : Int32))), .val (.int z71), .val (.int z73), .val (.int z75), .val (.ref b116), .unset, .unset] []))
              refine own_byH (fun _ kS => XS.aload X130.here hx rfl (hb hby at_127) rfl rfl kS) ?_
              show own_ComesH Z p e below s _ _ _ (T130.setTop (mkF m 129 #[.val (.int p0), .val (.int p1), .val (.int p2), .val (.int p3), .val (.int (p0 &&& (3 : Int32))), .val (.int z71), .val (.int z73), .val (.int z75), .val (.ref b116), .unset, .unset] [(.ref b116)]))
              obtain ⟨vv139, _, ⟨T139, L139, k139, n139⟩, -, X139, ⟨Lc139, hQ139, l139, y139, z139⟩, st139⟩ := Jvm.LawKit.callS X130 hx (y := (⟨"com/example/mixed_margins/mixedmargins/model/TimeUnit", "ofSymbol", "(Ljava/lang/String;)Ljava/util/Optional;"⟩ : MethodName)) hown75 (mvT hZ75 (hw _ (List.mem_of_getElem? (i := 26) rfl))) (mvT hZ75 (hw _ (List.mem_of_getElem? (i := 27) rfl))) (mvT hZ75 (hw _ (List.mem_of_getElem? (i := 28) rfl))) (mvT hZ75 (hw _ (List.mem_of_getElem? (i := 29) rfl))) (by decide) (backOf (W := 0) (rm5 l Z a0 hw [] b116 [z71, z73] va kv u0 u1 u2 u3 y0 y1 y2 y3 em zc T130.heap n0 (Nat.le_trans (Nat.le_trans (Nat.le_trans (Nat.le_trans (Nat.le_trans (Nat.le_trans (Nat.le_trans (Nat.le_trans Z0 E71.1) E73.1) E75.1) E116.1) E118.1) (Keep.of_wr W121).1) (Keep.of_wr W124).1) K130.1) (c129.keep K130 (allS g_b116 all0)) Sv Vv Ev Fs_u0 Ss_u0 Fs_u1 Ss_u1 Fs_u2 Ss_u2 Fs_u3 Ss_u3 Sm Em Fm Sz hzc hY) hZ75 (hw _ (List.mem_of_getElem? (i := 29) rfl)) (hw _ (List.mem_of_getElem? (i := 28) rfl)) (by decide) (by decide)) (g := (mkF m 129 #[.val (.int p0), .val (.int p1), .val (.int p2), .val (.int p3), .val (.int (p0 &&& (3 : Int32))), .val (.int z71), .val (.int z73), .val (.int z75), .val (.ref b116), .unset, .unset] [(.ref b116)])) rfl (by rw [hml]; rfl) (argsL := [(.ref b116)]) (rest := []) (lenOf pd__Ljava_lang_String__Ljava_util_Optional__717 rfl) rfl (by show 2 * 0 + _ ≤ _; exact Nat.le_of_eq rfl) (hb hby at_129) (fun _ _ => ⟨rfl, rfl, (by decide : 9 + 2 ≤ _), (by decide : 68 + 5 ≤ _)⟩)
              dsimp only [Pt.U, Pt.locs, Pt.cells, Pt.slots] at X139 l139 y139 z139 st139 hQ139
              subst l139 y139 z139
              obtain ⟨o139, rfl, N139q, E139, Eo139, Fo139⟩ := hQ139
              have N139 := Fr.app N130 N139q
              refine own_byH st139 ?_
              have CR140 := CHr.ext E139 CH131.1
              have CH140 := CH131.trans CR140
              show own_ComesH Z p e below s _ _ _ (T139.setTop (mkF m 132 #[.val (.int p0), .val (.int p1), .val (.int p2), .val (.int p3), .val (.int (p0 &&& (3 : Int32))), .val (.int z71), .val (.int z73), .val (.int z75), .val (.ref b116), .unset, .unset] [(.ref o139)]))
              rw [own_u22 _ _ _ _ hc1 hu] at Fo139
              refine own_byH (fun _ kS => XS.aconstNull X139.here hx rfl (hb hby at_132) kS) ?_
              show own_ComesH Z p e below s _ _ _ (T139.setTop (mkF m 133 #[.val (.int p0), .val (.int p1), .val (.int p2), .val (.int p3), .val (.int (p0 &&& (3 : Int32))), .val (.int z71), .val (.int z73), .val (.int z75), .val (.ref b116), .unset, .unset] [.null, (.ref o139)]))
              obtain ⟨cq141, kq141, q141a, q141b, q141c⟩ := isOf hZ75 rfl Eo139
              obtain ⟨vv141, _, ⟨T141, L141, k141, n141⟩, -, X141, ⟨Lc141, hQ141, l141, y141, z141⟩, st141⟩ := X139.virtualBack hx (y := (⟨"java/util/Optional", "orElse", "(Ljava/lang/Object;)Ljava/lang/Object;"⟩ : MethodName)) (z := (⟨"java/util/Optional", "orElse", "(Ljava/lang/Object;)Ljava/lang/Object;"⟩ : MethodName)) hown75 (mvT hZ75 (hw _ (List.mem_of_getElem? (i := 67) rfl))) (mvT hZ75 (hw _ (List.mem_of_getElem? (i := 68) rfl))) (notFace_of_selects (args := #[]) (mvT hZ75 (hw _ (List.mem_of_getElem? (i := 70) rfl)))) (mvT hZ75 (hw _ (List.mem_of_getElem? (i := 70) rfl))) (mvT hZ75 (hw _ (List.mem_of_getElem? (i := 69) rfl))) (by decide) (backOf (W := 0) (rm10r l Z a0 hw [] o139 u2 T139.heap n0 (Nat.le_trans (Nat.le_trans (Nat.le_trans (Nat.le_trans (Nat.le_trans (Nat.le_trans (Nat.le_trans (Nat.le_trans (Nat.le_trans Z0 E71.1) E73.1) E75.1) E116.1) E118.1) (Keep.of_wr W121).1) (Keep.of_wr W124).1) K130.1) E139.1) Fo139) hZ75 (hw _ (List.mem_of_getElem? (i := 71) rfl)) (hw _ (List.mem_of_getElem? (i := 64) rfl)) (by decide) (by decide)) q141a q141c (g := (mkF m 133 #[.val (.int p0), .val (.int p1), .val (.int p2), .val (.int p3), .val (.int (p0 &&& (3 : Int32))), .val (.int z71), .val (.int z73), .val (.int z75), .val (.ref b116), .unset, .unset] [.null, (.ref o139)])) rfl (by rw [hml]; rfl) (Steps.refl _) (argsL := [.null]) (rest := []) (lenOf pd__Ljava_lang_Object__Ljava_lang_Object__418 rfl) rfl (by show 2 * 0 + _ ≤ _; exact Nat.le_of_eq rfl) (hb hby at_133) (fun _ _ => ⟨rfl, rfl, (by decide : 11 + 0 ≤ _), (by decide : 73 + 0 ≤ _)⟩)
              dsimp only [Pt.U, Pt.locs, Pt.cells, Pt.slots] at X141 l141 y141 z141 st141 hQ141
              subst l141 y141 z141
              obtain ⟨rfl, N141q, e141q⟩ := hQ141
              have N141 := Fr.app N139 N141q
              refine own_trH st141 ?_
              have e141 : T141.heap = T139.heap := e141q
              show own_ComesH Z p e below s _ _ _ (T141.setTop (mkF m 136 #[.val (.int p0), .val (.int p1), .val (.int p2), .val (.int p3), .val (.int (p0 &&& (3 : Int32))), .val (.int z71), .val (.int z73), .val (.int z75), .val (.ref b116), .unset, .unset] [(.ref u2)]))
              obtain ⟨T142, X142, e142, st142⟩ := castY X141 hx hZ75 hown75 (hw _ (List.mem_of_getElem? (i := 113) rfl)) e141 (Ins.self (Eu_u2.ext ((c129.keep K130 (allS g_b116 all0)).ext E139).2)) (g := (mkF m 136 #[.val (.int p0), .val (.int p1), .val (.int p2), .val (.int p3), .val (.int (p0 &&& (3 : Int32))), .val (.int z71), .val (.int z73), .val (.int z75), .val (.ref b116), .unset, .unset] [(.ref u2)])) rfl rfl (hb hby at_136)
              refine own_byH st142 ?_
              show own_ComesH Z p e below s _ _ _ (T142.setTop (mkF m 139 #[.val (.int p0), .val (.int p1), .val (.int p2), .val (.int p3), .val (.int (p0 &&& (3 : Int32))), .val (.int z71), .val (.int z73), .val (.int z75), .val (.ref b116), .unset, .unset] [(.ref u2)]))
              refine own_byH (fun _ kS => XS.astore X142.here hx rfl (hb hby at_139) rfl rfl (l' := #[.val (.int p0), .val (.int p1), .val (.int p2), .val (.int p3), .val (.int (p0 &&& (3 : Int32))), .val (.int z71), .val (.int z73), .val (.int z75), .val (.ref b116), .val (.ref u2), .unset]) rfl kS) ?_
              show own_ComesH Z p e below s _ _ _ (T142.setTop (mkF m 141 #[.val (.int p0), .val (.int p1), .val (.int p2), .val (.int p3), .val (.int (p0 &&& (3 : Int32))), .val (.int z71), .val (.int z73), .val (.int z75), .val (.ref b116), .val (.ref u2), .unset] []))
              refine own_byH (fun _ kS => XS.aconstNull X142.here hx rfl (hb hby at_141) kS) ?_
              show own_ComesH Z p e below s _ _ _ (T142.setTop (mkF m 142 #[.val (.int p0), .val (.int p1), .val (.int p2), .val (.int p3), .val (.int (p0 &&& (3 : Int32))), .val (.int z71), .val (.int z73), .val (.int z75), .val (.ref b116), .val (.ref u2), .unset] [.null]))
              refine own_byH (fun _ kS => XS.astore X142.here hx rfl (hb hby at_142) rfl rfl (l' := #[.val (.int p0), .val (.int p1), .val (.int p2), .val (.int p3), .val (.int (p0 &&& (3 : Int32))), .val (.int z71), .val (.int z73), .val (.int z75), .val (.ref b116), .val (.ref u2), .val .null]) rfl kS) ?_
              show own_ComesH Z p e below s _ _ _ (T142.setTop (mkF m 144 #[.val (.int p0), .val (.int p1), .val (.int p2), .val (.int p3), .val (.int (p0 &&& (3 : Int32))), .val (.int z71), .val (.int z73), .val (.int z75), .val (.ref b116), .val (.ref u2), .val .null] []))
              refine own_byH (fun _ kS => XS.iload X142.here hx rfl (hb hby at_144) rfl kS) ?_
              show own_ComesH Z p e below s _ _ _ (T142.setTop (mkF m 146 #[.val (.int p0), .val (.int p1), .val (.int p2), .val (.int p3), .val (.int (p0 &&& (3 : Int32))), .val (.int z71), .val (.int z73), .val (.int z75), .val (.ref b116), .val (.ref u2), .val .null] [(.int (p0 &&& (3 : Int32)))]))
              refine own_byH (fun _ kS => XS.iconst X142.here hx rfl (hb hby at_146) kS) ?_
              show own_ComesH Z p e below s _ _ _ (T142.setTop (mkF m 147 #[.val (.int p0), .val (.int p1), .val (.int p2), .val (.int p3), .val (.int (p0 &&& (3 : Int32))), .val (.int z71), .val (.int z73), .val (.int z75), .val (.ref b116), .val (.ref u2), .val .null] [(.int (1 : Int32)), (.int (p0 &&& (3 : Int32)))]))
              refine own_byH (fun _ kS => XS.icmpYes X142.here hx rfl (pc0 := 147) (pc' := 165) rfl (hb hby at_147) rfl (feq hl1).2 (by decide) (by decide) kS) ?_
              show own_ComesH Z p e below s _ _ _ (T142.setTop (mkF m 165 #[.val (.int p0), .val (.int p1), .val (.int p2), .val (.int p3), .val (.int (p0 &&& (3 : Int32))), .val (.int z71), .val (.int z73), .val (.int z75), .val (.ref b116), .val (.ref u2), .val .null] []))
              refine own_byH (fun _ kS => XS.iload X142.here hx rfl (hb hby at_165) rfl kS) ?_
              show own_ComesH Z p e below s _ _ _ (T142.setTop (mkF m 167 #[.val (.int p0), .val (.int p1), .val (.int p2), .val (.int p3), .val (.int (p0 &&& (3 : Int32))), .val (.int z71), .val (.int z73), .val (.int z75), .val (.ref b116), .val (.ref u2), .val .null] [(.int (p0 &&& (3 : Int32)))]))
              refine own_byH (fun _ kS => XS.iconst X142.here hx rfl (hb hby at_167) kS) ?_
              show own_ComesH Z p e below s _ _ _ (T142.setTop (mkF m 168 #[.val (.int p0), .val (.int p1), .val (.int p2), .val (.int p3), .val (.int (p0 &&& (3 : Int32))), .val (.int z71), .val (.int z73), .val (.int z75), .val (.ref b116), .val (.ref u2), .val .null] [(.int (2 : Int32)), (.int (p0 &&& (3 : Int32)))]))
              refine own_byH (fun _ kS => XS.icmpNo X142.here hx rfl (hb hby at_168) rfl (teq hl2).2 kS) ?_
              show own_ComesH Z p e below s _ _ _ (T142.setTop (mkF m 171 #[.val (.int p0), .val (.int p1), .val (.int p2), .val (.int p3), .val (.int (p0 &&& (3 : Int32))), .val (.int z71), .val (.int z73), .val (.int z75), .val (.ref b116), .val (.ref u2), .val .null] []))
              refine own_byH (fun _ kS => XS.iload X142.here hx rfl (hb hby at_171) rfl kS) ?_
              show own_ComesH Z p e below s _ _ _ (T142.setTop (mkF m 173 #[.val (.int p0), .val (.int p1), .val (.int p2), .val (.int p3), .val (.int (p0 &&& (3 : Int32))), .val (.int z71), .val (.int z73), .val (.int z75), .val (.ref b116), .val (.ref u2), .val .null] [(.int z73)]))
              refine own_byH (fun _ kS => XS.bipush X142.here hx rfl (hb hby at_173) kS) ?_
              show own_ComesH Z p e below s _ _ _ (T142.setTop (mkF m 175 #[.val (.int p0), .val (.int p1), .val (.int p2), .val (.int p3), .val (.int (p0 &&& (3 : Int32))), .val (.int z71), .val (.int z73), .val (.int z75), .val (.ref b116), .val (.ref u2), .val .null] [(.int (115 : Int32)), (.int z73)]))
              refine own_byH (fun _ kS => XS.icmpNo X142.here hx rfl (hb hby at_175) rfl (teq hc1).2 kS) ?_
              show own_ComesH Z p e below s _ _ _ (T142.setTop (mkF m 178 #[.val (.int p0), .val (.int p1), .val (.int p2), .val (.int p3), .val (.int (p0 &&& (3 : Int32))), .val (.int z71), .val (.int z73), .val (.int z75), .val (.ref b116), .val (.ref u2), .val .null] []))
              refine own_byH (fun _ kS => XS.iload X142.here hx rfl (hb hby at_178) rfl kS) ?_
              show own_ComesH Z p e below s _ _ _ (T142.setTop (mkF m 180 #[.val (.int p0), .val (.int p1), .val (.int p2), .val (.int p3), .val (.int (p0 &&& (3 : Int32))), .val (.int z71), .val (.int z73), .val (.int z75), .val (.ref b116), .val (.ref u2), .val .null] [(.int z71)]))
              refine own_byH (fun _ kS => XS.bipush X142.here hx rfl (hb hby at_180) kS) ?_
              show own_ComesH Z p e below s _ _ _ (T142.setTop (mkF m 182 #[.val (.int p0), .val (.int p1), .val (.int p2), .val (.int p3), .val (.int (p0 &&& (3 : Int32))), .val (.int z71), .val (.int z73), .val (.int z75), .val (.ref b116), .val (.ref u2), .val .null] [(.int (109 : Int32)), (.int z71)]))
              refine own_byH (fun _ kS => XS.icmpYes X142.here hx rfl (pc0 := 182) (pc' := 193) rfl (hb hby at_182) rfl (feq hm).2 (by decide) (by decide) kS) ?_
              show own_ComesH Z p e below s _ _ _ (T142.setTop (mkF m 193 #[.val (.int p0), .val (.int p1), .val (.int p2), .val (.int p3), .val (.int (p0 &&& (3 : Int32))), .val (.int z71), .val (.int z73), .val (.int z75), .val (.ref b116), .val (.ref u2), .val .null] []))
              refine own_byH (fun _ kS => XS.iload X142.here hx rfl (hb hby at_193) rfl kS) ?_
              show own_ComesH Z p e below s _ _ _ (T142.setTop (mkF m 195 #[.val (.int p0), .val (.int p1), .val (.int p2), .val (.int p3), .val (.int (p0 &&& (3 : Int32))), .val (.int z71), .val (.int z73), .val (.int z75), .val (.ref b116), .val (.ref u2), .val .null] [(.int z71)]))
              refine own_byH (fun _ kS => XS.bipush X142.here hx rfl (hb hby at_195) kS) ?_
              show own_ComesH Z p e below s _ _ _ (T142.setTop (mkF m 197 #[.val (.int p0), .val (.int p1), .val (.int p2), .val (.int p3), .val (.int (p0 &&& (3 : Int32))), .val (.int z71), .val (.int z73), .val (.int z75), .val (.ref b116), .val (.ref u2), .val .null] [(.int (117 : Int32)), (.int z71)]))
              refine own_byH (fun _ kS => XS.icmpNo X142.here hx rfl (hb hby at_197) rfl (teq hu).2 kS) ?_
              show own_ComesH Z p e below s _ _ _ (T142.setTop (mkF m 200 #[.val (.int p0), .val (.int p1), .val (.int p2), .val (.int p3), .val (.int (p0 &&& (3 : Int32))), .val (.int z71), .val (.int z73), .val (.int z75), .val (.ref b116), .val (.ref u2), .val .null] []))
              obtain ⟨T143, X143, e143, st143⟩ := getS2 X142 hx hZ75 hown75 (host := "") (Or.inl (hw _ (List.mem_of_getElem? (i := 118) rfl))) Via.refl e142 (St_u2.ext ((c129.keep K130 (allS g_b116 all0)).ext E139).2) (g := (mkF m 200 #[.val (.int p0), .val (.int p1), .val (.int p2), .val (.int p3), .val (.int (p0 &&& (3 : Int32))), .val (.int z71), .val (.int z73), .val (.int z75), .val (.ref b116), .val (.ref u2), .val .null] [])) rfl (hb hby at_200)
              refine own_byH st143 ?_
              show own_ComesH Z p e below s _ _ _ (T143.setTop (mkF m 203 #[.val (.int p0), .val (.int p1), .val (.int p2), .val (.int p3), .val (.int (p0 &&& (3 : Int32))), .val (.int z71), .val (.int z73), .val (.int z75), .val (.ref b116), .val (.ref u2), .val .null] [(.ref u2)]))
              refine own_byH (fun _ kS => XS.astore X143.here hx rfl (hb hby at_203) rfl rfl (l' := #[.val (.int p0), .val (.int p1), .val (.int p2), .val (.int p3), .val (.int (p0 &&& (3 : Int32))), .val (.int z71), .val (.int z73), .val (.int z75), .val (.ref b116), .val (.ref u2), .val (.ref u2)]) rfl kS) ?_
              show own_ComesH Z p e below s _ _ _ (T143.setTop (mkF m 205 #[.val (.int p0), .val (.int p1), .val (.int p2), .val (.int p3), .val (.int (p0 &&& (3 : Int32))), .val (.int z71), .val (.int z73), .val (.int z75), .val (.ref b116), .val (.ref u2), .val (.ref u2)] []))
              refine own_byH (fun _ kS => XS.goto X143.here hx rfl (pc0 := 205) (pc' := 220) rfl (hb hby at_205) (by decide) (by decide) kS) ?_
              show own_ComesH Z p e below s _ _ _ (T143.setTop (mkF m 220 #[.val (.int p0), .val (.int p1), .val (.int p2), .val (.int p3), .val (.int (p0 &&& (3 : Int32))), .val (.int z71), .val (.int z73), .val (.int z75), .val (.ref b116), .val (.ref u2), .val (.ref u2)] []))
              refine own_byH (fun _ kS => XS.aload X143.here hx rfl (hb hby at_220) rfl rfl kS) ?_
              show own_ComesH Z p e below s _ _ _ (T143.setTop (mkF m 222 #[.val (.int p0), .val (.int p1), .val (.int p2), .val (.int p3), .val (.int (p0 &&& (3 : Int32))), .val (.int z71), .val (.int z73), .val (.int z75), .val (.ref b116), .val (.ref u2), .val (.ref u2)] [(.ref u2)]))
              refine own_byH (fun _ kS => XS.aload X143.here hx rfl (hb hby at_222) rfl rfl kS) ?_
              show own_ComesH Z p e below s _ _ _ (T143.setTop (mkF m 224 #[.val (.int p0), .val (.int p1), .val (.int p2), .val (.int p3), .val (.int (p0 &&& (3 : Int32))), .val (.int z71), .val (.int z73), .val (.int z75), .val (.ref b116), .val (.ref u2), .val (.ref u2)] [(.ref u2), (.ref u2)]))
              refine own_byH (fun _ kS => Jvm.RoadKit.acmp (g := (mkF m 224 #[.val (.int p0), .val (.int p1), .val (.int p2), .val (.int p3), .val (.int (p0 &&& (3 : Int32))), .val (.int z71), .val (.int z73), .val (.int z75), .val (.ref b116), .val (.ref u2), .val (.ref u2)] [(.ref u2), (.ref u2)])) X143 hx rfl rfl rfl (pc0 := 224) (pc' := 227) (same := true) rfl (hb hby at_224) rfl (decide_eq_true rfl) (by decide) (by decide) kS) ?_
              show own_ComesH Z p e below s _ _ _ (T143.setTop (mkF m 227 #[.val (.int p0), .val (.int p1), .val (.int p2), .val (.int p3), .val (.int (p0 &&& (3 : Int32))), .val (.int z71), .val (.int z73), .val (.int z75), .val (.ref b116), .val (.ref u2), .val (.ref u2)] []))
              refine own_byH (fun _ kS => XS.iconst X143.here hx rfl (hb hby at_227) kS) ?_
              show own_ComesH Z p e below s _ _ _ (T143.setTop (mkF m 228 #[.val (.int p0), .val (.int p1), .val (.int p2), .val (.int p3), .val (.int (p0 &&& (3 : Int32))), .val (.int z71), .val (.int z73), .val (.int z75), .val (.ref b116), .val (.ref u2), .val (.ref u2)] [(.int (1 : Int32))]))
              refine own_byH (fun _ kS => XS.goto X143.here hx rfl (pc0 := 228) (pc' := 232) rfl (hb hby at_228) (by decide) (by decide) kS) ?_
              show own_ComesH Z p e below s _ _ _ (T143.setTop (mkF m 232 #[.val (.int p0), .val (.int p1), .val (.int p2), .val (.int p3), .val (.int (p0 &&& (3 : Int32))), .val (.int z71), .val (.int z73), .val (.int z75), .val (.ref b116), .val (.ref u2), .val (.ref u2)] [(.int (1 : Int32))]))
              have hkr144 := (Nat.le_trans (Nat.le_trans (Nat.le_trans (Nat.le_trans (Nat.le_trans (Nat.le_trans (Nat.le_refl (Array.size T75.heap)) E116.1) E118.1) (Keep.of_wr W121).1) (Keep.of_wr W124).1) K130.1) E139.1)
              have hcr144 := CH140.trans (CHv.at X143 hZ75 hEL CH140.1)
              refine own_retH X143 hS75 (by rw [e143]; exact hkr144) (by rw [hh]; rw [e143]; exact hcr144) (v := some (.int (1 : Int32))) (fun h => by rw [Bd.returns] at h; cases h) Bd.notSynchronized (by decide) (by decide) ?_ (fun fs hr => retN X143 hx (t := .boolean) Bd.returns (by simp) (hb hby at_232) hr)
              rw [e143]; exact ⟨rfl, N141⟩
            · show own_ComesH Z p e below s _ _ _ (T130.setTop (mkF m 127 #[.val (.int p0), .val (.int p1), .val (.int p2), .val (.int p3), .val (.int (p0 &&& (3 : Int32))), .val (.int z71), .val (.int z73), .val (.int z75), .val (.ref b116), .unset, .unset] []))
              by_cases hn : z71 = (110 : Int32)
              · show own_ComesH Z p e below s _ _ _ (T130.setTop (mkF m 127 #[.val (.int p0), .val (.int p1), .val (.int p2), .val (.int p3), .val (.int (p0 &&& (3 : Int32))), .val (.int z71), .val (.int z73), .val (.int z75), .val (.ref b116), .unset, .unset] []))
                refine own_byH (fun _ kS => XS.aload X130.here hx rfl (hb hby at_127) rfl rfl kS) ?_
                show own_ComesH Z p e below s _ _ _ (T130.setTop (mkF m 129 #[.val (.int p0), .val (.int p1), .val (.int p2), .val (.int p3), .val (.int (p0 &&& (3 : Int32))), .val (.int z71), .val (.int z73), .val (.int z75), .val (.ref b116), .unset, .unset] [(.ref b116)]))
                obtain ⟨vv145, _, ⟨T145, L145, k145, n145⟩, -, X145, ⟨Lc145, hQ145, l145, y145, z145⟩, st145⟩ := Jvm.LawKit.callS X130 hx (y := (⟨"com/example/mixed_margins/mixedmargins/model/TimeUnit", "ofSymbol", "(Ljava/lang/String;)Ljava/util/Optional;"⟩ : MethodName)) hown75 (mvT hZ75 (hw _ (List.mem_of_getElem? (i := 26) rfl))) (mvT hZ75 (hw _ (List.mem_of_getElem? (i := 27) rfl))) (mvT hZ75 (hw _ (List.mem_of_getElem? (i := 28) rfl))) (mvT hZ75 (hw _ (List.mem_of_getElem? (i := 29) rfl))) (by decide) (backOf (W := 0) (rm5 l Z a0 hw [] b116 [z71, z73] va kv u0 u1 u2 u3 y0 y1 y2 y3 em zc T130.heap n0 (Nat.le_trans (Nat.le_trans (Nat.le_trans (Nat.le_trans (Nat.le_trans (Nat.le_trans (Nat.le_trans (Nat.le_trans Z0 E71.1) E73.1) E75.1) E116.1) E118.1) (Keep.of_wr W121).1) (Keep.of_wr W124).1) K130.1) (c129.keep K130 (allS g_b116 all0)) Sv Vv Ev Fs_u0 Ss_u0 Fs_u1 Ss_u1 Fs_u2 Ss_u2 Fs_u3 Ss_u3 Sm Em Fm Sz hzc hY) hZ75 (hw _ (List.mem_of_getElem? (i := 29) rfl)) (hw _ (List.mem_of_getElem? (i := 28) rfl)) (by decide) (by decide)) (g := (mkF m 129 #[.val (.int p0), .val (.int p1), .val (.int p2), .val (.int p3), .val (.int (p0 &&& (3 : Int32))), .val (.int z71), .val (.int z73), .val (.int z75), .val (.ref b116), .unset, .unset] [(.ref b116)])) rfl (by rw [hml]; rfl) (argsL := [(.ref b116)]) (rest := []) (lenOf pd__Ljava_lang_String__Ljava_util_Optional__717 rfl) rfl (by show 2 * 0 + _ ≤ _; exact Nat.le_of_eq rfl) (hb hby at_129) (fun _ _ => ⟨rfl, rfl, (by decide : 9 + 2 ≤ _), (by decide : 68 + 5 ≤ _)⟩)
                dsimp only [Pt.U, Pt.locs, Pt.cells, Pt.slots] at X145 l145 y145 z145 st145 hQ145
                subst l145 y145 z145
                obtain ⟨o145, rfl, N145q, E145, Eo145, Fo145⟩ := hQ145
                have N145 := Fr.app N130 N145q
                refine own_byH st145 ?_
                have CR146 := CHr.ext E145 CH131.1
                have CH146 := CH131.trans CR146
                show own_ComesH Z p e below s _ _ _ (T145.setTop (mkF m 132 #[.val (.int p0), .val (.int p1), .val (.int p2), .val (.int p3), .val (.int (p0 &&& (3 : Int32))), .val (.int z71), .val (.int z73), .val (.int z75), .val (.ref b116), .unset, .unset] [(.ref o145)]))
                rw [own_u23 _ _ _ _ hc1 hn] at Fo145
                refine own_byH (fun _ kS => XS.aconstNull X145.here hx rfl (hb hby at_132) kS) ?_
                show own_ComesH Z p e below s _ _ _ (T145.setTop (mkF m 133 #[.val (.int p0), .val (.int p1), .val (.int p2), .val (.int p3), .val (.int (p0 &&& (3 : Int32))), .val (.int z71), .val (.int z73), .val (.int z75), .val (.ref b116), .unset, .unset] [.null, (.ref o145)]))
                obtain ⟨cq147, kq147, q147a, q147b, q147c⟩ := isOf hZ75 rfl Eo145
                obtain ⟨vv147, _, ⟨T147, L147, k147, n147⟩, -, X147, ⟨Lc147, hQ147, l147, y147, z147⟩, st147⟩ := X145.virtualBack hx (y := (⟨"java/util/Optional", "orElse", "(Ljava/lang/Object;)Ljava/lang/Object;"⟩ : MethodName)) (z := (⟨"java/util/Optional", "orElse", "(Ljava/lang/Object;)Ljava/lang/Object;"⟩ : MethodName)) hown75 (mvT hZ75 (hw _ (List.mem_of_getElem? (i := 67) rfl))) (mvT hZ75 (hw _ (List.mem_of_getElem? (i := 68) rfl))) (notFace_of_selects (args := #[]) (mvT hZ75 (hw _ (List.mem_of_getElem? (i := 70) rfl)))) (mvT hZ75 (hw _ (List.mem_of_getElem? (i := 70) rfl))) (mvT hZ75 (hw _ (List.mem_of_getElem? (i := 69) rfl))) (by decide) (backOf (W := 0) (rm10r l Z a0 hw [] o145 u3 T145.heap n0 (Nat.le_trans (Nat.le_trans (Nat.le_trans (Nat.le_trans (Nat.le_trans (Nat.le_trans (Nat.le_trans (Nat.le_trans (Nat.le_trans Z0 E71.1) E73.1) E75.1) E116.1) E118.1) (Keep.of_wr W121).1) (Keep.of_wr W124).1) K130.1) E145.1) Fo145) hZ75 (hw _ (List.mem_of_getElem? (i := 71) rfl)) (hw _ (List.mem_of_getElem? (i := 64) rfl)) (by decide) (by decide)) q147a q147c (g := (mkF m 133 #[.val (.int p0), .val (.int p1), .val (.int p2), .val (.int p3), .val (.int (p0 &&& (3 : Int32))), .val (.int z71), .val (.int z73), .val (.int z75), .val (.ref b116), .unset, .unset] [.null, (.ref o145)])) rfl (by rw [hml]; rfl) (Steps.refl _) (argsL := [.null]) (rest := []) (lenOf pd__Ljava_lang_Object__Ljava_lang_Object__418 rfl) rfl (by show 2 * 0 + _ ≤ _; exact Nat.le_of_eq rfl) (hb hby at_133) (fun _ _ => ⟨rfl, rfl, (by decide : 11 + 0 ≤ _), (by decide : 73 + 0 ≤ _)⟩)
                dsimp only [Pt.U, Pt.locs, Pt.cells, Pt.slots] at X147 l147 y147 z147 st147 hQ147
                subst l147 y147 z147
                obtain ⟨rfl, N147q, e147q⟩ := hQ147
                have N147 := Fr.app N145 N147q
                refine own_trH st147 ?_
                have e147 : T147.heap = T145.heap := e147q
                show own_ComesH Z p e below s _ _ _ (T147.setTop (mkF m 136 #[.val (.int p0), .val (.int p1), .val (.int p2), .val (.int p3), .val (.int (p0 &&& (3 : Int32))), .val (.int z71), .val (.int z73), .val (.int z75), .val (.ref b116), .unset, .unset] [(.ref u3)]))
                obtain ⟨T148, X148, e148, st148⟩ := castY X147 hx hZ75 hown75 (hw _ (List.mem_of_getElem? (i := 113) rfl)) e147 (Ins.self (Eu_u3.ext ((c129.keep K130 (allS g_b116 all0)).ext E145).2)) (g := (mkF m 136 #[.val (.int p0), .val (.int p1), .val (.int p2), .val (.int p3), .val (.int (p0 &&& (3 : Int32))), .val (.int z71), .val (.int z73), .val (.int z75), .val (.ref b116), .unset, .unset] [(.ref u3)])) rfl rfl (hb hby at_136)
                refine own_byH st148 ?_
                show own_ComesH Z p e below s _ _ _ (T148.setTop (mkF m 139 #[.val (.int p0), .val (.int p1), .val (.int p2), .val (.int p3), .val (.int (p0 &&& (3 : Int32))), .val (.int z71), .val (.int z73), .val (.int z75), .val (.ref b116), .unset, .unset] [(.ref u3)]))
                refine own_byH (fun _ kS => XS.astore X148.here hx rfl (hb hby at_139) rfl rfl (l' := #[.val (.int p0), .val (.int p1), .val (.int p2), .val (.int p3), .val (.int (p0 &&& (3 : Int32))), .val (.int z71), .val (.int z73), .val (.int z75), .val (.ref b116), .val (.ref u3), .unset]) rfl kS) ?_
                show own_ComesH Z p e below s _ _ _ (T148.setTop (mkF m 141 #[.val (.int p0), .val (.int p1), .val (.int p2), .val (.int p3), .val (.int (p0 &&& (3 : Int32))), .val (.int z71), .val (.int z73), .val (.int z75), .val (.ref b116), .val (.ref u3), .unset] []))
                refine own_byH (fun _ kS => XS.aconstNull X148.here hx rfl (hb hby at_141) kS) ?_
                show own_ComesH Z p e below s _ _ _ (T148.setTop (mkF m 142 #[.val (.int p0), .val (.int p1), .val (.int p2), .val (.int p3), .val (.int (p0 &&& (3 : Int32))), .val (.int z71), .val (.int z73), .val (.int z75), .val (.ref b116), .val (.ref u3), .unset] [.null]))
                refine own_byH (fun _ kS => XS.astore X148.here hx rfl (hb hby at_142) rfl rfl (l' := #[.val (.int p0), .val (.int p1), .val (.int p2), .val (.int p3), .val (.int (p0 &&& (3 : Int32))), .val (.int z71), .val (.int z73), .val (.int z75), .val (.ref b116), .val (.ref u3), .val .null]) rfl kS) ?_
                show own_ComesH Z p e below s _ _ _ (T148.setTop (mkF m 144 #[.val (.int p0), .val (.int p1), .val (.int p2), .val (.int p3), .val (.int (p0 &&& (3 : Int32))), .val (.int z71), .val (.int z73), .val (.int z75), .val (.ref b116), .val (.ref u3), .val .null] []))
                refine own_byH (fun _ kS => XS.iload X148.here hx rfl (hb hby at_144) rfl kS) ?_
                show own_ComesH Z p e below s _ _ _ (T148.setTop (mkF m 146 #[.val (.int p0), .val (.int p1), .val (.int p2), .val (.int p3), .val (.int (p0 &&& (3 : Int32))), .val (.int z71), .val (.int z73), .val (.int z75), .val (.ref b116), .val (.ref u3), .val .null] [(.int (p0 &&& (3 : Int32)))]))
                refine own_byH (fun _ kS => XS.iconst X148.here hx rfl (hb hby at_146) kS) ?_
                show own_ComesH Z p e below s _ _ _ (T148.setTop (mkF m 147 #[.val (.int p0), .val (.int p1), .val (.int p2), .val (.int p3), .val (.int (p0 &&& (3 : Int32))), .val (.int z71), .val (.int z73), .val (.int z75), .val (.ref b116), .val (.ref u3), .val .null] [(.int (1 : Int32)), (.int (p0 &&& (3 : Int32)))]))
                refine own_byH (fun _ kS => XS.icmpYes X148.here hx rfl (pc0 := 147) (pc' := 165) rfl (hb hby at_147) rfl (feq hl1).2 (by decide) (by decide) kS) ?_
                show own_ComesH Z p e below s _ _ _ (T148.setTop (mkF m 165 #[.val (.int p0), .val (.int p1), .val (.int p2), .val (.int p3), .val (.int (p0 &&& (3 : Int32))), .val (.int z71), .val (.int z73), .val (.int z75), .val (.ref b116), .val (.ref u3), .val .null] []))
                refine own_byH (fun _ kS => XS.iload X148.here hx rfl (hb hby at_165) rfl kS) ?_
                show own_ComesH Z p e below s _ _ _ (T148.setTop (mkF m 167 #[.val (.int p0), .val (.int p1), .val (.int p2), .val (.int p3), .val (.int (p0 &&& (3 : Int32))), .val (.int z71), .val (.int z73), .val (.int z75), .val (.ref b116), .val (.ref u3), .val .null] [(.int (p0 &&& (3 : Int32)))]))
                refine own_byH (fun _ kS => XS.iconst X148.here hx rfl (hb hby at_167) kS) ?_
                show own_ComesH Z p e below s _ _ _ (T148.setTop (mkF m 168 #[.val (.int p0), .val (.int p1), .val (.int p2), .val (.int p3), .val (.int (p0 &&& (3 : Int32))), .val (.int z71), .val (.int z73), .val (.int z75), .val (.ref b116), .val (.ref u3), .val .null] [(.int (2 : Int32)), (.int (p0 &&& (3 : Int32)))]))
                refine own_byH (fun _ kS => XS.icmpNo X148.here hx rfl (hb hby at_168) rfl (teq hl2).2 kS) ?_
                show own_ComesH Z p e below s _ _ _ (T148.setTop (mkF m 171 #[.val (.int p0), .val (.int p1), .val (.int p2), .val (.int p3), .val (.int (p0 &&& (3 : Int32))), .val (.int z71), .val (.int z73), .val (.int z75), .val (.ref b116), .val (.ref u3), .val .null] []))
                refine own_byH (fun _ kS => XS.iload X148.here hx rfl (hb hby at_171) rfl kS) ?_
                show own_ComesH Z p e below s _ _ _ (T148.setTop (mkF m 173 #[.val (.int p0), .val (.int p1), .val (.int p2), .val (.int p3), .val (.int (p0 &&& (3 : Int32))), .val (.int z71), .val (.int z73), .val (.int z75), .val (.ref b116), .val (.ref u3), .val .null] [(.int z73)]))
                refine own_byH (fun _ kS => XS.bipush X148.here hx rfl (hb hby at_173) kS) ?_
                show own_ComesH Z p e below s _ _ _ (T148.setTop (mkF m 175 #[.val (.int p0), .val (.int p1), .val (.int p2), .val (.int p3), .val (.int (p0 &&& (3 : Int32))), .val (.int z71), .val (.int z73), .val (.int z75), .val (.ref b116), .val (.ref u3), .val .null] [(.int (115 : Int32)), (.int z73)]))
                refine own_byH (fun _ kS => XS.icmpNo X148.here hx rfl (hb hby at_175) rfl (teq hc1).2 kS) ?_
                show own_ComesH Z p e below s _ _ _ (T148.setTop (mkF m 178 #[.val (.int p0), .val (.int p1), .val (.int p2), .val (.int p3), .val (.int (p0 &&& (3 : Int32))), .val (.int z71), .val (.int z73), .val (.int z75), .val (.ref b116), .val (.ref u3), .val .null] []))
                refine own_byH (fun _ kS => XS.iload X148.here hx rfl (hb hby at_178) rfl kS) ?_
                show own_ComesH Z p e below s _ _ _ (T148.setTop (mkF m 180 #[.val (.int p0), .val (.int p1), .val (.int p2), .val (.int p3), .val (.int (p0 &&& (3 : Int32))), .val (.int z71), .val (.int z73), .val (.int z75), .val (.ref b116), .val (.ref u3), .val .null] [(.int z71)]))
                refine own_byH (fun _ kS => XS.bipush X148.here hx rfl (hb hby at_180) kS) ?_
                show own_ComesH Z p e below s _ _ _ (T148.setTop (mkF m 182 #[.val (.int p0), .val (.int p1), .val (.int p2), .val (.int p3), .val (.int (p0 &&& (3 : Int32))), .val (.int z71), .val (.int z73), .val (.int z75), .val (.ref b116), .val (.ref u3), .val .null] [(.int (109 : Int32)), (.int z71)]))
                refine own_byH (fun _ kS => XS.icmpYes X148.here hx rfl (pc0 := 182) (pc' := 193) rfl (hb hby at_182) rfl (feq hm).2 (by decide) (by decide) kS) ?_
                show own_ComesH Z p e below s _ _ _ (T148.setTop (mkF m 193 #[.val (.int p0), .val (.int p1), .val (.int p2), .val (.int p3), .val (.int (p0 &&& (3 : Int32))), .val (.int z71), .val (.int z73), .val (.int z75), .val (.ref b116), .val (.ref u3), .val .null] []))
                refine own_byH (fun _ kS => XS.iload X148.here hx rfl (hb hby at_193) rfl kS) ?_
                show own_ComesH Z p e below s _ _ _ (T148.setTop (mkF m 195 #[.val (.int p0), .val (.int p1), .val (.int p2), .val (.int p3), .val (.int (p0 &&& (3 : Int32))), .val (.int z71), .val (.int z73), .val (.int z75), .val (.ref b116), .val (.ref u3), .val .null] [(.int z71)]))
                refine own_byH (fun _ kS => XS.bipush X148.here hx rfl (hb hby at_195) kS) ?_
                show own_ComesH Z p e below s _ _ _ (T148.setTop (mkF m 197 #[.val (.int p0), .val (.int p1), .val (.int p2), .val (.int p3), .val (.int (p0 &&& (3 : Int32))), .val (.int z71), .val (.int z73), .val (.int z75), .val (.ref b116), .val (.ref u3), .val .null] [(.int (117 : Int32)), (.int z71)]))
                refine own_byH (fun _ kS => XS.icmpYes X148.here hx rfl (pc0 := 197) (pc' := 208) rfl (hb hby at_197) rfl (feq hu).2 (by decide) (by decide) kS) ?_
                show own_ComesH Z p e below s _ _ _ (T148.setTop (mkF m 208 #[.val (.int p0), .val (.int p1), .val (.int p2), .val (.int p3), .val (.int (p0 &&& (3 : Int32))), .val (.int z71), .val (.int z73), .val (.int z75), .val (.ref b116), .val (.ref u3), .val .null] []))
                refine own_byH (fun _ kS => XS.iload X148.here hx rfl (hb hby at_208) rfl kS) ?_
                show own_ComesH Z p e below s _ _ _ (T148.setTop (mkF m 210 #[.val (.int p0), .val (.int p1), .val (.int p2), .val (.int p3), .val (.int (p0 &&& (3 : Int32))), .val (.int z71), .val (.int z73), .val (.int z75), .val (.ref b116), .val (.ref u3), .val .null] [(.int z71)]))
                refine own_byH (fun _ kS => XS.bipush X148.here hx rfl (hb hby at_210) kS) ?_
                show own_ComesH Z p e below s _ _ _ (T148.setTop (mkF m 212 #[.val (.int p0), .val (.int p1), .val (.int p2), .val (.int p3), .val (.int (p0 &&& (3 : Int32))), .val (.int z71), .val (.int z73), .val (.int z75), .val (.ref b116), .val (.ref u3), .val .null] [(.int (110 : Int32)), (.int z71)]))
                refine own_byH (fun _ kS => XS.icmpNo X148.here hx rfl (hb hby at_212) rfl (teq hn).2 kS) ?_
                show own_ComesH Z p e below s _ _ _ (T148.setTop (mkF m 215 #[.val (.int p0), .val (.int p1), .val (.int p2), .val (.int p3), .val (.int (p0 &&& (3 : Int32))), .val (.int z71), .val (.int z73), .val (.int z75), .val (.ref b116), .val (.ref u3), .val .null] []))
                obtain ⟨T149, X149, e149, st149⟩ := getS2 X148 hx hZ75 hown75 (host := "") (Or.inl (hw _ (List.mem_of_getElem? (i := 115) rfl))) Via.refl e148 (St_u3.ext ((c129.keep K130 (allS g_b116 all0)).ext E145).2) (g := (mkF m 215 #[.val (.int p0), .val (.int p1), .val (.int p2), .val (.int p3), .val (.int (p0 &&& (3 : Int32))), .val (.int z71), .val (.int z73), .val (.int z75), .val (.ref b116), .val (.ref u3), .val .null] [])) rfl (hb hby at_215)
                refine own_byH st149 ?_
                show own_ComesH Z p e below s _ _ _ (T149.setTop (mkF m 218 #[.val (.int p0), .val (.int p1), .val (.int p2), .val (.int p3), .val (.int (p0 &&& (3 : Int32))), .val (.int z71), .val (.int z73), .val (.int z75), .val (.ref b116), .val (.ref u3), .val .null] [(.ref u3)]))
                refine own_byH (fun _ kS => XS.astore X149.here hx rfl (hb hby at_218) rfl rfl (l' := #[.val (.int p0), .val (.int p1), .val (.int p2), .val (.int p3), .val (.int (p0 &&& (3 : Int32))), .val (.int z71), .val (.int z73), .val (.int z75), .val (.ref b116), .val (.ref u3), .val (.ref u3)]) rfl kS) ?_
                show own_ComesH Z p e below s _ _ _ (T149.setTop (mkF m 220 #[.val (.int p0), .val (.int p1), .val (.int p2), .val (.int p3), .val (.int (p0 &&& (3 : Int32))), .val (.int z71), .val (.int z73), .val (.int z75), .val (.ref b116), .val (.ref u3), .val (.ref u3)] []))
                refine own_byH (fun _ kS => XS.aload X149.here hx rfl (hb hby at_220) rfl rfl kS) ?_
                show own_ComesH Z p e below s _ _ _ (T149.setTop (mkF m 222 #[.val (.int p0), .val (.int p1), .val (.int p2), .val (.int p3), .val (.int (p0 &&& (3 : Int32))), .val (.int z71), .val (.int z73), .val (.int z75), .val (.ref b116), .val (.ref u3), .val (.ref u3)] [(.ref u3)]))
                refine own_byH (fun _ kS => XS.aload X149.here hx rfl (hb hby at_222) rfl rfl kS) ?_
                show own_ComesH Z p e below s _ _ _ (T149.setTop (mkF m 224 #[.val (.int p0), .val (.int p1), .val (.int p2), .val (.int p3), .val (.int (p0 &&& (3 : Int32))), .val (.int z71), .val (.int z73), .val (.int z75), .val (.ref b116), .val (.ref u3), .val (.ref u3)] [(.ref u3), (.ref u3)]))
                refine own_byH (fun _ kS => Jvm.RoadKit.acmp (g := (mkF m 224 #[.val (.int p0), .val (.int p1), .val (.int p2), .val (.int p3), .val (.int (p0 &&& (3 : Int32))), .val (.int z71), .val (.int z73), .val (.int z75), .val (.ref b116), .val (.ref u3), .val (.ref u3)] [(.ref u3), (.ref u3)])) X149 hx rfl rfl rfl (pc0 := 224) (pc' := 227) (same := true) rfl (hb hby at_224) rfl (decide_eq_true rfl) (by decide) (by decide) kS) ?_
                show own_ComesH Z p e below s _ _ _ (T149.setTop (mkF m 227 #[.val (.int p0), .val (.int p1), .val (.int p2), .val (.int p3), .val (.int (p0 &&& (3 : Int32))), .val (.int z71), .val (.int z73), .val (.int z75), .val (.ref b116), .val (.ref u3), .val (.ref u3)] []))
                refine own_byH (fun _ kS => XS.iconst X149.here hx rfl (hb hby at_227) kS) ?_
                show own_ComesH Z p e below s _ _ _ (T149.setTop (mkF m 228 #[.val (.int p0), .val (.int p1), .val (.int p2), .val (.int p3), .val (.int (p0 &&& (3 : Int32))), .val (.int z71), .val (.int z73), .val (.int z75), .val (.ref b116), .val (.ref u3), .val (.ref u3)] [(.int (1 : Int32))]))
                refine own_byH (fun _ kS => XS.goto X149.here hx rfl (pc0 := 228) (pc' := 232) rfl (hb hby at_228) (by decide) (by decide) kS) ?_
                show own_ComesH Z p e below s _ _ _ (T149.setTop (mkF m 232 #[.val (.int p0), .val (.int p1), .val (.int p2), .val (.int p3), .val (.int (p0 &&& (3 : Int32))), .val (.int z71), .val (.int z73), .val (.int z75), .val (.ref b116), .val (.ref u3), .val (.ref u3)] [(.int (1 : Int32))]))
                have hkr150 := (Nat.le_trans (Nat.le_trans (Nat.le_trans (Nat.le_trans (Nat.le_trans (Nat.le_trans (Nat.le_refl (Array.size T75.heap)) E116.1) E118.1) (Keep.of_wr W121).1) (Keep.of_wr W124).1) K130.1) E145.1)
                have hcr150 := CH146.trans (CHv.at X149 hZ75 hEL CH146.1)
                refine own_retH X149 hS75 (by rw [e149]; exact hkr150) (by rw [hh]; rw [e149]; exact hcr150) (v := some (.int (1 : Int32))) (fun h => by rw [Bd.returns] at h; cases h) Bd.notSynchronized (by decide) (by decide) ?_ (fun fs hr => retN X149 hx (t := .boolean) Bd.returns (by simp) (hb hby at_232) hr)
                rw [e149]; exact ⟨rfl, N147⟩
              · show own_ComesH Z p e below s _ _ _ (T130.setTop (mkF m 127 #[.val (.int p0), .val (.int p1), .val (.int p2), .val (.int p3), .val (.int (p0 &&& (3 : Int32))), .val (.int z71), .val (.int z73), .val (.int z75), .val (.ref b116), .unset, .unset] []))
                refine own_byH (fun _ kS => XS.aload X130.here hx rfl (hb hby at_127) rfl rfl kS) ?_
                show own_ComesH Z p e below s _ _ _ (T130.setTop (mkF m 129 #[.val (.int p0), .val (.int p1), .val (.int p2), .val (.int p3), .val (.int (p0 &&& (3 : Int32))), .val (.int z71), .val (.int z73), .val (.int z75), .val (.ref b116), .unset, .unset] [(.ref b116)]))
                obtain ⟨vv151, _, ⟨T151, L151, k151, n151⟩, -, X151, ⟨Lc151, hQ151, l151, y151, z151⟩, st151⟩ := Jvm.LawKit.callS X130 hx (y := (⟨"com/example/mixed_margins/mixedmargins/model/TimeUnit", "ofSymbol", "(Ljava/lang/String;)Ljava/util/Optional;"⟩ : MethodName)) hown75 (mvT hZ75 (hw _ (List.mem_of_getElem? (i := 26) rfl))) (mvT hZ75 (hw _ (List.mem_of_getElem? (i := 27) rfl))) (mvT hZ75 (hw _ (List.mem_of_getElem? (i := 28) rfl))) (mvT hZ75 (hw _ (List.mem_of_getElem? (i := 29) rfl))) (by decide) (backOf (W := 0) (rm5 l Z a0 hw [] b116 [z71, z73] va kv u0 u1 u2 u3 y0 y1 y2 y3 em zc T130.heap n0 (Nat.le_trans (Nat.le_trans (Nat.le_trans (Nat.le_trans (Nat.le_trans (Nat.le_trans (Nat.le_trans (Nat.le_trans Z0 E71.1) E73.1) E75.1) E116.1) E118.1) (Keep.of_wr W121).1) (Keep.of_wr W124).1) K130.1) (c129.keep K130 (allS g_b116 all0)) Sv Vv Ev Fs_u0 Ss_u0 Fs_u1 Ss_u1 Fs_u2 Ss_u2 Fs_u3 Ss_u3 Sm Em Fm Sz hzc hY) hZ75 (hw _ (List.mem_of_getElem? (i := 29) rfl)) (hw _ (List.mem_of_getElem? (i := 28) rfl)) (by decide) (by decide)) (g := (mkF m 129 #[.val (.int p0), .val (.int p1), .val (.int p2), .val (.int p3), .val (.int (p0 &&& (3 : Int32))), .val (.int z71), .val (.int z73), .val (.int z75), .val (.ref b116), .unset, .unset] [(.ref b116)])) rfl (by rw [hml]; rfl) (argsL := [(.ref b116)]) (rest := []) (lenOf pd__Ljava_lang_String__Ljava_util_Optional__717 rfl) rfl (by show 2 * 0 + _ ≤ _; exact Nat.le_of_eq rfl) (hb hby at_129) (fun _ _ => ⟨rfl, rfl, (by decide : 9 + 2 ≤ _), (by decide : 68 + 5 ≤ _)⟩)
                dsimp only [Pt.U, Pt.locs, Pt.cells, Pt.slots] at X151 l151 y151 z151 st151 hQ151
                subst l151 y151 z151
                obtain ⟨o151, rfl, N151q, E151, Eo151, Fo151⟩ := hQ151
                have N151 := Fr.app N130 N151q
                refine own_byH st151 ?_
                have CR152 := CHr.ext E151 CH131.1
                have CH152 := CH131.trans CR152
                show own_ComesH Z p e below s _ _ _ (T151.setTop (mkF m 132 #[.val (.int p0), .val (.int p1), .val (.int p2), .val (.int p3), .val (.int (p0 &&& (3 : Int32))), .val (.int z71), .val (.int z73), .val (.int z75), .val (.ref b116), .unset, .unset] [(.ref o151)]))
                rw [own_u24 _ _ _ _ hm hu hn] at Fo151
                refine own_byH (fun _ kS => XS.aconstNull X151.here hx rfl (hb hby at_132) kS) ?_
                show own_ComesH Z p e below s _ _ _ (T151.setTop (mkF m 133 #[.val (.int p0), .val (.int p1), .val (.int p2), .val (.int p3), .val (.int (p0 &&& (3 : Int32))), .val (.int z71), .val (.int z73), .val (.int z75), .val (.ref b116), .unset, .unset] [.null, (.ref o151)]))
                obtain ⟨cq153, kq153, q153a, q153b, q153c⟩ := isOf hZ75 rfl Eo151
                obtain ⟨vv153, _, ⟨T153, L153, k153, n153⟩, -, X153, ⟨Lc153, hQ153, l153, y153, z153⟩, st153⟩ := X151.virtualBack hx (y := (⟨"java/util/Optional", "orElse", "(Ljava/lang/Object;)Ljava/lang/Object;"⟩ : MethodName)) (z := (⟨"java/util/Optional", "orElse", "(Ljava/lang/Object;)Ljava/lang/Object;"⟩ : MethodName)) hown75 (mvT hZ75 (hw _ (List.mem_of_getElem? (i := 67) rfl))) (mvT hZ75 (hw _ (List.mem_of_getElem? (i := 68) rfl))) (notFace_of_selects (args := #[]) (mvT hZ75 (hw _ (List.mem_of_getElem? (i := 70) rfl)))) (mvT hZ75 (hw _ (List.mem_of_getElem? (i := 70) rfl))) (mvT hZ75 (hw _ (List.mem_of_getElem? (i := 69) rfl))) (by decide) (backOf (W := 0) (rm10n l Z a0 hw [] o151 T151.heap n0 (Nat.le_trans (Nat.le_trans (Nat.le_trans (Nat.le_trans (Nat.le_trans (Nat.le_trans (Nat.le_trans (Nat.le_trans (Nat.le_trans Z0 E71.1) E73.1) E75.1) E116.1) E118.1) (Keep.of_wr W121).1) (Keep.of_wr W124).1) K130.1) E151.1) Fo151) hZ75 (hw _ (List.mem_of_getElem? (i := 71) rfl)) (hw _ (List.mem_of_getElem? (i := 64) rfl)) (by decide) (by decide)) q153a q153c (g := (mkF m 133 #[.val (.int p0), .val (.int p1), .val (.int p2), .val (.int p3), .val (.int (p0 &&& (3 : Int32))), .val (.int z71), .val (.int z73), .val (.int z75), .val (.ref b116), .unset, .unset] [.null, (.ref o151)])) rfl (by rw [hml]; rfl) (Steps.refl _) (argsL := [.null]) (rest := []) (lenOf pd__Ljava_lang_Object__Ljava_lang_Object__418 rfl) rfl (by show 2 * 0 + _ ≤ _; exact Nat.le_of_eq rfl) (hb hby at_133) (fun _ _ => ⟨rfl, rfl, (by decide : 11 + 0 ≤ _), (by decide : 73 + 0 ≤ _)⟩)
                dsimp only [Pt.U, Pt.locs, Pt.cells, Pt.slots] at X153 l153 y153 z153 st153 hQ153
                subst l153 y153 z153
                obtain ⟨rfl, N153q, e153q⟩ := hQ153
                have N153 := Fr.app N151 N153q
                refine own_trH st153 ?_
                have e153 : T153.heap = T151.heap := e153q
                show own_ComesH Z p e below s _ _ _ (T153.setTop (mkF m 136 #[.val (.int p0), .val (.int p1), .val (.int p2), .val (.int p3), .val (.int (p0 &&& (3 : Int32))), .val (.int z71), .val (.int z73), .val (.int z75), .val (.ref b116), .unset, .unset] [.null]))
                refine own_byH (fun _ kS => X153.checkcastNull hx (g := (mkF m 136 #[.val (.int p0), .val (.int p1), .val (.int p2), .val (.int p3), .val (.int (p0 &&& (3 : Int32))), .val (.int z71), .val (.int z73), .val (.int z75), .val (.ref b116), .unset, .unset] [.null])) rfl rfl (hb hby at_136) _ kS) ?_
                show own_ComesH Z p e below s _ _ _ (T153.setTop (mkF m 139 #[.val (.int p0), .val (.int p1), .val (.int p2), .val (.int p3), .val (.int (p0 &&& (3 : Int32))), .val (.int z71), .val (.int z73), .val (.int z75), .val (.ref b116), .unset, .unset] [.null]))
                refine own_byH (fun _ kS => XS.astore X153.here hx rfl (hb hby at_139) rfl rfl (l' := #[.val (.int p0), .val (.int p1), .val (.int p2), .val (.int p3), .val (.int (p0 &&& (3 : Int32))), .val (.int z71), .val (.int z73), .val (.int z75), .val (.ref b116), .val .null, .unset]) rfl kS) ?_
                show own_ComesH Z p e below s _ _ _ (T153.setTop (mkF m 141 #[.val (.int p0), .val (.int p1), .val (.int p2), .val (.int p3), .val (.int (p0 &&& (3 : Int32))), .val (.int z71), .val (.int z73), .val (.int z75), .val (.ref b116), .val .null, .unset] []))
                refine own_byH (fun _ kS => XS.aconstNull X153.here hx rfl (hb hby at_141) kS) ?_
                show own_ComesH Z p e below s _ _ _ (T153.setTop (mkF m 142 #[.val (.int p0), .val (.int p1), .val (.int p2), .val (.int p3), .val (.int (p0 &&& (3 : Int32))), .val (.int z71), .val (.int z73), .val (.int z75), .val (.ref b116), .val .null, .unset] [.null]))
                refine own_byH (fun _ kS => XS.astore X153.here hx rfl (hb hby at_142) rfl rfl (l' := #[.val (.int p0), .val (.int p1), .val (.int p2), .val (.int p3), .val (.int (p0 &&& (3 : Int32))), .val (.int z71), .val (.int z73), .val (.int z75), .val (.ref b116), .val .null, .val .null]) rfl kS) ?_
                show own_ComesH Z p e below s _ _ _ (T153.setTop (mkF m 144 #[.val (.int p0), .val (.int p1), .val (.int p2), .val (.int p3), .val (.int (p0 &&& (3 : Int32))), .val (.int z71), .val (.int z73), .val (.int z75), .val (.ref b116), .val .null, .val .null] []))
                refine own_byH (fun _ kS => XS.iload X153.here hx rfl (hb hby at_144) rfl kS) ?_
                show own_ComesH Z p e below s _ _ _ (T153.setTop (mkF m 146 #[.val (.int p0), .val (.int p1), .val (.int p2), .val (.int p3), .val (.int (p0 &&& (3 : Int32))), .val (.int z71), .val (.int z73), .val (.int z75), .val (.ref b116), .val .null, .val .null] [(.int (p0 &&& (3 : Int32)))]))
                refine own_byH (fun _ kS => XS.iconst X153.here hx rfl (hb hby at_146) kS) ?_
                show own_ComesH Z p e below s _ _ _ (T153.setTop (mkF m 147 #[.val (.int p0), .val (.int p1), .val (.int p2), .val (.int p3), .val (.int (p0 &&& (3 : Int32))), .val (.int z71), .val (.int z73), .val (.int z75), .val (.ref b116), .val .null, .val .null] [(.int (1 : Int32)), (.int (p0 &&& (3 : Int32)))]))
                refine own_byH (fun _ kS => XS.icmpYes X153.here hx rfl (pc0 := 147) (pc' := 165) rfl (hb hby at_147) rfl (feq hl1).2 (by decide) (by decide) kS) ?_
                show own_ComesH Z p e below s _ _ _ (T153.setTop (mkF m 165 #[.val (.int p0), .val (.int p1), .val (.int p2), .val (.int p3), .val (.int (p0 &&& (3 : Int32))), .val (.int z71), .val (.int z73), .val (.int z75), .val (.ref b116), .val .null, .val .null] []))
                refine own_byH (fun _ kS => XS.iload X153.here hx rfl (hb hby at_165) rfl kS) ?_
                show own_ComesH Z p e below s _ _ _ (T153.setTop (mkF m 167 #[.val (.int p0), .val (.int p1), .val (.int p2), .val (.int p3), .val (.int (p0 &&& (3 : Int32))), .val (.int z71), .val (.int z73), .val (.int z75), .val (.ref b116), .val .null, .val .null] [(.int (p0 &&& (3 : Int32)))]))
                refine own_byH (fun _ kS => XS.iconst X153.here hx rfl (hb hby at_167) kS) ?_
                show own_ComesH Z p e below s _ _ _ (T153.setTop (mkF m 168 #[.val (.int p0), .val (.int p1), .val (.int p2), .val (.int p3), .val (.int (p0 &&& (3 : Int32))), .val (.int z71), .val (.int z73), .val (.int z75), .val (.ref b116), .val .null, .val .null] [(.int (2 : Int32)), (.int (p0 &&& (3 : Int32)))]))
                refine own_byH (fun _ kS => XS.icmpNo X153.here hx rfl (hb hby at_168) rfl (teq hl2).2 kS) ?_
                show own_ComesH Z p e below s _ _ _ (T153.setTop (mkF m 171 #[.val (.int p0), .val (.int p1), .val (.int p2), .val (.int p3), .val (.int (p0 &&& (3 : Int32))), .val (.int z71), .val (.int z73), .val (.int z75), .val (.ref b116), .val .null, .val .null] []))
                refine own_byH (fun _ kS => XS.iload X153.here hx rfl (hb hby at_171) rfl kS) ?_
                show own_ComesH Z p e below s _ _ _ (T153.setTop (mkF m 173 #[.val (.int p0), .val (.int p1), .val (.int p2), .val (.int p3), .val (.int (p0 &&& (3 : Int32))), .val (.int z71), .val (.int z73), .val (.int z75), .val (.ref b116), .val .null, .val .null] [(.int z73)]))
                refine own_byH (fun _ kS => XS.bipush X153.here hx rfl (hb hby at_173) kS) ?_
                show own_ComesH Z p e below s _ _ _ (T153.setTop (mkF m 175 #[.val (.int p0), .val (.int p1), .val (.int p2), .val (.int p3), .val (.int (p0 &&& (3 : Int32))), .val (.int z71), .val (.int z73), .val (.int z75), .val (.ref b116), .val .null, .val .null] [(.int (115 : Int32)), (.int z73)]))
                refine own_byH (fun _ kS => XS.icmpNo X153.here hx rfl (hb hby at_175) rfl (teq hc1).2 kS) ?_
                show own_ComesH Z p e below s _ _ _ (T153.setTop (mkF m 178 #[.val (.int p0), .val (.int p1), .val (.int p2), .val (.int p3), .val (.int (p0 &&& (3 : Int32))), .val (.int z71), .val (.int z73), .val (.int z75), .val (.ref b116), .val .null, .val .null] []))
                refine own_byH (fun _ kS => XS.iload X153.here hx rfl (hb hby at_178) rfl kS) ?_
                show own_ComesH Z p e below s _ _ _ (T153.setTop (mkF m 180 #[.val (.int p0), .val (.int p1), .val (.int p2), .val (.int p3), .val (.int (p0 &&& (3 : Int32))), .val (.int z71), .val (.int z73), .val (.int z75), .val (.ref b116), .val .null, .val .null] [(.int z71)]))
                refine own_byH (fun _ kS => XS.bipush X153.here hx rfl (hb hby at_180) kS) ?_
                show own_ComesH Z p e below s _ _ _ (T153.setTop (mkF m 182 #[.val (.int p0), .val (.int p1), .val (.int p2), .val (.int p3), .val (.int (p0 &&& (3 : Int32))), .val (.int z71), .val (.int z73), .val (.int z75), .val (.ref b116), .val .null, .val .null] [(.int (109 : Int32)), (.int z71)]))
                refine own_byH (fun _ kS => XS.icmpYes X153.here hx rfl (pc0 := 182) (pc' := 193) rfl (hb hby at_182) rfl (feq hm).2 (by decide) (by decide) kS) ?_
                show own_ComesH Z p e below s _ _ _ (T153.setTop (mkF m 193 #[.val (.int p0), .val (.int p1), .val (.int p2), .val (.int p3), .val (.int (p0 &&& (3 : Int32))), .val (.int z71), .val (.int z73), .val (.int z75), .val (.ref b116), .val .null, .val .null] []))
                refine own_byH (fun _ kS => XS.iload X153.here hx rfl (hb hby at_193) rfl kS) ?_
                show own_ComesH Z p e below s _ _ _ (T153.setTop (mkF m 195 #[.val (.int p0), .val (.int p1), .val (.int p2), .val (.int p3), .val (.int (p0 &&& (3 : Int32))), .val (.int z71), .val (.int z73), .val (.int z75), .val (.ref b116), .val .null, .val .null] [(.int z71)]))
                refine own_byH (fun _ kS => XS.bipush X153.here hx rfl (hb hby at_195) kS) ?_
                show own_ComesH Z p e below s _ _ _ (T153.setTop (mkF m 197 #[.val (.int p0), .val (.int p1), .val (.int p2), .val (.int p3), .val (.int (p0 &&& (3 : Int32))), .val (.int z71), .val (.int z73), .val (.int z75), .val (.ref b116), .val .null, .val .null] [(.int (117 : Int32)), (.int z71)]))
                refine own_byH (fun _ kS => XS.icmpYes X153.here hx rfl (pc0 := 197) (pc' := 208) rfl (hb hby at_197) rfl (feq hu).2 (by decide) (by decide) kS) ?_
                show own_ComesH Z p e below s _ _ _ (T153.setTop (mkF m 208 #[.val (.int p0), .val (.int p1), .val (.int p2), .val (.int p3), .val (.int (p0 &&& (3 : Int32))), .val (.int z71), .val (.int z73), .val (.int z75), .val (.ref b116), .val .null, .val .null] []))
                refine own_byH (fun _ kS => XS.iload X153.here hx rfl (hb hby at_208) rfl kS) ?_
                show own_ComesH Z p e below s _ _ _ (T153.setTop (mkF m 210 #[.val (.int p0), .val (.int p1), .val (.int p2), .val (.int p3), .val (.int (p0 &&& (3 : Int32))), .val (.int z71), .val (.int z73), .val (.int z75), .val (.ref b116), .val .null, .val .null] [(.int z71)]))
                refine own_byH (fun _ kS => XS.bipush X153.here hx rfl (hb hby at_210) kS) ?_
                show own_ComesH Z p e below s _ _ _ (T153.setTop (mkF m 212 #[.val (.int p0), .val (.int p1), .val (.int p2), .val (.int p3), .val (.int (p0 &&& (3 : Int32))), .val (.int z71), .val (.int z73), .val (.int z75), .val (.ref b116), .val .null, .val .null] [(.int (110 : Int32)), (.int z71)]))
                refine own_byH (fun _ kS => XS.icmpYes X153.here hx rfl (pc0 := 212) (pc' := 220) rfl (hb hby at_212) rfl (feq hn).2 (by decide) (by decide) kS) ?_
                show own_ComesH Z p e below s _ _ _ (T153.setTop (mkF m 220 #[.val (.int p0), .val (.int p1), .val (.int p2), .val (.int p3), .val (.int (p0 &&& (3 : Int32))), .val (.int z71), .val (.int z73), .val (.int z75), .val (.ref b116), .val .null, .val .null] []))
                refine own_byH (fun _ kS => XS.aload X153.here hx rfl (hb hby at_220) rfl rfl kS) ?_
                show own_ComesH Z p e below s _ _ _ (T153.setTop (mkF m 222 #[.val (.int p0), .val (.int p1), .val (.int p2), .val (.int p3), .val (.int (p0 &&& (3 : Int32))), .val (.int z71), .val (.int z73), .val (.int z75), .val (.ref b116), .val .null, .val .null] [.null]))
                refine own_byH (fun _ kS => XS.aload X153.here hx rfl (hb hby at_222) rfl rfl kS) ?_
                show own_ComesH Z p e below s _ _ _ (T153.setTop (mkF m 224 #[.val (.int p0), .val (.int p1), .val (.int p2), .val (.int p3), .val (.int (p0 &&& (3 : Int32))), .val (.int z71), .val (.int z73), .val (.int z75), .val (.ref b116), .val .null, .val .null] [.null, .null]))
                refine own_byH (fun _ kS => Jvm.RoadKit.acmp (g := (mkF m 224 #[.val (.int p0), .val (.int p1), .val (.int p2), .val (.int p3), .val (.int (p0 &&& (3 : Int32))), .val (.int z71), .val (.int z73), .val (.int z75), .val (.ref b116), .val .null, .val .null] [.null, .null])) X153 hx rfl rfl rfl (pc0 := 224) (pc' := 227) (same := true) rfl (hb hby at_224) rfl (decide_eq_true rfl) (by decide) (by decide) kS) ?_
                show own_ComesH Z p e below s _ _ _ (T153.setTop (mkF m 227 #[.val (.int p0), .val (.int p1), .val (.int p2), .val (.int p3), .val (.int (p0 &&& (3 : Int32))), .val (.int z71), .val (.int z73), .val (.int z75), .val (.ref b116), .val .null, .val .null] []))
                refine own_byH (fun _ kS => XS.iconst X153.here hx rfl (hb hby at_227) kS) ?_
                show own_ComesH Z p e below s _ _ _ (T153.setTop (mkF m 228 #[.val (.int p0), .val (.int p1), .val (.int p2), .val (.int p3), .val (.int (p0 &&& (3 : Int32))), .val (.int z71), .val (.int z73), .val (.int z75), .val (.ref b116), .val .null, .val .null] [(.int (1 : Int32))]))
                refine own_byH (fun _ kS => XS.goto X153.here hx rfl (pc0 := 228) (pc' := 232) rfl (hb hby at_228) (by decide) (by decide) kS) ?_
                show own_ComesH Z p e below s _ _ _ (T153.setTop (mkF m 232 #[.val (.int p0), .val (.int p1), .val (.int p2), .val (.int p3), .val (.int (p0 &&& (3 : Int32))), .val (.int z71), .val (.int z73), .val (.int z75), .val (.ref b116), .val .null, .val .null] [(.int (1 : Int32))]))
                have hkr154 := (Nat.le_trans (Nat.le_trans (Nat.le_trans (Nat.le_trans (Nat.le_trans (Nat.le_trans (Nat.le_refl (Array.size T75.heap)) E116.1) E118.1) (Keep.of_wr W121).1) (Keep.of_wr W124).1) K130.1) E151.1)
                have hcr154 := CH152.trans (CHv.at X153 hZ75 hEL CH152.1)
                refine own_retH X153 hS75 (by rw [e153]; exact hkr154) (by rw [hh]; rw [e153]; exact hcr154) (v := some (.int (1 : Int32))) (fun h => by rw [Bd.returns] at h; cases h) Bd.notSynchronized (by decide) (by decide) ?_ (fun fs hr => retN X153 hx (t := .boolean) Bd.returns (by simp) (hb hby at_232) hr)
                rw [e153]; exact ⟨rfl, N153⟩
        · show own_ComesH Z p e below s _ _ _ (T130.setTop (mkF m 127 #[.val (.int p0), .val (.int p1), .val (.int p2), .val (.int p3), .val (.int (p0 &&& (3 : Int32))), .val (.int z71), .val (.int z73), .val (.int z75), .val (.ref b116), .unset, .unset] []))
          refine own_byH (fun _ kS => XS.aload X130.here hx rfl (hb hby at_127) rfl rfl kS) ?_
          show own_ComesH Z p e below s _ _ _ (T130.setTop (mkF m 129 #[.val (.int p0), .val (.int p1), .val (.int p2), .val (.int p3), .val (.int (p0 &&& (3 : Int32))), .val (.int z71), .val (.int z73), .val (.int z75), .val (.ref b116), .unset, .unset] [(.ref b116)]))
          obtain ⟨vv155, _, ⟨T155, L155, k155, n155⟩, -, X155, ⟨Lc155, hQ155, l155, y155, z155⟩, st155⟩ := Jvm.LawKit.callS X130 hx (y := (⟨"com/example/mixed_margins/mixedmargins/model/TimeUnit", "ofSymbol", "(Ljava/lang/String;)Ljava/util/Optional;"⟩ : MethodName)) hown75 (mvT hZ75 (hw _ (List.mem_of_getElem? (i := 26) rfl))) (mvT hZ75 (hw _ (List.mem_of_getElem? (i := 27) rfl))) (mvT hZ75 (hw _ (List.mem_of_getElem? (i := 28) rfl))) (mvT hZ75 (hw _ (List.mem_of_getElem? (i := 29) rfl))) (by decide) (backOf (W := 0) (rm5 l Z a0 hw [] b116 [z71, z73] va kv u0 u1 u2 u3 y0 y1 y2 y3 em zc T130.heap n0 (Nat.le_trans (Nat.le_trans (Nat.le_trans (Nat.le_trans (Nat.le_trans (Nat.le_trans (Nat.le_trans (Nat.le_trans Z0 E71.1) E73.1) E75.1) E116.1) E118.1) (Keep.of_wr W121).1) (Keep.of_wr W124).1) K130.1) (c129.keep K130 (allS g_b116 all0)) Sv Vv Ev Fs_u0 Ss_u0 Fs_u1 Ss_u1 Fs_u2 Ss_u2 Fs_u3 Ss_u3 Sm Em Fm Sz hzc hY) hZ75 (hw _ (List.mem_of_getElem? (i := 29) rfl)) (hw _ (List.mem_of_getElem? (i := 28) rfl)) (by decide) (by decide)) (g := (mkF m 129 #[.val (.int p0), .val (.int p1), .val (.int p2), .val (.int p3), .val (.int (p0 &&& (3 : Int32))), .val (.int z71), .val (.int z73), .val (.int z75), .val (.ref b116), .unset, .unset] [(.ref b116)])) rfl (by rw [hml]; rfl) (argsL := [(.ref b116)]) (rest := []) (lenOf pd__Ljava_lang_String__Ljava_util_Optional__717 rfl) rfl (by show 2 * 0 + _ ≤ _; exact Nat.le_of_eq rfl) (hb hby at_129) (fun _ _ => ⟨rfl, rfl, (by decide : 9 + 2 ≤ _), (by decide : 68 + 5 ≤ _)⟩)
          dsimp only [Pt.U, Pt.locs, Pt.cells, Pt.slots] at X155 l155 y155 z155 st155 hQ155
          subst l155 y155 z155
          obtain ⟨o155, rfl, N155q, E155, Eo155, Fo155⟩ := hQ155
          have N155 := Fr.app N130 N155q
          refine own_byH st155 ?_
          have CR156 := CHr.ext E155 CH131.1
          have CH156 := CH131.trans CR156
          show own_ComesH Z p e below s _ _ _ (T155.setTop (mkF m 132 #[.val (.int p0), .val (.int p1), .val (.int p2), .val (.int p3), .val (.int (p0 &&& (3 : Int32))), .val (.int z71), .val (.int z73), .val (.int z75), .val (.ref b116), .unset, .unset] [(.ref o155)]))
          rw [own_u2n _ _ _ _ hc1] at Fo155
          refine own_byH (fun _ kS => XS.aconstNull X155.here hx rfl (hb hby at_132) kS) ?_
          show own_ComesH Z p e below s _ _ _ (T155.setTop (mkF m 133 #[.val (.int p0), .val (.int p1), .val (.int p2), .val (.int p3), .val (.int (p0 &&& (3 : Int32))), .val (.int z71), .val (.int z73), .val (.int z75), .val (.ref b116), .unset, .unset] [.null, (.ref o155)]))
          obtain ⟨cq157, kq157, q157a, q157b, q157c⟩ := isOf hZ75 rfl Eo155
          obtain ⟨vv157, _, ⟨T157, L157, k157, n157⟩, -, X157, ⟨Lc157, hQ157, l157, y157, z157⟩, st157⟩ := X155.virtualBack hx (y := (⟨"java/util/Optional", "orElse", "(Ljava/lang/Object;)Ljava/lang/Object;"⟩ : MethodName)) (z := (⟨"java/util/Optional", "orElse", "(Ljava/lang/Object;)Ljava/lang/Object;"⟩ : MethodName)) hown75 (mvT hZ75 (hw _ (List.mem_of_getElem? (i := 67) rfl))) (mvT hZ75 (hw _ (List.mem_of_getElem? (i := 68) rfl))) (notFace_of_selects (args := #[]) (mvT hZ75 (hw _ (List.mem_of_getElem? (i := 70) rfl)))) (mvT hZ75 (hw _ (List.mem_of_getElem? (i := 70) rfl))) (mvT hZ75 (hw _ (List.mem_of_getElem? (i := 69) rfl))) (by decide) (backOf (W := 0) (rm10n l Z a0 hw [] o155 T155.heap n0 (Nat.le_trans (Nat.le_trans (Nat.le_trans (Nat.le_trans (Nat.le_trans (Nat.le_trans (Nat.le_trans (Nat.le_trans (Nat.le_trans Z0 E71.1) E73.1) E75.1) E116.1) E118.1) (Keep.of_wr W121).1) (Keep.of_wr W124).1) K130.1) E155.1) Fo155) hZ75 (hw _ (List.mem_of_getElem? (i := 71) rfl)) (hw _ (List.mem_of_getElem? (i := 64) rfl)) (by decide) (by decide)) q157a q157c (g := (mkF m 133 #[.val (.int p0), .val (.int p1), .val (.int p2), .val (.int p3), .val (.int (p0 &&& (3 : Int32))), .val (.int z71), .val (.int z73), .val (.int z75), .val (.ref b116), .unset, .unset] [.null, (.ref o155)])) rfl (by rw [hml]; rfl) (Steps.refl _) (argsL := [.null]) (rest := []) (lenOf pd__Ljava_lang_Object__Ljava_lang_Object__418 rfl) rfl (by show 2 * 0 + _ ≤ _; exact Nat.le_of_eq rfl) (hb hby at_133) (fun _ _ => ⟨rfl, rfl, (by decide : 11 + 0 ≤ _), (by decide : 73 + 0 ≤ _)⟩)
          dsimp only [Pt.U, Pt.locs, Pt.cells, Pt.slots] at X157 l157 y157 z157 st157 hQ157
          subst l157 y157 z157
          obtain ⟨rfl, N157q, e157q⟩ := hQ157
          have N157 := Fr.app N155 N157q
          refine own_trH st157 ?_
          have e157 : T157.heap = T155.heap := e157q
          show own_ComesH Z p e below s _ _ _ (T157.setTop (mkF m 136 #[.val (.int p0), .val (.int p1), .val (.int p2), .val (.int p3), .val (.int (p0 &&& (3 : Int32))), .val (.int z71), .val (.int z73), .val (.int z75), .val (.ref b116), .unset, .unset] [.null]))
          refine own_byH (fun _ kS => X157.checkcastNull hx (g := (mkF m 136 #[.val (.int p0), .val (.int p1), .val (.int p2), .val (.int p3), .val (.int (p0 &&& (3 : Int32))), .val (.int z71), .val (.int z73), .val (.int z75), .val (.ref b116), .unset, .unset] [.null])) rfl rfl (hb hby at_136) _ kS) ?_
          show own_ComesH Z p e below s _ _ _ (T157.setTop (mkF m 139 #[.val (.int p0), .val (.int p1), .val (.int p2), .val (.int p3), .val (.int (p0 &&& (3 : Int32))), .val (.int z71), .val (.int z73), .val (.int z75), .val (.ref b116), .unset, .unset] [.null]))
          refine own_byH (fun _ kS => XS.astore X157.here hx rfl (hb hby at_139) rfl rfl (l' := #[.val (.int p0), .val (.int p1), .val (.int p2), .val (.int p3), .val (.int (p0 &&& (3 : Int32))), .val (.int z71), .val (.int z73), .val (.int z75), .val (.ref b116), .val .null, .unset]) rfl kS) ?_
          show own_ComesH Z p e below s _ _ _ (T157.setTop (mkF m 141 #[.val (.int p0), .val (.int p1), .val (.int p2), .val (.int p3), .val (.int (p0 &&& (3 : Int32))), .val (.int z71), .val (.int z73), .val (.int z75), .val (.ref b116), .val .null, .unset] []))
          refine own_byH (fun _ kS => XS.aconstNull X157.here hx rfl (hb hby at_141) kS) ?_
          show own_ComesH Z p e below s _ _ _ (T157.setTop (mkF m 142 #[.val (.int p0), .val (.int p1), .val (.int p2), .val (.int p3), .val (.int (p0 &&& (3 : Int32))), .val (.int z71), .val (.int z73), .val (.int z75), .val (.ref b116), .val .null, .unset] [.null]))
          refine own_byH (fun _ kS => XS.astore X157.here hx rfl (hb hby at_142) rfl rfl (l' := #[.val (.int p0), .val (.int p1), .val (.int p2), .val (.int p3), .val (.int (p0 &&& (3 : Int32))), .val (.int z71), .val (.int z73), .val (.int z75), .val (.ref b116), .val .null, .val .null]) rfl kS) ?_
          show own_ComesH Z p e below s _ _ _ (T157.setTop (mkF m 144 #[.val (.int p0), .val (.int p1), .val (.int p2), .val (.int p3), .val (.int (p0 &&& (3 : Int32))), .val (.int z71), .val (.int z73), .val (.int z75), .val (.ref b116), .val .null, .val .null] []))
          refine own_byH (fun _ kS => XS.iload X157.here hx rfl (hb hby at_144) rfl kS) ?_
          show own_ComesH Z p e below s _ _ _ (T157.setTop (mkF m 146 #[.val (.int p0), .val (.int p1), .val (.int p2), .val (.int p3), .val (.int (p0 &&& (3 : Int32))), .val (.int z71), .val (.int z73), .val (.int z75), .val (.ref b116), .val .null, .val .null] [(.int (p0 &&& (3 : Int32)))]))
          refine own_byH (fun _ kS => XS.iconst X157.here hx rfl (hb hby at_146) kS) ?_
          show own_ComesH Z p e below s _ _ _ (T157.setTop (mkF m 147 #[.val (.int p0), .val (.int p1), .val (.int p2), .val (.int p3), .val (.int (p0 &&& (3 : Int32))), .val (.int z71), .val (.int z73), .val (.int z75), .val (.ref b116), .val .null, .val .null] [(.int (1 : Int32)), (.int (p0 &&& (3 : Int32)))]))
          refine own_byH (fun _ kS => XS.icmpYes X157.here hx rfl (pc0 := 147) (pc' := 165) rfl (hb hby at_147) rfl (feq hl1).2 (by decide) (by decide) kS) ?_
          show own_ComesH Z p e below s _ _ _ (T157.setTop (mkF m 165 #[.val (.int p0), .val (.int p1), .val (.int p2), .val (.int p3), .val (.int (p0 &&& (3 : Int32))), .val (.int z71), .val (.int z73), .val (.int z75), .val (.ref b116), .val .null, .val .null] []))
          refine own_byH (fun _ kS => XS.iload X157.here hx rfl (hb hby at_165) rfl kS) ?_
          show own_ComesH Z p e below s _ _ _ (T157.setTop (mkF m 167 #[.val (.int p0), .val (.int p1), .val (.int p2), .val (.int p3), .val (.int (p0 &&& (3 : Int32))), .val (.int z71), .val (.int z73), .val (.int z75), .val (.ref b116), .val .null, .val .null] [(.int (p0 &&& (3 : Int32)))]))
          refine own_byH (fun _ kS => XS.iconst X157.here hx rfl (hb hby at_167) kS) ?_
          show own_ComesH Z p e below s _ _ _ (T157.setTop (mkF m 168 #[.val (.int p0), .val (.int p1), .val (.int p2), .val (.int p3), .val (.int (p0 &&& (3 : Int32))), .val (.int z71), .val (.int z73), .val (.int z75), .val (.ref b116), .val .null, .val .null] [(.int (2 : Int32)), (.int (p0 &&& (3 : Int32)))]))
          refine own_byH (fun _ kS => XS.icmpNo X157.here hx rfl (hb hby at_168) rfl (teq hl2).2 kS) ?_
          show own_ComesH Z p e below s _ _ _ (T157.setTop (mkF m 171 #[.val (.int p0), .val (.int p1), .val (.int p2), .val (.int p3), .val (.int (p0 &&& (3 : Int32))), .val (.int z71), .val (.int z73), .val (.int z75), .val (.ref b116), .val .null, .val .null] []))
          refine own_byH (fun _ kS => XS.iload X157.here hx rfl (hb hby at_171) rfl kS) ?_
          show own_ComesH Z p e below s _ _ _ (T157.setTop (mkF m 173 #[.val (.int p0), .val (.int p1), .val (.int p2), .val (.int p3), .val (.int (p0 &&& (3 : Int32))), .val (.int z71), .val (.int z73), .val (.int z75), .val (.ref b116), .val .null, .val .null] [(.int z73)]))
          refine own_byH (fun _ kS => XS.bipush X157.here hx rfl (hb hby at_173) kS) ?_
          show own_ComesH Z p e below s _ _ _ (T157.setTop (mkF m 175 #[.val (.int p0), .val (.int p1), .val (.int p2), .val (.int p3), .val (.int (p0 &&& (3 : Int32))), .val (.int z71), .val (.int z73), .val (.int z75), .val (.ref b116), .val .null, .val .null] [(.int (115 : Int32)), (.int z73)]))
          refine own_byH (fun _ kS => XS.icmpYes X157.here hx rfl (pc0 := 175) (pc' := 220) rfl (hb hby at_175) rfl (feq hc1).2 (by decide) (by decide) kS) ?_
          show own_ComesH Z p e below s _ _ _ (T157.setTop (mkF m 220 #[.val (.int p0), .val (.int p1), .val (.int p2), .val (.int p3), .val (.int (p0 &&& (3 : Int32))), .val (.int z71), .val (.int z73), .val (.int z75), .val (.ref b116), .val .null, .val .null] []))
          refine own_byH (fun _ kS => XS.aload X157.here hx rfl (hb hby at_220) rfl rfl kS) ?_
          show own_ComesH Z p e below s _ _ _ (T157.setTop (mkF m 222 #[.val (.int p0), .val (.int p1), .val (.int p2), .val (.int p3), .val (.int (p0 &&& (3 : Int32))), .val (.int z71), .val (.int z73), .val (.int z75), .val (.ref b116), .val .null, .val .null] [.null]))
          refine own_byH (fun _ kS => XS.aload X157.here hx rfl (hb hby at_222) rfl rfl kS) ?_
          show own_ComesH Z p e below s _ _ _ (T157.setTop (mkF m 224 #[.val (.int p0), .val (.int p1), .val (.int p2), .val (.int p3), .val (.int (p0 &&& (3 : Int32))), .val (.int z71), .val (.int z73), .val (.int z75), .val (.ref b116), .val .null, .val .null] [.null, .null]))
          refine own_byH (fun _ kS => Jvm.RoadKit.acmp (g := (mkF m 224 #[.val (.int p0), .val (.int p1), .val (.int p2), .val (.int p3), .val (.int (p0 &&& (3 : Int32))), .val (.int z71), .val (.int z73), .val (.int z75), .val (.ref b116), .val .null, .val .null] [.null, .null])) X157 hx rfl rfl rfl (pc0 := 224) (pc' := 227) (same := true) rfl (hb hby at_224) rfl (decide_eq_true rfl) (by decide) (by decide) kS) ?_
          show own_ComesH Z p e below s _ _ _ (T157.setTop (mkF m 227 #[.val (.int p0), .val (.int p1), .val (.int p2), .val (.int p3), .val (.int (p0 &&& (3 : Int32))), .val (.int z71), .val (.int z73), .val (.int z75), .val (.ref b116), .val .null, .val .null] []))
          refine own_byH (fun _ kS => XS.iconst X157.here hx rfl (hb hby at_227) kS) ?_
          show own_ComesH Z p e below s _ _ _ (T157.setTop (mkF m 228 #[.val (.int p0), .val (.int p1), .val (.int p2), .val (.int p3), .val (.int (p0 &&& (3 : Int32))), .val (.int z71), .val (.int z73), .val (.int z75), .val (.ref b116), .val .null, .val .null] [(.int (1 : Int32))]))
          refine own_byH (fun _ kS => XS.goto X157.here hx rfl (pc0 := 228) (pc' := 232) rfl (hb hby at_228) (by decide) (by decide) kS) ?_
          show own_ComesH Z p e below s _ _ _ (T157.setTop (mkF m 232 #[.val (.int p0), .val (.int p1), .val (.int p2), .val (.int p3), .val (.int (p0 &&& (3 : Int32))), .val (.int z71), .val (.int z73), .val (.int z75), .val (.ref b116), .val .null, .val .null] [(.int (1 : Int32))]))
          have hkr158 := (Nat.le_trans (Nat.le_trans (Nat.le_trans (Nat.le_trans (Nat.le_trans (Nat.le_trans (Nat.le_refl (Array.size T75.heap)) E116.1) E118.1) (Keep.of_wr W121).1) (Keep.of_wr W124).1) K130.1) E155.1)
          have hcr158 := CH156.trans (CHv.at X157 hZ75 hEL CH156.1)
          refine own_retH X157 hS75 (by rw [e157]; exact hkr158) (by rw [hh]; rw [e157]; exact hcr158) (v := some (.int (1 : Int32))) (fun h => by rw [Bd.returns] at h; cases h) Bd.notSynchronized (by decide) (by decide) ?_ (fun fs hr => retN X157 hx (t := .boolean) Bd.returns (by simp) (hb hby at_232) hr)
          rw [e157]; exact ⟨rfl, N157⟩
      · refine own_byH (fun _ kS => XS.icmpYes X75.here hx rfl (pc0 := 72) (pc' := 100) rfl (hb hby at_72) rfl (feq hl2).2 (by decide) (by decide) kS) ?_
        show own_ComesH Z p e below s _ _ _ (T75.setTop (mkF m 100 #[.val (.int p0), .val (.int p1), .val (.int p2), .val (.int p3), .val (.int (p0 &&& (3 : Int32))), .val (.int z71), .val (.int z73), .val (.int z75), .unset, .unset, .unset] []))
        obtain ⟨T159, h159, X159, e159, E159, A159, D159, -, st159⟩ := newO X75 hx hZ75 hown75 (hw _ (List.mem_of_getElem? (i := 4) rfl)) (hw _ (List.mem_of_getElem? (i := 5) rfl)) (hw _ (List.mem_of_getElem? (i := 6) rfl)) rfl (g := (mkF m 100 #[.val (.int p0), .val (.int p1), .val (.int p2), .val (.int p3), .val (.int (p0 &&& (3 : Int32))), .val (.int z71), .val (.int z73), .val (.int z75), .unset, .unset, .unset] [])) rfl (hb hby at_100) (by decide) (by decide)
        obtain ⟨b159, g159⟩ : ∃ z, z = T75.heap.size := ⟨_, rfl⟩
        rw [← g159] at A159 D159 st159
        have g_b159 : n0 ≤ b159 := Nat.le_trans (Nat.le_trans (Nat.le_trans (Nat.le_trans Z0 E71.1) E73.1) E75.1) (Nat.le_of_eq g159.symm)
        refine own_byH st159 ?_
        have CR160 := CHr.ext E159 CH76.1
        have CH160 := CH76.trans CR160
        have sb159 := Safe.ext E159 CH76.1 (Safe.new (Nat.le_of_eq g159.symm))
        show own_ComesH Z p e below s _ _ _ (T159.setTop (mkF m 103 #[.val (.int p0), .val (.int p1), .val (.int p2), .val (.int p3), .val (.int (p0 &&& (3 : Int32))), .val (.int z71), .val (.int z73), .val (.int z75), .unset, .unset, .unset] [(.ref b159)]))
        refine own_byH (fun _ kS => XS.dup X159.here hx rfl (hb hby at_103) rfl rfl kS) ?_
        show own_ComesH Z p e below s _ _ _ (T159.setTop (mkF m 104 #[.val (.int p0), .val (.int p1), .val (.int p2), .val (.int p3), .val (.int (p0 &&& (3 : Int32))), .val (.int z71), .val (.int z73), .val (.int z75), .unset, .unset, .unset] [(.ref b159), (.ref b159)]))
        refine own_byH (fun _ kS => XS.iconst X159.here hx rfl (hb hby at_104) kS) ?_
        show own_ComesH Z p e below s _ _ _ (T159.setTop (mkF m 105 #[.val (.int p0), .val (.int p1), .val (.int p2), .val (.int p3), .val (.int (p0 &&& (3 : Int32))), .val (.int z71), .val (.int z73), .val (.int z75), .unset, .unset, .unset] [(.int (3 : Int32)), (.ref b159), (.ref b159)]))
        obtain ⟨T161, h161, k161, X161, e161, E161, A161, st161⟩ := newP X159 hx hZ75 (hw _ (List.mem_of_getElem? (i := 7) rfl)) e159 (g := (mkF m 105 #[.val (.int p0), .val (.int p1), .val (.int p2), .val (.int p3), .val (.int (p0 &&& (3 : Int32))), .val (.int z71), .val (.int z73), .val (.int z75), .unset, .unset, .unset] [(.int (3 : Int32)), (.ref b159), (.ref b159)])) rfl (hb hby at_105) rfl (by decide) (cap := 3) (by decide) (by decide) (by decide) (by decide)
        obtain ⟨b161, g161⟩ : ∃ z, z = h159.size := ⟨_, rfl⟩
        rw [← g161] at A161 st161
        have g_b161 : n0 ≤ b161 := Nat.le_trans (Nat.le_trans (Nat.le_trans (Nat.le_trans (Nat.le_trans Z0 E71.1) E73.1) E75.1) E159.1) (Nat.le_of_eq g161.symm)
        refine own_byH st161 ?_
        have CR162 := CHr.ext E161 CH160.1
        have CH162 := CH160.trans CR162
        have sb161 := Safe.ext E161 CH160.1 (Safe.new (Nat.le_of_eq g161.symm))
        have V_b161 : Arv Z h161 b161 k161 .char (3 : Int32) [(.int (0 : Int32)), (.int (0 : Int32)), (.int (0 : Int32))] (.int (0 : Int32)) := (Arv.new A161 (by decide)).pad (pad_rep [] (.int (0 : Int32)) 3)
        show own_ComesH Z p e below s _ _ _ (T161.setTop (mkF m 107 #[.val (.int p0), .val (.int p1), .val (.int p2), .val (.int p3), .val (.int (p0 &&& (3 : Int32))), .val (.int z71), .val (.int z73), .val (.int z75), .unset, .unset, .unset] [(.ref b161), (.ref b159), (.ref b159)]))
        have nA : b159 ≠ b161 := Nat.ne_of_lt (Nat.lt_of_lt_of_le A159.lt (Nat.le_of_eq g161.symm))
        refine own_byH (fun _ kS => XS.dup X161.here hx rfl (hb hby at_107) rfl rfl kS) ?_
        show own_ComesH Z p e below s _ _ _ (T161.setTop (mkF m 108 #[.val (.int p0), .val (.int p1), .val (.int p2), .val (.int p3), .val (.int (p0 &&& (3 : Int32))), .val (.int z71), .val (.int z73), .val (.int z75), .unset, .unset, .unset] [(.ref b161), (.ref b161), (.ref b159), (.ref b159)]))
        refine own_byH (fun _ kS => XS.iconst X161.here hx rfl (hb hby at_108) kS) ?_
        show own_ComesH Z p e below s _ _ _ (T161.setTop (mkF m 109 #[.val (.int p0), .val (.int p1), .val (.int p2), .val (.int p3), .val (.int (p0 &&& (3 : Int32))), .val (.int z71), .val (.int z73), .val (.int z75), .unset, .unset, .unset] [(.int (0 : Int32)), (.ref b161), (.ref b161), (.ref b159), (.ref b159)]))
        refine own_byH (fun _ kS => XS.iload X161.here hx rfl (hb hby at_109) rfl kS) ?_
        show own_ComesH Z p e below s _ _ _ (T161.setTop (mkF m 111 #[.val (.int p0), .val (.int p1), .val (.int p2), .val (.int p3), .val (.int (p0 &&& (3 : Int32))), .val (.int z71), .val (.int z73), .val (.int z75), .unset, .unset, .unset] [(.int z71), (.int (0 : Int32)), (.ref b161), (.ref b161), (.ref b159), (.ref b159)]))
        have Vo163 := V_b161
        obtain ⟨cl163, Ar163, qA163, SA163, NA163, HA163, GA163⟩ := Vo163
        have hin163 : ¬ ((0 : Int32) < 0 ∨ cl163.slots.size ≤ ((0 : Int32)).toNatClampNeg) := inb_of SA163 ⟨by decide, by decide⟩
        obtain ⟨T164, h164, X164, e164, W164, st164⟩ := stC X161 hx hZ75 e161 Ar163 (j := (0 : Int32)) hin163 (g := (mkF m 111 #[.val (.int p0), .val (.int p1), .val (.int p2), .val (.int p3), .val (.int (p0 &&& (3 : Int32))), .val (.int z71), .val (.int z73), .val (.int z75), .unset, .unset, .unset] [(.int z71), (.int (0 : Int32)), (.ref b161), (.ref b161), (.ref b159), (.ref b159)])) rfl rfl (hb hby at_111)
        refine own_byH st164 ?_
        have V164 : Arv Z h164 b161 k161 .char (3 : Int32) [(.int (nar .char z71)), (.int (0 : Int32)), (.int (0 : Int32))] (.int (0 : Int32)) := Arv.set Ar163 qA163 SA163 NA163 HA163 GA163 (by first | rfl | exact fits_nar_char _) W164 0 rfl (Nat.le_of_ble_eq_true rfl)
        have CR165 := CHr.wr W164 sb161 CH162.1
        have CH165 := CH162.trans CR165
        have N164 := Fr.snoc X164 N75 g_b161
        show own_ComesH Z p e below s _ _ _ (T164.setTop (mkF m 112 #[.val (.int p0), .val (.int p1), .val (.int p2), .val (.int p3), .val (.int (p0 &&& (3 : Int32))), .val (.int z71), .val (.int z73), .val (.int z75), .unset, .unset, .unset] [(.ref b161), (.ref b159), (.ref b159)]))
        refine own_byH (fun _ kS => XS.dup X164.here hx rfl (hb hby at_112) rfl rfl kS) ?_
        show own_ComesH Z p e below s _ _ _ (T164.setTop (mkF m 113 #[.val (.int p0), .val (.int p1), .val (.int p2), .val (.int p3), .val (.int (p0 &&& (3 : Int32))), .val (.int z71), .val (.int z73), .val (.int z75), .unset, .unset, .unset] [(.ref b161), (.ref b161), (.ref b159), (.ref b159)]))
        refine own_byH (fun _ kS => XS.iconst X164.here hx rfl (hb hby at_113) kS) ?_
        show own_ComesH Z p e below s _ _ _ (T164.setTop (mkF m 114 #[.val (.int p0), .val (.int p1), .val (.int p2), .val (.int p3), .val (.int (p0 &&& (3 : Int32))), .val (.int z71), .val (.int z73), .val (.int z75), .unset, .unset, .unset] [(.int (1 : Int32)), (.ref b161), (.ref b161), (.ref b159), (.ref b159)]))
        refine own_byH (fun _ kS => XS.iload X164.here hx rfl (hb hby at_114) rfl kS) ?_
        show own_ComesH Z p e below s _ _ _ (T164.setTop (mkF m 116 #[.val (.int p0), .val (.int p1), .val (.int p2), .val (.int p3), .val (.int (p0 &&& (3 : Int32))), .val (.int z71), .val (.int z73), .val (.int z75), .unset, .unset, .unset] [(.int z73), (.int (1 : Int32)), (.ref b161), (.ref b161), (.ref b159), (.ref b159)]))
        have Vo166 := V164
        obtain ⟨cl166, Ar166, qA166, SA166, NA166, HA166, GA166⟩ := Vo166
        have hin166 : ¬ ((1 : Int32) < 0 ∨ cl166.slots.size ≤ ((1 : Int32)).toNatClampNeg) := inb_of SA166 ⟨by decide, by decide⟩
        obtain ⟨T167, h167, X167, e167, W167, st167⟩ := stC X164 hx hZ75 e164 Ar166 (j := (1 : Int32)) hin166 (g := (mkF m 116 #[.val (.int p0), .val (.int p1), .val (.int p2), .val (.int p3), .val (.int (p0 &&& (3 : Int32))), .val (.int z71), .val (.int z73), .val (.int z75), .unset, .unset, .unset] [(.int z73), (.int (1 : Int32)), (.ref b161), (.ref b161), (.ref b159), (.ref b159)])) rfl rfl (hb hby at_116)
        refine own_byH st167 ?_
        have V167 : Arv Z h167 b161 k161 .char (3 : Int32) [(.int (nar .char z71)), (.int (nar .char z73)), (.int (0 : Int32))] (.int (0 : Int32)) := Arv.set Ar166 qA166 SA166 NA166 HA166 GA166 (by first | rfl | exact fits_nar_char _) W167 1 rfl (Nat.le_of_ble_eq_true rfl)
        have sf169 := CR165.safe A161.lt sb161
        have CR168 := CHr.wr W167 sf169 CH165.1
        have CH168 := CH165.trans CR168
        have N167 := Fr.snoc X167 N164 g_b161
        show own_ComesH Z p e below s _ _ _ (T167.setTop (mkF m 117 #[.val (.int p0), .val (.int p1), .val (.int p2), .val (.int p3), .val (.int (p0 &&& (3 : Int32))), .val (.int z71), .val (.int z73), .val (.int z75), .unset, .unset, .unset] [(.ref b161), (.ref b159), (.ref b159)]))
        refine own_byH (fun _ kS => XS.dup X167.here hx rfl (hb hby at_117) rfl rfl kS) ?_
        show own_ComesH Z p e below s _ _ _ (T167.setTop (mkF m 118 #[.val (.int p0), .val (.int p1), .val (.int p2), .val (.int p3), .val (.int (p0 &&& (3 : Int32))), .val (.int z71), .val (.int z73), .val (.int z75), .unset, .unset, .unset] [(.ref b161), (.ref b161), (.ref b159), (.ref b159)]))
        refine own_byH (fun _ kS => XS.iconst X167.here hx rfl (hb hby at_118) kS) ?_
        show own_ComesH Z p e below s _ _ _ (T167.setTop (mkF m 119 #[.val (.int p0), .val (.int p1), .val (.int p2), .val (.int p3), .val (.int (p0 &&& (3 : Int32))), .val (.int z71), .val (.int z73), .val (.int z75), .unset, .unset, .unset] [(.int (2 : Int32)), (.ref b161), (.ref b161), (.ref b159), (.ref b159)]))
        refine own_byH (fun _ kS => XS.iload X167.here hx rfl (hb hby at_119) rfl kS) ?_
        show own_ComesH Z p e below s _ _ _ (T167.setTop (mkF m 121 #[.val (.int p0), .val (.int p1), .val (.int p2), .val (.int p3), .val (.int (p0 &&& (3 : Int32))), .val (.int z71), .val (.int z73), .val (.int z75), .unset, .unset, .unset] [(.int z75), (.int (2 : Int32)), (.ref b161), (.ref b161), (.ref b159), (.ref b159)]))
        have Vo170 := V167
        obtain ⟨cl170, Ar170, qA170, SA170, NA170, HA170, GA170⟩ := Vo170
        have hin170 : ¬ ((2 : Int32) < 0 ∨ cl170.slots.size ≤ ((2 : Int32)).toNatClampNeg) := inb_of SA170 ⟨by decide, by decide⟩
        obtain ⟨T171, h171, X171, e171, W171, st171⟩ := stC X167 hx hZ75 e167 Ar170 (j := (2 : Int32)) hin170 (g := (mkF m 121 #[.val (.int p0), .val (.int p1), .val (.int p2), .val (.int p3), .val (.int (p0 &&& (3 : Int32))), .val (.int z71), .val (.int z73), .val (.int z75), .unset, .unset, .unset] [(.int z75), (.int (2 : Int32)), (.ref b161), (.ref b161), (.ref b159), (.ref b159)])) rfl rfl (hb hby at_121)
        refine own_byH st171 ?_
        have V171 : Arv Z h171 b161 k161 .char (3 : Int32) [(.int (nar .char z71)), (.int (nar .char z73)), (.int (nar .char z75))] (.int (0 : Int32)) := Arv.set Ar170 qA170 SA170 NA170 HA170 GA170 (by first | rfl | exact fits_nar_char _) W171 2 rfl (Nat.le_of_ble_eq_true rfl)
        have sf173 := CR168.safe (Nat.lt_of_lt_of_le A161.lt CR165.2.1) sf169
        have CR172 := CHr.wr W171 sf173 CH168.1
        have CH172 := CH168.trans CR172
        have N171 := Fr.snoc X171 N167 g_b161
        show own_ComesH Z p e below s _ _ _ (T171.setTop (mkF m 122 #[.val (.int p0), .val (.int p1), .val (.int p2), .val (.int p3), .val (.int (p0 &&& (3 : Int32))), .val (.int z71), .val (.int z73), .val (.int z75), .unset, .unset, .unset] [(.ref b161), (.ref b159), (.ref b159)]))
        have Vc := V171
        rw [own_narc hz71, own_narc hz73, own_narc hz75] at Vc
        have hws : ∀ d ∈ StrChars.Road.words, d.before a0 Z = true := fun d hd => hw d ((by decide +kernel : ∀ d ∈ StrChars.Road.words, d ∈ tables_1) d hd)
        have hp : ∀ c ∈ [z71, z73, z75], ¬ c < 0 ∧ ¬ (255 : Int32) < c := fun c hc => by
          simp only [List.mem_cons, List.not_mem_nil, or_false] at hc
          rcases hc with rfl | rfl | rfl
          · exact hz71
          · exact hz73
          · exact hz75
        have c174 := (((((D159 (Or.inr (hw _ (List.mem_of_getElem? (i := 20) rfl))) (ty := (.array .byte)) (by decide)).ext E161).other W164 (Or.inl nA)).other W167 (Or.inl nA)).other W171 (Or.inl nA))
        have c175 := (((((D159 (Or.inr (hw _ (List.mem_of_getElem? (i := 21) rfl))) (ty := .byte) (by decide)).ext E161).other W164 (Or.inl nA)).other W167 (Or.inl nA)).other W171 (Or.inl nA))
        have c176 := ((((((((O0.ext E71).ext E73).ext E75).ext E159).ext E161).wr W164 g_b161).wr W167 g_b161).wr W171 g_b161)
        obtain ⟨vv177, _, ⟨T177, L177, k177, n177⟩, -, X177, ⟨Lc177, hQ177, l177, y177, z177⟩, st177⟩ := X171.specialBack hx (y := (⟨"java/lang/String", "<init>", "([C)V"⟩ : MethodName)) rfl hown75 (mvT hZ75 (hw _ (List.mem_of_getElem? (i := 8) rfl))) (mvT hZ75 (hw _ (List.mem_of_getElem? (i := 9) rfl))) (mvT hZ75 (hw _ (List.mem_of_getElem? (i := 10) rfl))) (by decide) (StrChars.Road.backV (W := 1) hZ75 hws (kI := 4) (hw _ (List.mem_of_getElem? (i := 5) rfl)) (cs := [z71, z73, z75]) (bs := [z71, z73, z75].map (fun c => c.toInt8.toInt32)) (n := 3) (n0 := n0) g_b159 (Nat.le_trans (Nat.le_trans (Nat.le_trans (Nat.le_trans (Nat.le_trans (Nat.le_trans (Nat.le_trans (Nat.le_trans Z0 E71.1) E73.1) E75.1) E159.1) E161.1) (Keep.of_wr W164).1) (Keep.of_wr W167).1) (Keep.of_wr W171).1) ((((A159.ext E161).wr W164).wr W167).wr W171) c174 c175 Vc (Sz.ext c176.2) hzc rfl rfl (by decide) (by decide) hp rfl (by decide) (by decide)) (g := (mkF m 122 #[.val (.int p0), .val (.int p1), .val (.int p2), .val (.int p3), .val (.int (p0 &&& (3 : Int32))), .val (.int z71), .val (.int z73), .val (.int z75), .unset, .unset, .unset] [(.ref b161), (.ref b159), (.ref b159)])) rfl (by rw [hml]; rfl) (Steps.refl _) (a := b159) (argsL := [(.ref b161)]) (rest := [(.ref b159)]) (lenOf pd___C_V_325 rfl) rfl (by show 2 * 0 + _ ≤ _; exact Nat.le_of_eq rfl) (hb hby at_122) (fun _ _ => ⟨rfl, e171, (by decide : 8 + 1 ≤ _), (by decide : 67 + 3 ≤ _)⟩)
        dsimp only [Pt.U, Pt.locs, Pt.cells, Pt.slots] at X177 l177 y177 z177 st177 hQ177
        subst l177 y177 z177
        obtain ⟨rfl, N177q, K177, Eb177, Cb177, t177, kb177, _, _, _, Vb177, Ab177⟩ := hQ177
        have N177 := Fr.app N171 N177q
        refine own_trH st177 ?_
        have sf179 := (CR162.trans (CR165.trans (CR168.trans CR172))).safe A159.lt sb159
        have CR178 := CHr.keep K177 (sfS sf179 sf0) CH172.1
        have CH178 := CH172.trans CR178
        show own_ComesH Z p e below s _ _ _ (T177.setTop (mkF m 125 #[.val (.int p0), .val (.int p1), .val (.int p2), .val (.int p3), .val (.int (p0 &&& (3 : Int32))), .val (.int z71), .val (.int z73), .val (.int z75), .unset, .unset, .unset] [(.ref b159)]))
        have hY : own_Str Z T177.heap b159 [z71, z73, z75] := ⟨Eb177, t177, kb177, _, _, Vb177, Cb177, Ab177, StrChars.Road.codOf rfl (fun c hc => (hp c hc).2), fun c hc => own_up (hp c hc), Nat.le_of_ble_eq_true rfl⟩
        refine own_byH (fun _ kS => XS.astore X177.here hx rfl (hb hby at_125) rfl rfl (l' := #[.val (.int p0), .val (.int p1), .val (.int p2), .val (.int p3), .val (.int (p0 &&& (3 : Int32))), .val (.int z71), .val (.int z73), .val (.int z75), .val (.ref b159), .unset, .unset]) rfl kS) ?_
        show own_ComesH Z p e below s _ _ _ (T177.setTop (mkF m 127 #[.val (.int p0), .val (.int p1), .val (.int p2), .val (.int p3), .val (.int (p0 &&& (3 : Int32))), .val (.int z71), .val (.int z73), .val (.int z75), .val (.ref b159), .unset, .unset] []))
        refine own_byH (fun _ kS => XS.aload X177.here hx rfl (hb hby at_127) rfl rfl kS) ?_
        show own_ComesH Z p e below s _ _ _ (T177.setTop (mkF m 129 #[.val (.int p0), .val (.int p1), .val (.int p2), .val (.int p3), .val (.int (p0 &&& (3 : Int32))), .val (.int z71), .val (.int z73), .val (.int z75), .val (.ref b159), .unset, .unset] [(.ref b159)]))
        obtain ⟨vv180, _, ⟨T180, L180, k180, n180⟩, -, X180, ⟨Lc180, hQ180, l180, y180, z180⟩, st180⟩ := Jvm.LawKit.callS X177 hx (y := (⟨"com/example/mixed_margins/mixedmargins/model/TimeUnit", "ofSymbol", "(Ljava/lang/String;)Ljava/util/Optional;"⟩ : MethodName)) hown75 (mvT hZ75 (hw _ (List.mem_of_getElem? (i := 26) rfl))) (mvT hZ75 (hw _ (List.mem_of_getElem? (i := 27) rfl))) (mvT hZ75 (hw _ (List.mem_of_getElem? (i := 28) rfl))) (mvT hZ75 (hw _ (List.mem_of_getElem? (i := 29) rfl))) (by decide) (backOf (W := 0) (rm5 l Z a0 hw [] b159 [z71, z73, z75] va kv u0 u1 u2 u3 y0 y1 y2 y3 em zc T177.heap n0 (Nat.le_trans (Nat.le_trans (Nat.le_trans (Nat.le_trans (Nat.le_trans (Nat.le_trans (Nat.le_trans (Nat.le_trans (Nat.le_trans Z0 E71.1) E73.1) E75.1) E159.1) E161.1) (Keep.of_wr W164).1) (Keep.of_wr W167).1) (Keep.of_wr W171).1) K177.1) (c176.keep K177 (allS g_b159 all0)) Sv Vv Ev Fs_u0 Ss_u0 Fs_u1 Ss_u1 Fs_u2 Ss_u2 Fs_u3 Ss_u3 Sm Em Fm Sz hzc hY) hZ75 (hw _ (List.mem_of_getElem? (i := 29) rfl)) (hw _ (List.mem_of_getElem? (i := 28) rfl)) (by decide) (by decide)) (g := (mkF m 129 #[.val (.int p0), .val (.int p1), .val (.int p2), .val (.int p3), .val (.int (p0 &&& (3 : Int32))), .val (.int z71), .val (.int z73), .val (.int z75), .val (.ref b159), .unset, .unset] [(.ref b159)])) rfl (by rw [hml]; rfl) (argsL := [(.ref b159)]) (rest := []) (lenOf pd__Ljava_lang_String__Ljava_util_Optional__717 rfl) rfl (by show 2 * 0 + _ ≤ _; exact Nat.le_of_eq rfl) (hb hby at_129) (fun _ _ => ⟨rfl, rfl, (by decide : 9 + 2 ≤ _), (by decide : 70 + 5 ≤ _)⟩)
        dsimp only [Pt.U, Pt.locs, Pt.cells, Pt.slots] at X180 l180 y180 z180 st180 hQ180
        subst l180 y180 z180
        obtain ⟨o180, rfl, N180q, E180, Eo180, Fo180⟩ := hQ180
        have N180 := Fr.app N177 N180q
        refine own_byH st180 ?_
        have CR181 := CHr.ext E180 CH178.1
        have CH181 := CH178.trans CR181
        show own_ComesH Z p e below s _ _ _ (T180.setTop (mkF m 132 #[.val (.int p0), .val (.int p1), .val (.int p2), .val (.int p3), .val (.int (p0 &&& (3 : Int32))), .val (.int z71), .val (.int z73), .val (.int z75), .val (.ref b159), .unset, .unset] [(.ref o180)]))
        rw [own_u3] at Fo180
        refine own_byH (fun _ kS => XS.aconstNull X180.here hx rfl (hb hby at_132) kS) ?_
        show own_ComesH Z p e below s _ _ _ (T180.setTop (mkF m 133 #[.val (.int p0), .val (.int p1), .val (.int p2), .val (.int p3), .val (.int (p0 &&& (3 : Int32))), .val (.int z71), .val (.int z73), .val (.int z75), .val (.ref b159), .unset, .unset] [.null, (.ref o180)]))
        obtain ⟨cq182, kq182, q182a, q182b, q182c⟩ := isOf hZ75 rfl Eo180
        obtain ⟨vv182, _, ⟨T182, L182, k182, n182⟩, -, X182, ⟨Lc182, hQ182, l182, y182, z182⟩, st182⟩ := X180.virtualBack hx (y := (⟨"java/util/Optional", "orElse", "(Ljava/lang/Object;)Ljava/lang/Object;"⟩ : MethodName)) (z := (⟨"java/util/Optional", "orElse", "(Ljava/lang/Object;)Ljava/lang/Object;"⟩ : MethodName)) hown75 (mvT hZ75 (hw _ (List.mem_of_getElem? (i := 67) rfl))) (mvT hZ75 (hw _ (List.mem_of_getElem? (i := 68) rfl))) (notFace_of_selects (args := #[]) (mvT hZ75 (hw _ (List.mem_of_getElem? (i := 70) rfl)))) (mvT hZ75 (hw _ (List.mem_of_getElem? (i := 70) rfl))) (mvT hZ75 (hw _ (List.mem_of_getElem? (i := 69) rfl))) (by decide) (backOf (W := 0) (rm10n l Z a0 hw [] o180 T180.heap n0 (Nat.le_trans (Nat.le_trans (Nat.le_trans (Nat.le_trans (Nat.le_trans (Nat.le_trans (Nat.le_trans (Nat.le_trans (Nat.le_trans (Nat.le_trans Z0 E71.1) E73.1) E75.1) E159.1) E161.1) (Keep.of_wr W164).1) (Keep.of_wr W167).1) (Keep.of_wr W171).1) K177.1) E180.1) Fo180) hZ75 (hw _ (List.mem_of_getElem? (i := 71) rfl)) (hw _ (List.mem_of_getElem? (i := 64) rfl)) (by decide) (by decide)) q182a q182c (g := (mkF m 133 #[.val (.int p0), .val (.int p1), .val (.int p2), .val (.int p3), .val (.int (p0 &&& (3 : Int32))), .val (.int z71), .val (.int z73), .val (.int z75), .val (.ref b159), .unset, .unset] [.null, (.ref o180)])) rfl (by rw [hml]; rfl) (Steps.refl _) (argsL := [.null]) (rest := []) (lenOf pd__Ljava_lang_Object__Ljava_lang_Object__418 rfl) rfl (by show 2 * 0 + _ ≤ _; exact Nat.le_of_eq rfl) (hb hby at_133) (fun _ _ => ⟨rfl, rfl, (by decide : 11 + 0 ≤ _), (by decide : 75 + 0 ≤ _)⟩)
        dsimp only [Pt.U, Pt.locs, Pt.cells, Pt.slots] at X182 l182 y182 z182 st182 hQ182
        subst l182 y182 z182
        obtain ⟨rfl, N182q, e182q⟩ := hQ182
        have N182 := Fr.app N180 N182q
        refine own_trH st182 ?_
        have e182 : T182.heap = T180.heap := e182q
        show own_ComesH Z p e below s _ _ _ (T182.setTop (mkF m 136 #[.val (.int p0), .val (.int p1), .val (.int p2), .val (.int p3), .val (.int (p0 &&& (3 : Int32))), .val (.int z71), .val (.int z73), .val (.int z75), .val (.ref b159), .unset, .unset] [.null]))
        refine own_byH (fun _ kS => X182.checkcastNull hx (g := (mkF m 136 #[.val (.int p0), .val (.int p1), .val (.int p2), .val (.int p3), .val (.int (p0 &&& (3 : Int32))), .val (.int z71), .val (.int z73), .val (.int z75), .val (.ref b159), .unset, .unset] [.null])) rfl rfl (hb hby at_136) _ kS) ?_
        show own_ComesH Z p e below s _ _ _ (T182.setTop (mkF m 139 #[.val (.int p0), .val (.int p1), .val (.int p2), .val (.int p3), .val (.int (p0 &&& (3 : Int32))), .val (.int z71), .val (.int z73), .val (.int z75), .val (.ref b159), .unset, .unset] [.null]))
        refine own_byH (fun _ kS => XS.astore X182.here hx rfl (hb hby at_139) rfl rfl (l' := #[.val (.int p0), .val (.int p1), .val (.int p2), .val (.int p3), .val (.int (p0 &&& (3 : Int32))), .val (.int z71), .val (.int z73), .val (.int z75), .val (.ref b159), .val .null, .unset]) rfl kS) ?_
        show own_ComesH Z p e below s _ _ _ (T182.setTop (mkF m 141 #[.val (.int p0), .val (.int p1), .val (.int p2), .val (.int p3), .val (.int (p0 &&& (3 : Int32))), .val (.int z71), .val (.int z73), .val (.int z75), .val (.ref b159), .val .null, .unset] []))
        refine own_byH (fun _ kS => XS.aconstNull X182.here hx rfl (hb hby at_141) kS) ?_
        show own_ComesH Z p e below s _ _ _ (T182.setTop (mkF m 142 #[.val (.int p0), .val (.int p1), .val (.int p2), .val (.int p3), .val (.int (p0 &&& (3 : Int32))), .val (.int z71), .val (.int z73), .val (.int z75), .val (.ref b159), .val .null, .unset] [.null]))
        refine own_byH (fun _ kS => XS.astore X182.here hx rfl (hb hby at_142) rfl rfl (l' := #[.val (.int p0), .val (.int p1), .val (.int p2), .val (.int p3), .val (.int (p0 &&& (3 : Int32))), .val (.int z71), .val (.int z73), .val (.int z75), .val (.ref b159), .val .null, .val .null]) rfl kS) ?_
        show own_ComesH Z p e below s _ _ _ (T182.setTop (mkF m 144 #[.val (.int p0), .val (.int p1), .val (.int p2), .val (.int p3), .val (.int (p0 &&& (3 : Int32))), .val (.int z71), .val (.int z73), .val (.int z75), .val (.ref b159), .val .null, .val .null] []))
        refine own_byH (fun _ kS => XS.iload X182.here hx rfl (hb hby at_144) rfl kS) ?_
        show own_ComesH Z p e below s _ _ _ (T182.setTop (mkF m 146 #[.val (.int p0), .val (.int p1), .val (.int p2), .val (.int p3), .val (.int (p0 &&& (3 : Int32))), .val (.int z71), .val (.int z73), .val (.int z75), .val (.ref b159), .val .null, .val .null] [(.int (p0 &&& (3 : Int32)))]))
        refine own_byH (fun _ kS => XS.iconst X182.here hx rfl (hb hby at_146) kS) ?_
        show own_ComesH Z p e below s _ _ _ (T182.setTop (mkF m 147 #[.val (.int p0), .val (.int p1), .val (.int p2), .val (.int p3), .val (.int (p0 &&& (3 : Int32))), .val (.int z71), .val (.int z73), .val (.int z75), .val (.ref b159), .val .null, .val .null] [(.int (1 : Int32)), (.int (p0 &&& (3 : Int32)))]))
        refine own_byH (fun _ kS => XS.icmpYes X182.here hx rfl (pc0 := 147) (pc' := 165) rfl (hb hby at_147) rfl (feq hl1).2 (by decide) (by decide) kS) ?_
        show own_ComesH Z p e below s _ _ _ (T182.setTop (mkF m 165 #[.val (.int p0), .val (.int p1), .val (.int p2), .val (.int p3), .val (.int (p0 &&& (3 : Int32))), .val (.int z71), .val (.int z73), .val (.int z75), .val (.ref b159), .val .null, .val .null] []))
        refine own_byH (fun _ kS => XS.iload X182.here hx rfl (hb hby at_165) rfl kS) ?_
        show own_ComesH Z p e below s _ _ _ (T182.setTop (mkF m 167 #[.val (.int p0), .val (.int p1), .val (.int p2), .val (.int p3), .val (.int (p0 &&& (3 : Int32))), .val (.int z71), .val (.int z73), .val (.int z75), .val (.ref b159), .val .null, .val .null] [(.int (p0 &&& (3 : Int32)))]))
        refine own_byH (fun _ kS => XS.iconst X182.here hx rfl (hb hby at_167) kS) ?_
        show own_ComesH Z p e below s _ _ _ (T182.setTop (mkF m 168 #[.val (.int p0), .val (.int p1), .val (.int p2), .val (.int p3), .val (.int (p0 &&& (3 : Int32))), .val (.int z71), .val (.int z73), .val (.int z75), .val (.ref b159), .val .null, .val .null] [(.int (2 : Int32)), (.int (p0 &&& (3 : Int32)))]))
        refine own_byH (fun _ kS => XS.icmpYes X182.here hx rfl (pc0 := 168) (pc' := 220) rfl (hb hby at_168) rfl (feq hl2).2 (by decide) (by decide) kS) ?_
        show own_ComesH Z p e below s _ _ _ (T182.setTop (mkF m 220 #[.val (.int p0), .val (.int p1), .val (.int p2), .val (.int p3), .val (.int (p0 &&& (3 : Int32))), .val (.int z71), .val (.int z73), .val (.int z75), .val (.ref b159), .val .null, .val .null] []))
        refine own_byH (fun _ kS => XS.aload X182.here hx rfl (hb hby at_220) rfl rfl kS) ?_
        show own_ComesH Z p e below s _ _ _ (T182.setTop (mkF m 222 #[.val (.int p0), .val (.int p1), .val (.int p2), .val (.int p3), .val (.int (p0 &&& (3 : Int32))), .val (.int z71), .val (.int z73), .val (.int z75), .val (.ref b159), .val .null, .val .null] [.null]))
        refine own_byH (fun _ kS => XS.aload X182.here hx rfl (hb hby at_222) rfl rfl kS) ?_
        show own_ComesH Z p e below s _ _ _ (T182.setTop (mkF m 224 #[.val (.int p0), .val (.int p1), .val (.int p2), .val (.int p3), .val (.int (p0 &&& (3 : Int32))), .val (.int z71), .val (.int z73), .val (.int z75), .val (.ref b159), .val .null, .val .null] [.null, .null]))
        refine own_byH (fun _ kS => Jvm.RoadKit.acmp (g := (mkF m 224 #[.val (.int p0), .val (.int p1), .val (.int p2), .val (.int p3), .val (.int (p0 &&& (3 : Int32))), .val (.int z71), .val (.int z73), .val (.int z75), .val (.ref b159), .val .null, .val .null] [.null, .null])) X182 hx rfl rfl rfl (pc0 := 224) (pc' := 227) (same := true) rfl (hb hby at_224) rfl (decide_eq_true rfl) (by decide) (by decide) kS) ?_
        show own_ComesH Z p e below s _ _ _ (T182.setTop (mkF m 227 #[.val (.int p0), .val (.int p1), .val (.int p2), .val (.int p3), .val (.int (p0 &&& (3 : Int32))), .val (.int z71), .val (.int z73), .val (.int z75), .val (.ref b159), .val .null, .val .null] []))
        refine own_byH (fun _ kS => XS.iconst X182.here hx rfl (hb hby at_227) kS) ?_
        show own_ComesH Z p e below s _ _ _ (T182.setTop (mkF m 228 #[.val (.int p0), .val (.int p1), .val (.int p2), .val (.int p3), .val (.int (p0 &&& (3 : Int32))), .val (.int z71), .val (.int z73), .val (.int z75), .val (.ref b159), .val .null, .val .null] [(.int (1 : Int32))]))
        refine own_byH (fun _ kS => XS.goto X182.here hx rfl (pc0 := 228) (pc' := 232) rfl (hb hby at_228) (by decide) (by decide) kS) ?_
        show own_ComesH Z p e below s _ _ _ (T182.setTop (mkF m 232 #[.val (.int p0), .val (.int p1), .val (.int p2), .val (.int p3), .val (.int (p0 &&& (3 : Int32))), .val (.int z71), .val (.int z73), .val (.int z75), .val (.ref b159), .val .null, .val .null] [(.int (1 : Int32))]))
        have hkr183 := (Nat.le_trans (Nat.le_trans (Nat.le_trans (Nat.le_trans (Nat.le_trans (Nat.le_trans (Nat.le_trans (Nat.le_refl (Array.size T75.heap)) E159.1) E161.1) (Keep.of_wr W164).1) (Keep.of_wr W167).1) (Keep.of_wr W171).1) K177.1) E180.1)
        have hcr183 := CH181.trans (CHv.at X182 hZ75 hEL CH181.1)
        refine own_retH X182 hS75 (by rw [e182]; exact hkr183) (by rw [hh]; rw [e182]; exact hcr183) (v := some (.int (1 : Int32))) (fun h => by rw [Bd.returns] at h; cases h) Bd.notSynchronized (by decide) (by decide) ?_ (fun fs hr => retN X182 hx (t := .boolean) Bd.returns (by simp) (hb hby at_232) hr)
        rw [e182]; exact ⟨rfl, N182⟩
theorem own_len {t : Term} {args : Array Value} {s : State} {a : Addr} {c : Cell} {ty : FieldType} {k : Int32} (et : t.eval args s none [] s = some (.ref a)) (A : Arr s s.heap a c ty) (h : (Term.length t).eval args s none [] s = some (.int k)) : c.slots.size < 2 ^ 31 ∧ c.slots.size.toInt32 = k := by
  have hA := A.fin (Vm.Alike.refl _)
  by_cases q : c.slots.size < 2 ^ 31
  · exact ⟨q, Value.int.inj (Option.some.inj ((len_f et hA q).symm.trans h))⟩
  · simp [Term.eval, et, hA, q] at h
theorem own_eqr {args : Array Value} {Z : State} {X F : Term} {y : Addr} (hF : F.eval args Z none [] Z = some (.ref y)) (h : (Cond.eq X F).value args Z none Z [] = some true) : X.eval args Z none [] Z = some (.ref y) := by
  simp only [Cond.value] at h
  cases ht : X.eval args Z none [] Z with
  | none => simp [ht] at h
  | some z => cases z <;> simp_all
theorem own_at {args : Array Value} {Z : State} {t : Term} {a : Addr} {c : Cell} {ty : FieldType} {j : Int32} {v : Value} (et : t.eval args Z none [] Z = some (.ref a)) (A : Arr Z Z.heap a c ty) (h : (Term.elem t (Term.int j)).eval args Z none [] Z = some v) : c.slots[j.toNatClampNeg]? = some v := (elem_in h et (Term.int_eval j) A.1).2

set_option maxRecDepth 65536 in
set_option maxHeartbeats 40000000 in
theorem comes_1 {Post : Tables → Env → Array Value → State → Outcome → State → Prop} (hpost : ∀ tb e args s v u, (limb_1_1.after args s (.returned v) u = true ∧ limb_1_2.after args s (.returned v) u = true ∧ True) → ReturnedEndW s (.returned v) u (Jvm.fieldLocs frame_1_writes args s ++ Jvm.arrayLocs frame_1_arrays args s ++ Jvm.staticLocs frame_1_statics s) 24 2176 → Post tb e args s (.returned v) u) :
    ArmFor flags0 classFile x code maxLocals ret World_1 tables_1 room_1 Calls_1 rest_1 Pre_1 Post := by
  intro l hfl _ _ p e ha hc hk s m args below hf hA hF happ hP
  obtain ⟨hcalls, hrest, hpre⟩ := hP
  obtain ⟨-, -, -, hnamed, -, -, -, hat⟩ := (Spec.applies_iff hf).mp happ
  obtain ⟨hg, hn⟩ := and_e (Cond.before_iff.mp (show (Jvm.Cond.and given_1 narrow_1).before args s = true from hpre))
  obtain ⟨hcount, hk0⟩ := and_e hg
  obtain ⟨ha0, hk1⟩ := and_e hk0
  obtain ⟨ha1, hk2⟩ := and_e hk1
  obtain ⟨ha2, hk3⟩ := and_e hk2
  have ha3 := hk3
  obtain ⟨w0, w1, w2, w3, rfl⟩ : ∃ w0 w1 w2 w3 : Value, args = #[w0, w1, w2, w3] := by
    have hs : args.size = 4 := by simpa [Cond.value, given_1] using hcount
    obtain ⟨L⟩ := args
    match L, hs with
    | [w0, w1, w2, w3], _ => exact ⟨w0, w1, w2, w3, rfl⟩
  have hw := fun d (hd : d ∈ tables_1) => atoms_spec (ws := Jvm.Cond.code x code maxLocals ret :: tables_1) hat d (List.mem_cons_of_mem _ hd)
  have hfit : Fit s := fun {y c} hc i hi => by
    obtain ⟨ha, rfl⟩ := Array.getElem?_eq_some_iff.mp hc
    have q := List.all_eq_true.mp ((Array.all_eq_true_iff_forall_mem.mp hF) _ (Array.getElem_mem ha)) i (List.mem_range.mpr hi)
    simpa [Array.getElem?_eq_getElem hi] using q
  obtain ⟨hsets, hown0⟩ := atoms_of _ (rest_1_c_eq ▸ (show rest_1_c.before _ s = true from hrest))
  obtain ⟨i0, ei0⟩ := is_v ha0
  obtain rfl : w0 = (.int i0) := Option.some.inj ei0
  obtain ⟨i1, ei1⟩ := is_v ha1
  obtain rfl : w1 = (.int i1) := Option.some.inj ei1
  obtain ⟨i2, ei2⟩ := is_v ha2
  obtain rfl : w2 = (.int i2) := Option.some.inj ei2
  obtain ⟨i3, ei3⟩ := is_v ha3
  obtain rfl : w3 = (.int i3) := Option.some.inj ei3
  have hnn0 := hn
  obtain ⟨c_0, hnn1⟩ := and_e hnn0
  obtain ⟨c_1, hnn2⟩ := and_e hnn1
  obtain ⟨c_2, hnn3⟩ := and_e hnn2
  obtain ⟨c_3, hnn4⟩ := and_e hnn3
  obtain ⟨c_4, hnn5⟩ := and_e hnn4
  obtain ⟨c_5, hnn6⟩ := and_e hnn5
  obtain ⟨c_6, hnn7⟩ := and_e hnn6
  obtain ⟨c_7, hnn8⟩ := and_e hnn7
  obtain ⟨c_8, hnn9⟩ := and_e hnn8
  obtain ⟨c_9, hnn10⟩ := and_e hnn9
  obtain ⟨c_10, hnn11⟩ := and_e hnn10
  obtain ⟨c_11, hnn12⟩ := and_e hnn11
  obtain ⟨c_12, hnn13⟩ := and_e hnn12
  obtain ⟨c_13, hnn14⟩ := and_e hnn13
  obtain ⟨c_14, hnn15⟩ := and_e hnn14
  obtain ⟨c_15, hnn16⟩ := and_e hnn15
  obtain ⟨c_16, hnn17⟩ := and_e hnn16
  obtain ⟨c_17, hnn18⟩ := and_e hnn17
  obtain ⟨c_18, hnn19⟩ := and_e hnn18
  obtain ⟨c_19, hnn20⟩ := and_e hnn19
  obtain ⟨c_20, hnn21⟩ := and_e hnn20
  obtain ⟨c_21, hnn22⟩ := and_e hnn21
  obtain ⟨c_22, hnn23⟩ := and_e hnn22
  obtain ⟨c_23, hnn24⟩ := and_e hnn23
  obtain ⟨c_24, hnn25⟩ := and_e hnn24
  obtain ⟨c_25, hnn26⟩ := and_e hnn25
  obtain ⟨c_26, hnn27⟩ := and_e hnn26
  obtain ⟨c_27, hnn28⟩ := and_e hnn27
  obtain ⟨c_28, hnn29⟩ := and_e hnn28
  obtain ⟨c_29, hnn30⟩ := and_e hnn29
  obtain ⟨c_30, hnn31⟩ := and_e hnn30
  obtain ⟨c_31, hnn32⟩ := and_e hnn31
  obtain ⟨c_32, hnn33⟩ := and_e hnn32
  have c_33 := hnn33
  obtain ⟨va, eva⟩ := arr_v c_0
  have Sv := Sta.start eva (Or.inr ⟨(hw _ (List.mem_of_getElem? (i := 28) rfl)), (hw _ (List.mem_of_getElem? (i := 34) rfl))⟩)
  have Ev := Exa.start eva c_1
  obtain ⟨cv, Av⟩ := Arr.start eva c_0
  obtain ⟨qv1, qv2⟩ := own_len eva Av (eqv_i (Term.int_eval (4)) c_2)
  obtain ⟨u0, eu0⟩ := exa_v c_3
  have St_u0 := Sta.start eu0 (Or.inr ⟨(hw _ (List.mem_of_getElem? (i := 28) rfl)), (hw _ (List.mem_of_getElem? (i := 42) rfl))⟩)
  have Eu_u0 := Exa.start eu0 c_3
  have el0 := own_at eva Av (own_eqr eu0 c_4)
  obtain ⟨u1, eu1⟩ := exa_v c_5
  have St_u1 := Sta.start eu1 (Or.inr ⟨(hw _ (List.mem_of_getElem? (i := 28) rfl)), (hw _ (List.mem_of_getElem? (i := 43) rfl))⟩)
  have Eu_u1 := Exa.start eu1 c_5
  have el1 := own_at eva Av (own_eqr eu1 c_6)
  obtain ⟨u2, eu2⟩ := exa_v c_7
  have St_u2 := Sta.start eu2 (Or.inr ⟨(hw _ (List.mem_of_getElem? (i := 28) rfl)), (hw _ (List.mem_of_getElem? (i := 44) rfl))⟩)
  have Eu_u2 := Exa.start eu2 c_7
  have el2 := own_at eva Av (own_eqr eu2 c_8)
  obtain ⟨u3, eu3⟩ := exa_v c_9
  have St_u3 := Sta.start eu3 (Or.inr ⟨(hw _ (List.mem_of_getElem? (i := 28) rfl)), (hw _ (List.mem_of_getElem? (i := 45) rfl))⟩)
  have Eu_u3 := Exa.start eu3 c_9
  have el3 := own_at eva Av (own_eqr eu3 c_10)
  have Vv := Arv.start (dv := .null) (vs := [(.ref u0), (.ref u1), (.ref u2), (.ref u3)]) hfit Av qv1 qv2 (by decide) rfl ⟨el0, el1, el2, el3, trivial⟩
  obtain ⟨y0, ey0⟩ := exa_v c_11
  have Fs_u0 := Fld.start ((fld_at eu0).symm.trans ey0)
  have Ey_y0 := Exa.start ey0 c_11
  have Cy_y0 := Fld.start ((fld_at ey0).symm.trans (eqv_i (Term.int_eval (0)) c_12))
  obtain ⟨t_y0, et_y0⟩ := arr_v c_13
  have Vy_y0 := Fld.start ((fld_at ey0).symm.trans et_y0)
  obtain ⟨cy_y0, Ay_y0⟩ := Arr.start et_y0 c_13
  obtain ⟨q1_y0, q2_y0⟩ := own_len et_y0 Ay_y0 (eqv_i (Term.int_eval (1)) c_14)
  have b0_y0 := own_at et_y0 Ay_y0 (eqv_i (Term.int_eval (115)) c_30)
  have Wy_y0 := Arv.start (dv := .int 0) (vs := [(.int (115 : Int32))]) hfit Ay_y0 q1_y0 q2_y0 (by decide) rfl ⟨b0_y0, trivial⟩
  have Ss_u0 : own_Str s s.heap y0 [115] := ⟨Ey_y0, t_y0, _, _, _, Vy_y0, Cy_y0, Wy_y0, Or.inl ⟨rfl, rfl, rfl, by decide⟩, by decide, by decide⟩
  obtain ⟨y1, ey1⟩ := exa_v c_15
  have Fs_u1 := Fld.start ((fld_at eu1).symm.trans ey1)
  have Ey_y1 := Exa.start ey1 c_15
  have Cy_y1 := Fld.start ((fld_at ey1).symm.trans (eqv_i (Term.int_eval (0)) c_16))
  obtain ⟨t_y1, et_y1⟩ := arr_v c_17
  have Vy_y1 := Fld.start ((fld_at ey1).symm.trans et_y1)
  obtain ⟨cy_y1, Ay_y1⟩ := Arr.start et_y1 c_17
  obtain ⟨q1_y1, q2_y1⟩ := own_len et_y1 Ay_y1 (eqv_i (Term.int_eval (2)) c_18)
  have b0_y1 := own_at et_y1 Ay_y1 (eqv_i (Term.int_eval (109)) c_27)
  have b1_y1 := own_at et_y1 Ay_y1 (eqv_i (Term.int_eval (115)) c_31)
  have Wy_y1 := Arv.start (dv := .int 0) (vs := [(.int (109 : Int32)), (.int (115 : Int32))]) hfit Ay_y1 q1_y1 q2_y1 (by decide) rfl ⟨b0_y1, b1_y1, trivial⟩
  have Ss_u1 : own_Str s s.heap y1 [109, 115] := ⟨Ey_y1, t_y1, _, _, _, Vy_y1, Cy_y1, Wy_y1, Or.inl ⟨rfl, rfl, rfl, by decide⟩, by decide, by decide⟩
  obtain ⟨y2, ey2⟩ := exa_v c_19
  have Fs_u2 := Fld.start ((fld_at eu2).symm.trans ey2)
  have Ey_y2 := Exa.start ey2 c_19
  have Cy_y2 := Fld.start ((fld_at ey2).symm.trans (eqv_i (Term.int_eval (0)) c_20))
  obtain ⟨t_y2, et_y2⟩ := arr_v c_21
  have Vy_y2 := Fld.start ((fld_at ey2).symm.trans et_y2)
  obtain ⟨cy_y2, Ay_y2⟩ := Arr.start et_y2 c_21
  obtain ⟨q1_y2, q2_y2⟩ := own_len et_y2 Ay_y2 (eqv_i (Term.int_eval (2)) c_22)
  have b0_y2 := own_at et_y2 Ay_y2 (eqv_i (Term.int_eval (117)) c_28)
  have b1_y2 := own_at et_y2 Ay_y2 (eqv_i (Term.int_eval (115)) c_33)
  have Wy_y2 := Arv.start (dv := .int 0) (vs := [(.int (117 : Int32)), (.int (115 : Int32))]) hfit Ay_y2 q1_y2 q2_y2 (by decide) rfl ⟨b0_y2, b1_y2, trivial⟩
  have Ss_u2 : own_Str s s.heap y2 [117, 115] := ⟨Ey_y2, t_y2, _, _, _, Vy_y2, Cy_y2, Wy_y2, Or.inl ⟨rfl, rfl, rfl, by decide⟩, by decide, by decide⟩
  obtain ⟨y3, ey3⟩ := exa_v c_23
  have Fs_u3 := Fld.start ((fld_at eu3).symm.trans ey3)
  have Ey_y3 := Exa.start ey3 c_23
  have Cy_y3 := Fld.start ((fld_at ey3).symm.trans (eqv_i (Term.int_eval (0)) c_24))
  obtain ⟨t_y3, et_y3⟩ := arr_v c_25
  have Vy_y3 := Fld.start ((fld_at ey3).symm.trans et_y3)
  obtain ⟨cy_y3, Ay_y3⟩ := Arr.start et_y3 c_25
  obtain ⟨q1_y3, q2_y3⟩ := own_len et_y3 Ay_y3 (eqv_i (Term.int_eval (2)) c_26)
  have b0_y3 := own_at et_y3 Ay_y3 (eqv_i (Term.int_eval (110)) c_29)
  have b1_y3 := own_at et_y3 Ay_y3 (eqv_i (Term.int_eval (115)) c_32)
  have Wy_y3 := Arv.start (dv := .int 0) (vs := [(.int (110 : Int32)), (.int (115 : Int32))]) hfit Ay_y3 q1_y3 q2_y3 (by decide) rfl ⟨b0_y3, b1_y3, trivial⟩
  have Ss_u3 : own_Str s s.heap y3 [110, 115] := ⟨Ey_y3, t_y3, _, _, _, Vy_y3, Cy_y3, Wy_y3, Or.inl ⟨rfl, rfl, rfl, by decide⟩, by decide, by decide⟩
  obtain ⟨em, eem⟩ := exa_v (Cond.before_iff.mp (hsets _ (List.mem_of_getElem? (i := 11) rfl)))
  have Sm := Sta.start eem (Or.inl (hsets _ (List.mem_of_getElem? (i := 10) rfl)))
  have Em := Exa.start eem (Cond.before_iff.mp (hsets _ (List.mem_of_getElem? (i := 11) rfl)))
  have Fm := Fld.start ((fld_at eem).symm.trans (null_v (Cond.before_iff.mp (hsets _ (List.mem_of_getElem? (i := 12) rfl)))))
  obtain ⟨zc, ezc⟩ := is_v (Cond.before_iff.mp (hsets _ (List.mem_of_getElem? (i := 1) rfl)))
  have Sz := Sta.start ezc (Or.inl (hsets _ (List.mem_of_getElem? (i := 0) rfl)))
  have hzc : ¬ zc = 0 := gotF (Cond.eq_ints ezc (Term.int_eval (0))) (not_v (Cond.before_iff.mp (hsets _ (List.mem_of_getElem? (i := 2) rfl))))
  obtain ⟨fm, efm, rf⟩ := isR_v (Cond.before_iff.mp (hsets _ (List.mem_of_getElem? (i := 8) rfl)))
  have Sf := Sta.start efm (Or.inl (hsets _ (List.mem_of_getElem? (i := 7) rfl)))
  have hCH : CHv s own_EL s.vm s.heap := CHv.start (own_EW hw) (fun pp hpp => hcalls.1 pp (by have q := hpp; simp only [own_EL, consts_1, List.mem_cons, List.not_mem_nil, or_false] at q ⊢; exact q)) (hsets _ (List.mem_of_getElem? (i := 2) rfl)) (hw _ (List.mem_of_getElem? (i := 19) rfl)) (hw _ (List.mem_of_getElem? (i := 5) rfl))
  obtain ⟨n, o, h1, h2, h3, _, L, rfl, ⟨rfl, N⟩, _, hq⟩ := rm0 l s _ hw tables_1 i0 i1 i2 i3 va _ u0 u1 u2 u3 y0 y1 y2 y3 em zc fm s.heap s.heap.size (Nat.le_refl _) (Old.start s) Sv Vv Ev St_u0 Eu_u0 St_u1 Eu_u1 St_u2 Eu_u2 St_u3 Eu_u3 Fs_u0 Ss_u0 Fs_u1 Ss_u1 Fs_u2 Ss_u2 Fs_u3 Ss_u3 Sm Em Fm Sz hzc Sf rf p e ha hc hk s m _ below hf ((Spec.applies_iff_loose hf).mp happ).1 ⟨rfl, State.Warmed39.refl s, rfl, hCH⟩ trivial
  refine ⟨n, _, h1, h2, h3, hpost _ _ _ _ _ _ ⟨Cond.after_iff.mpr rfl, Cond.after_iff.mpr (eq_i res_at (Term.int_eval (1)) rfl), trivial⟩ ⟨hq.1, hq.2.1, hq.2.2.1, (hq.2.2.2.sift fun y hy => Or.inr (N y hy)).mono (by decide) (by decide)⟩⟩
theorem main_1_1 : Claimed_1_1 := comes_1 fun _ _ _ _ _ _ h hF => ⟨h.1, hF⟩
theorem main_1_2 : Claimed_1_2 := comes_1 fun _ _ _ _ _ _ h hF => ⟨h.2.1, hF⟩
end Jvm.Pilot.@@N@@
namespace Jvm.Pilot.@@N@@
open Jvm Jvm.ClassFile Sem Op Lib Jvm.Free Jvm.Stand Jvm.Pilot.@@N@@.Jvm.D
/-! MADE BY PROGRAM (witnessworld.py) out of the Statement's table words and the real class files: 23 classes; the members and pool entries that the words name. The judged class is class 1, her method 1. -/
namespace start1
open Jvm.ClassFile
def u (s : String) : CpInfo := .utf8 (stringToUtf16 s)
/-- a pool by its gaps: so many unusable entries, then the entry; so many at the end -/
def gap : Nat → List CpInfo → List CpInfo
  | 0, r => r
  | n + 1, r => .unusable :: gap n r
def poolList (es : List (Nat × CpInfo)) (last : Nat) : List CpInfo := es.foldr (fun e r => gap e.1 (e.2 :: r)) (gap last [])
def pool (es : List (Nat × CpInfo)) (last : Nat) : Array CpInfo := ⟨poolList es last⟩
def fileOf (pool : Array CpInfo) (this : Nat) (attrs : Array Attribute := #[]) (ms : Array MethodInfo := #[]) (fl : Nat := 33) (sup : Nat := 0) (ifs : Array Nat := #[]) (fds : Array FieldInfo := #[]) : ClassFile where
  minorVersion := 0
  majorVersion := 65
  constantPool := pool
  accessFlags := fl
  thisClass := this
  superClass := sup
  interfaces := ifs
  fields := fds
  methods := ms
  attributes := attrs
def plain (name : String) (sup : Option ClassId) : Class where
  name := name
  kind := .ordinary
  loader := none
  accessFlags := 33
  super := sup
  interfaces := #[]
  cf := none
  fields := #[]
  methods := #[]
  instanceTypes := #[]
  staticTypes := #[]
  resolved := #[]
  callSites := []
  init := .initialized
  statics := none
  mirror := none

def pool0 : Array CpInfo := pool [(5, u "<init>"), (0, u "()V"), (1, .class_ 10), (1, u "java/lang/Object"), (85, u "clone"), (0, u "()Ljava/lang/Object;")] 26

def k0c0 : Code := { maxStack := 0, maxLocals := 1, code := object_method_1_code, exceptionTable := #[], attributes := #[] }
def k0m0 : Method := { name := "<init>", desc := "()V", sig := { parameters := [], returnType := none }, accessFlags := 1, code := some k0c0 }
def k0m1 : Method := { name := "clone", desc := "()Ljava/lang/Object;", sig := { parameters := [], returnType := some (.object "java/lang/Object") }, accessFlags := 260, code := none }
/-- java/lang/Object -/
def k0 : Class := { plain "java/lang/Object" none with
  accessFlags := 33
  interfaces := #[]
  cf := some (fileOf pool0 8 #[] #[{ accessFlags := 1, nameIndex := 5, descriptorIndex := 6, attributes := #[] }, { accessFlags := 260, nameIndex := 96, descriptorIndex := 97, attributes := #[] }] 33 0 #[] #[])
  fields := #[]
  methods := #[k0m0, k0m1]
  instanceTypes := #[]
  staticTypes := #[]
  resolved := Array.replicate 124 none
  statics := none }

def pool1 : Array CpInfo := pool [(2, .class_ 4), (1, u "java/lang/Object"), (0, u "<init>"), (0, u "()V"), (0, .methodref 8 9), (0, .class_ 10), (0, .nameAndType 11 12), (0, u "com/example/mixed_margins/mixedmargins/model/TimeUnitOfSymbolPinLaw"), (0, u "pick"), (0, u "(I)C"), (0, .class_ 14), (0, u "java/lang/String"), (0, .methodref 13 16), (0, .nameAndType 5 17), (0, u "([C)V"), (0, .methodref 19 20), (0, .class_ 21), (0, .nameAndType 22 23), (0, u "com/example/mixed_margins/mixedmargins/model/TimeUnit"), (0, u "ofSymbol"), (0, u "(Ljava/lang/String;)Ljava/util/Optional;"), (0, .methodref 25 26), (0, .class_ 27), (0, .nameAndType 28 29), (0, u "java/util/Optional"), (0, u "orElse"), (0, u "(Ljava/lang/Object;)Ljava/lang/Object;"), (0, .fieldref 19 31), (0, .nameAndType 32 33), (0, u "SECONDS"), (0, u "Lcom/example/mixed_margins/mixedmargins/model/TimeUnit;"), (0, .fieldref 19 35), (0, .nameAndType 36 33), (0, u "MILLISECONDS"), (0, .fieldref 19 38), (0, .nameAndType 39 33), (0, u "MICROSECONDS"), (0, .fieldref 19 41), (0, .nameAndType 42 33), (0, u "NANOSECONDS"), (0, .string 44), (0, u "smun"), (0, .methodref 13 46), (0, .nameAndType 47 12), (0, u "charAt"), (2, u "law"), (0, u "(IIII)Z")] 3

def k1m0 : Method := { name := "<init>", desc := "()V", sig := { parameters := [], returnType := none }, accessFlags := 1, code := none }
def k1c1 : Code := { maxStack := 6, maxLocals := 11, code := code, exceptionTable := #[], attributes := #[] }
def k1m1 : Method := { name := "law", desc := "(IIII)Z", sig := { parameters := [.int, .int, .int, .int], returnType := some .boolean }, accessFlags := 9, code := some k1c1 }
def k1c2 : Code := { maxStack := 3, maxLocals := 1, code := method_3_code, exceptionTable := #[], attributes := #[] }
def k1m2 : Method := { name := "pick", desc := "(I)C", sig := { parameters := [.int], returnType := some .char }, accessFlags := 10, code := some k1c2 }
/-- com/example/mixed_margins/mixedmargins/model/TimeUnitOfSymbolPinLaw -/
def k1 : Class := { plain "com/example/mixed_margins/mixedmargins/model/TimeUnitOfSymbolPinLaw" (some 0) with
  accessFlags := 49
  interfaces := #[]
  cf := some (fileOf pool1 8 #[] #[{ accessFlags := 1, nameIndex := 5, descriptorIndex := 6, attributes := #[] }, { accessFlags := 9, nameIndex := 50, descriptorIndex := 51, attributes := #[] }, { accessFlags := 10, nameIndex := 11, descriptorIndex := 12, attributes := #[] }] 49 2 #[] #[])
  fields := #[]
  methods := #[k1m0, k1m1, k1m2]
  instanceTypes := #[]
  staticTypes := #[]
  resolved := Array.replicate 55 none
  statics := none }

def pool2 : Array CpInfo := pool [(1, .class_ 2), (0, u "java/io/Serializable"), (0, .class_ 4), (0, u "java/lang/Object")] 2

/-- java/io/Serializable -/
def k2 : Class := { plain "java/io/Serializable" (some 0) with
  accessFlags := 1537
  interfaces := #[]
  cf := some (fileOf pool2 1 #[] #[] 1537 3 #[] #[])
  fields := #[]
  methods := #[]
  instanceTypes := #[]
  staticTypes := #[]
  resolved := Array.replicate 7 none
  statics := none }

def pool3 : Array CpInfo := pool [(1, .class_ 2), (0, u "java/lang/Comparable"), (0, .class_ 4), (0, u "java/lang/Object")] 7

/-- java/lang/Comparable -/
def k3 : Class := { plain "java/lang/Comparable" (some 0) with
  accessFlags := 1537
  interfaces := #[]
  cf := some (fileOf pool3 1 #[] #[] 1537 3 #[] #[])
  fields := #[]
  methods := #[]
  instanceTypes := #[]
  staticTypes := #[]
  resolved := Array.replicate 12 none
  statics := none }

def pool4 : Array CpInfo := pool [(2, .class_ 4), (1, u "java/lang/CharSequence"), (42, .class_ 48), (0, u "java/lang/CharSequence$1CodePointIterator"), (10, .class_ 60), (0, u "java/lang/CharSequence$1CharIterator"), (5, .class_ 67), (0, u "java/lang/Object")] 63

/-- java/lang/CharSequence -/
def k4 : Class := { plain "java/lang/CharSequence" (some 0) with
  accessFlags := 1537
  interfaces := #[]
  cf := some (fileOf pool4 2 #[.nestMembers #[47, 59]] #[] 1537 66 #[] #[])
  fields := #[]
  methods := #[]
  instanceTypes := #[]
  staticTypes := #[]
  resolved := Array.replicate 131 none
  statics := none }

def pool5 : Array CpInfo := pool [(1, .class_ 2), (0, u "java/lang/constant/Constable"), (0, .class_ 4), (0, u "java/lang/Object")] 6

/-- java/lang/constant/Constable -/
def k5 : Class := { plain "java/lang/constant/Constable" (some 0) with
  accessFlags := 1537
  interfaces := #[]
  cf := some (fileOf pool5 1 #[] #[] 1537 3 #[] #[])
  fields := #[]
  methods := #[]
  instanceTypes := #[]
  staticTypes := #[]
  resolved := Array.replicate 11 none
  statics := none }

def pool6 : Array CpInfo := pool [(1, .class_ 2), (0, u "java/lang/constant/ConstantDesc"), (0, .class_ 4), (0, u "java/lang/Object")] 32

/-- java/lang/constant/ConstantDesc -/
def k6 : Class := { plain "java/lang/constant/ConstantDesc" (some 0) with
  accessFlags := 1537
  interfaces := #[]
  cf := some (fileOf pool6 1 #[] #[] 1537 3 #[] #[])
  fields := #[]
  methods := #[]
  instanceTypes := #[]
  staticTypes := #[]
  resolved := Array.replicate 37 none
  statics := none }

def pool7 : Array CpInfo := pool [(1, .methodref 2 3), (0, .class_ 4), (0, .nameAndType 5 6), (0, u "java/lang/Object"), (0, u "<init>"), (0, u "()V"), (0, .string 8), (0, u ""), (0, .fieldref 10 11), (0, .class_ 12), (0, .nameAndType 13 14), (0, u "java/lang/String"), (0, u "value"), (0, u "[B"), (0, .fieldref 10 16), (0, .nameAndType 17 18), (0, u "coder"), (0, u "B"), (2, u "hash"), (0, u "I"), (2, u "hashIsZero"), (0, u "Z"), (0, .methodref 10 28), (0, .nameAndType 5 29), (0, u "([CIILjava/lang/Void;)V"), (8, .fieldref 10 39), (0, .nameAndType 40 26), (0, u "COMPACT_STRINGS"), (1, .class_ 44), (1, u "java/lang/StringUTF16"), (0, u "compress"), (1, .methodref 42 48), (0, .nameAndType 49 50), (0, u "coderFromArrayLen"), (0, u "([BI)B"), (56, .class_ 109), (1, u "java/lang/StringLatin1"), (32, u "()Z"), (34, .methodref 42 178), (0, .nameAndType 45 179), (0, u "([CII)[B"), (183, u "([BI)C"), (27, u "(II)V"), (35, u "(I)C"), (64, .methodref 10 493), (0, .nameAndType 494 142), (0, u "isLatin1"), (0, .methodref 107 496), (0, .nameAndType 497 363), (0, u "charAt"), (3, u "checkIndex"), (39, .methodref 107 542), (0, .nameAndType 543 544), (0, u "equals"), (0, u "([B[B)Z"), (28, u "(Ljava/lang/Object;)Z"), (1, .class_ 576), (0, u "java/lang/CharSequence"), (22, u "CASE_INSENSITIVE_ORDER"), (0, u "Ljava/util/Comparator;"), (409, u "([C)V"), (42, .fieldref 1054 1055), (0, .class_ 1056), (0, .nameAndType 1057 1058), (0, u "jdk/internal/util/Preconditions"), (0, u "SIOOBE_FORMATTER"), (0, u "Ljava/util/function/BiFunction;"), (0, .methodref 1054 1060), (0, .nameAndType 501 1061), (0, u "(IILjava/util/function/BiFunction;)I"), (39, u "serialPersistentFields"), (0, u "[Ljava/io/ObjectStreamField;"), (0, .class_ 1104), (0, u "java/lang/String$CaseInsensitiveComparator"), (1, .class_ 1107), (0, u "java/io/Serializable"), (0, .class_ 1109), (0, u "java/lang/Comparable"), (0, .class_ 1111), (0, u "java/lang/constant/Constable"), (0, .class_ 1113), (0, u "java/lang/constant/ConstantDesc"), (2, u "serialVersionUID"), (0, u "J"), (3, u "REPL"), (0, u "C"), (2, u "LATIN1"), (1, u "UTF16")] 323

def k7m0 : Method := { name := "<init>", desc := "()V", sig := { parameters := [], returnType := none }, accessFlags := 1, code := none }
def k7c1 : Code := { maxStack := 5, maxLocals := 2, code := jdk_42_method_3_code, exceptionTable := #[], attributes := #[] }
def k7m1 : Method := { name := "<init>", desc := "([C)V", sig := { parameters := [(.array .char)], returnType := none }, accessFlags := 1, code := some k7c1 }
def k7c2 : Code := { maxStack := 2, maxLocals := 2, code := jdk_42_method_56_code, exceptionTable := #[], attributes := #[] }
def k7m2 : Method := { name := "charAt", desc := "(I)C", sig := { parameters := [.int], returnType := some .char }, accessFlags := 1, code := some k7c2 }
def k7c3 : Code := { maxStack := 2, maxLocals := 3, code := jdk_42_method_66_code, exceptionTable := #[], attributes := #[] }
def k7m3 : Method := { name := "equals", desc := "(Ljava/lang/Object;)Z", sig := { parameters := [(.object "java/lang/Object")], returnType := some .boolean }, accessFlags := 1, code := some k7c3 }
def k7c4 : Code := { maxStack := 4, maxLocals := 6, code := jdk_42_method_149_code, exceptionTable := #[], attributes := #[] }
def k7m4 : Method := { name := "<init>", desc := "([CIILjava/lang/Void;)V", sig := { parameters := [(.array .char), .int, .int, (.object "java/lang/Void")], returnType := none }, accessFlags := 2, code := some k7c4 }
def k7c5 : Code := { maxStack := 1, maxLocals := 1, code := jdk_42_method_154_code, exceptionTable := #[], attributes := #[] }
def k7m5 : Method := { name := "isLatin1", desc := "()Z", sig := { parameters := [], returnType := some .boolean }, accessFlags := 0, code := some k7c5 }
def k7c6 : Code := { maxStack := 3, maxLocals := 2, code := jdk_42_method_155_code, exceptionTable := #[], attributes := #[] }
def k7m6 : Method := { name := "checkIndex", desc := "(II)V", sig := { parameters := [.int, .int], returnType := none }, accessFlags := 8, code := some k7c6 }
/-- java/lang/String -/
def k7 : Class := { plain "java/lang/String" (some 0) with
  accessFlags := 49
  interfaces := #[2, 3, 4, 5, 6]
  cf := some (fileOf pool7 10 #[.nestMembers #[1103]] #[{ accessFlags := 1, nameIndex := 5, descriptorIndex := 6, attributes := #[] }, { accessFlags := 1, nameIndex := 5, descriptorIndex := 1010, attributes := #[] }, { accessFlags := 1, nameIndex := 497, descriptorIndex := 427, attributes := #[] }, { accessFlags := 1, nameIndex := 543, descriptorIndex := 573, attributes := #[] }, { accessFlags := 2, nameIndex := 5, descriptorIndex := 29, attributes := #[] }, { accessFlags := 0, nameIndex := 494, descriptorIndex := 142, attributes := #[] }, { accessFlags := 8, nameIndex := 501, descriptorIndex := 391, attributes := #[] }] 49 2 #[1106, 1108, 575, 1110, 1112] #[{ accessFlags := 18, nameIndex := 13, descriptorIndex := 14, attributes := #[] }, { accessFlags := 18, nameIndex := 17, descriptorIndex := 18, attributes := #[] }, { accessFlags := 2, nameIndex := 21, descriptorIndex := 22, attributes := #[] }, { accessFlags := 2, nameIndex := 25, descriptorIndex := 26, attributes := #[] }, { accessFlags := 26, nameIndex := 1116, descriptorIndex := 1117, attributes := #[] }, { accessFlags := 24, nameIndex := 40, descriptorIndex := 26, attributes := #[] }, { accessFlags := 26, nameIndex := 1101, descriptorIndex := 1102, attributes := #[] }, { accessFlags := 26, nameIndex := 1121, descriptorIndex := 1122, attributes := #[] }, { accessFlags := 25, nameIndex := 599, descriptorIndex := 600, attributes := #[] }, { accessFlags := 24, nameIndex := 1125, descriptorIndex := 18, attributes := #[] }, { accessFlags := 24, nameIndex := 1127, descriptorIndex := 18, attributes := #[] }])
  fields := #[{ name := "value", type := (.array .byte), accessFlags := 18, slot := 0, constantValue := 0 }, { name := "coder", type := .byte, accessFlags := 18, slot := 1, constantValue := 0 }, { name := "hash", type := .int, accessFlags := 2, slot := 2, constantValue := 0 }, { name := "hashIsZero", type := .boolean, accessFlags := 2, slot := 3, constantValue := 0 }, { name := "serialVersionUID", type := .long, accessFlags := 26, slot := 0, constantValue := 0 }, { name := "COMPACT_STRINGS", type := .boolean, accessFlags := 24, slot := 1, constantValue := 0 }, { name := "serialPersistentFields", type := (.array (.object "java/io/ObjectStreamField")), accessFlags := 26, slot := 2, constantValue := 0 }, { name := "REPL", type := .char, accessFlags := 26, slot := 3, constantValue := 0 }, { name := "CASE_INSENSITIVE_ORDER", type := (.object "java/util/Comparator"), accessFlags := 25, slot := 4, constantValue := 0 }, { name := "LATIN1", type := .byte, accessFlags := 24, slot := 5, constantValue := 0 }, { name := "UTF16", type := .byte, accessFlags := 24, slot := 6, constantValue := 0 }]
  methods := #[k7m0, k7m1, k7m2, k7m3, k7m4, k7m5, k7m6]
  instanceTypes := #[(.array .byte), .byte, .int, .boolean]
  staticTypes := #[.long, .boolean, (.array (.object "java/io/ObjectStreamField")), .char, (.object "java/util/Comparator"), .byte, .byte]
  resolved := Array.replicate 1451 none
  statics := some 0 }

def pool8 : Array CpInfo := pool [(2, .class_ 4), (1, u "java/lang/Enum"), (0, u "name"), (0, u "Ljava/lang/String;"), (2, u "ordinal"), (0, u "I"), (1, .class_ 14), (1, u "java/lang/Object"), (4, u "hash"), (86, .class_ 108), (1, u "java/lang/Enum$EnumDesc"), (2, .class_ 112), (0, u "java/lang/constant/Constable"), (0, .class_ 114), (0, u "java/lang/Comparable"), (0, .class_ 116), (0, u "java/io/Serializable")] 87

/-- java/lang/Enum -/
def k8 : Class := { plain "java/lang/Enum" (some 0) with
  accessFlags := 1057
  interfaces := #[5, 3, 2]
  cf := some (fileOf pool8 2 #[.nestMembers #[106]] #[] 1057 12 #[111, 113, 115] #[{ accessFlags := 18, nameIndex := 5, descriptorIndex := 6, attributes := #[] }, { accessFlags := 18, nameIndex := 9, descriptorIndex := 10, attributes := #[] }, { accessFlags := 2, nameIndex := 19, descriptorIndex := 10, attributes := #[] }])
  fields := #[{ name := "name", type := (.object "java/lang/String"), accessFlags := 18, slot := 0, constantValue := 0 }, { name := "ordinal", type := .int, accessFlags := 18, slot := 1, constantValue := 0 }, { name := "hash", type := .int, accessFlags := 2, slot := 2, constantValue := 0 }]
  methods := #[]
  instanceTypes := #[(.object "java/lang/String"), .int, .int]
  staticTypes := #[]
  resolved := Array.replicate 204 none
  statics := none }

def pool9 : Array CpInfo := pool [(1, .class_ 2), (0, u "com/example/mixed_margins/mixedmargins/model/TimeUnit"), (2, u "SECONDS"), (0, u "Lcom/example/mixed_margins/mixedmargins/model/TimeUnit;"), (2, u "MILLISECONDS"), (2, u "MICROSECONDS"), (2, u "NANOSECONDS"), (0, .fieldref 1 17), (0, .nameAndType 18 19), (0, u "$VALUES"), (0, u "[Lcom/example/mixed_margins/mixedmargins/model/TimeUnit;"), (0, .methodref 21 22), (0, .class_ 19), (0, .nameAndType 23 24), (0, u "clone"), (0, u "()Ljava/lang/Object;"), (1, .class_ 28), (1, u "java/lang/Enum"), (6, .fieldref 1 36), (0, .nameAndType 37 38), (0, u "symbol"), (0, u "Ljava/lang/String;"), (5, u "Ljava/math/BigDecimal;"), (6, u "seconds"), (0, .methodref 1 53), (0, .nameAndType 54 55), (0, u "values"), (0, u "()[Lcom/example/mixed_margins/mixedmargins/model/TimeUnit;"), (0, .methodref 57 58), (0, .class_ 59), (0, .nameAndType 60 61), (0, u "java/lang/String"), (0, u "equals"), (0, u "(Ljava/lang/Object;)Z"), (0, .methodref 63 64), (0, .class_ 65), (0, .nameAndType 66 67), (0, u "java/util/Optional"), (0, u "ofNullable"), (0, u "(Ljava/lang/Object;)Ljava/util/Optional;"), (23, u "ofSymbol"), (0, u "(Ljava/lang/String;)Ljava/util/Optional;")] 11

def k9c0 : Code := { maxStack := 1, maxLocals := 0, code := prog_52_method_1_code, exceptionTable := #[], attributes := #[] }
def k9m0 : Method := { name := "values", desc := "()[Lcom/example/mixed_margins/mixedmargins/model/TimeUnit;", sig := { parameters := [], returnType := some (.array (.object "com/example/mixed_margins/mixedmargins/model/TimeUnit")) }, accessFlags := 9, code := some k9c0 }
def k9c1 : Code := { maxStack := 2, maxLocals := 6, code := prog_52_method_4_code, exceptionTable := #[], attributes := #[] }
def k9m1 : Method := { name := "ofSymbol", desc := "(Ljava/lang/String;)Ljava/util/Optional;", sig := { parameters := [(.object "java/lang/String")], returnType := some (.object "java/util/Optional") }, accessFlags := 9, code := some k9c1 }
/-- com/example/mixed_margins/mixedmargins/model/TimeUnit -/
def k9 : Class := { plain "com/example/mixed_margins/mixedmargins/model/TimeUnit" (some 8) with
  accessFlags := 16433
  interfaces := #[]
  cf := some (fileOf pool9 1 #[] #[{ accessFlags := 9, nameIndex := 54, descriptorIndex := 55, attributes := #[] }, { accessFlags := 9, nameIndex := 91, descriptorIndex := 92, attributes := #[] }] 16433 26 #[] #[{ accessFlags := 16409, nameIndex := 5, descriptorIndex := 6, attributes := #[] }, { accessFlags := 16409, nameIndex := 9, descriptorIndex := 6, attributes := #[] }, { accessFlags := 16409, nameIndex := 12, descriptorIndex := 6, attributes := #[] }, { accessFlags := 16409, nameIndex := 15, descriptorIndex := 6, attributes := #[] }, { accessFlags := 18, nameIndex := 37, descriptorIndex := 38, attributes := #[] }, { accessFlags := 18, nameIndex := 51, descriptorIndex := 44, attributes := #[] }, { accessFlags := 4122, nameIndex := 18, descriptorIndex := 19, attributes := #[] }])
  fields := #[{ name := "SECONDS", type := (.object "com/example/mixed_margins/mixedmargins/model/TimeUnit"), accessFlags := 16409, slot := 0, constantValue := 0 }, { name := "MILLISECONDS", type := (.object "com/example/mixed_margins/mixedmargins/model/TimeUnit"), accessFlags := 16409, slot := 1, constantValue := 0 }, { name := "MICROSECONDS", type := (.object "com/example/mixed_margins/mixedmargins/model/TimeUnit"), accessFlags := 16409, slot := 2, constantValue := 0 }, { name := "NANOSECONDS", type := (.object "com/example/mixed_margins/mixedmargins/model/TimeUnit"), accessFlags := 16409, slot := 3, constantValue := 0 }, { name := "symbol", type := (.object "java/lang/String"), accessFlags := 18, slot := 3, constantValue := 0 }, { name := "seconds", type := (.object "java/math/BigDecimal"), accessFlags := 18, slot := 4, constantValue := 0 }, { name := "$VALUES", type := (.array (.object "com/example/mixed_margins/mixedmargins/model/TimeUnit")), accessFlags := 4122, slot := 4, constantValue := 0 }]
  methods := #[k9m0, k9m1]
  instanceTypes := #[(.object "java/lang/String"), .int, .int, (.object "java/lang/String"), (.object "java/math/BigDecimal")]
  staticTypes := #[(.object "com/example/mixed_margins/mixedmargins/model/TimeUnit"), (.object "com/example/mixed_margins/mixedmargins/model/TimeUnit"), (.object "com/example/mixed_margins/mixedmargins/model/TimeUnit"), (.object "com/example/mixed_margins/mixedmargins/model/TimeUnit"), (.array (.object "com/example/mixed_margins/mixedmargins/model/TimeUnit"))]
  resolved := Array.replicate 104 none
  statics := some 1 }

def pool10 : Array CpInfo := pool [(1, .class_ 2), (0, u "java/lang/Cloneable"), (0, .class_ 4), (0, u "java/lang/Object")] 2

/-- java/lang/Cloneable -/
def k10 : Class := { plain "java/lang/Cloneable" (some 0) with
  accessFlags := 1537
  interfaces := #[]
  cf := some (fileOf pool10 1 #[] #[] 1537 3 #[] #[])
  fields := #[]
  methods := #[]
  instanceTypes := #[]
  staticTypes := #[]
  resolved := Array.replicate 7 none
  statics := none }

def pool11 : Array CpInfo := pool [(1, .class_ 2), (0, u "java/lang/String"), (1, .class_ 6), (1, u "java/lang/Object"), (0, u "<init>"), (0, u "()V"), (0, .methodref 1 10), (0, .nameAndType 11 12), (0, u "checkIndex"), (0, u "(II)V"), (1, .class_ 16), (1, u "java/lang/StringLatin1"), (36, u "([BI)C"), (67, u "$assertionsDisabled"), (0, u "Z"), (98, .class_ 223), (1, u "java/lang/StringLatin1$LinesSpliterator"), (28, u "charAt"), (28, u "equals"), (0, u "([B[B)Z"), (107, .class_ 391), (0, u "java/lang/StringLatin1$CharsSpliterator")] 3

def k11m0 : Method := { name := "<init>", desc := "()V", sig := { parameters := [], returnType := none }, accessFlags := 0, code := none }
def k11c1 : Code := { maxStack := 2, maxLocals := 2, code := jdk_43_method_2_code, exceptionTable := #[], attributes := #[] }
def k11m1 : Method := { name := "charAt", desc := "([BI)C", sig := { parameters := [(.array .byte), .int], returnType := some .char }, accessFlags := 9, code := some k11c1 }
def k11c2 : Code := { maxStack := 3, maxLocals := 3, code := jdk_43_method_13_code, exceptionTable := #[], attributes := #[] }
def k11m2 : Method := { name := "equals", desc := "([B[B)Z", sig := { parameters := [(.array .byte), (.array .byte)], returnType := some .boolean }, accessFlags := 9, code := some k11c2 }
/-- java/lang/StringLatin1 -/
def k11 : Class := { plain "java/lang/StringLatin1" (some 0) with
  accessFlags := 48
  interfaces := #[]
  cf := some (fileOf pool11 14 #[.nestMembers #[390, 221]] #[{ accessFlags := 0, nameIndex := 7, descriptorIndex := 8, attributes := #[] }, { accessFlags := 9, nameIndex := 252, descriptorIndex := 53, attributes := #[] }, { accessFlags := 9, nameIndex := 281, descriptorIndex := 282, attributes := #[] }] 48 4 #[] #[{ accessFlags := 4120, nameIndex := 121, descriptorIndex := 122, attributes := #[] }])
  fields := #[{ name := "$assertionsDisabled", type := .boolean, accessFlags := 4120, slot := 0, constantValue := 0 }]
  methods := #[k11m0, k11m1, k11m2]
  instanceTypes := #[]
  staticTypes := #[.boolean]
  resolved := Array.replicate 395 none
  statics := none }

def pool12 : Array CpInfo := pool [(1, .fieldref 2 3), (0, .class_ 4), (0, .nameAndType 5 6), (0, u "java/util/Optional"), (0, u "EMPTY"), (0, u "Ljava/util/Optional;"), (0, .methodref 8 9), (0, .class_ 10), (0, .nameAndType 11 12), (0, u "java/lang/Object"), (0, u "<init>"), (0, u "()V"), (0, .fieldref 2 14), (0, .nameAndType 15 16), (0, u "value"), (0, u "Ljava/lang/Object;"), (5, u "(Ljava/lang/Object;)Ljava/lang/Object;"), (0, .methodref 2 24), (0, .nameAndType 11 25), (0, u "(Ljava/lang/Object;)V"), (38, u "ofNullable"), (0, u "(Ljava/lang/Object;)Ljava/util/Optional;"), (99, u "orElse")] 21

def k12c0 : Code := { maxStack := 2, maxLocals := 2, code := jdk_32_method_2_code, exceptionTable := #[], attributes := #[] }
def k12m0 : Method := { name := "<init>", desc := "(Ljava/lang/Object;)V", sig := { parameters := [(.object "java/lang/Object")], returnType := none }, accessFlags := 2, code := some k12c0 }
def k12c1 : Code := { maxStack := 3, maxLocals := 1, code := jdk_32_method_4_code, exceptionTable := #[], attributes := #[] }
def k12m1 : Method := { name := "ofNullable", desc := "(Ljava/lang/Object;)Ljava/util/Optional;", sig := { parameters := [(.object "java/lang/Object")], returnType := some (.object "java/util/Optional") }, accessFlags := 9, code := some k12c1 }
def k12c2 : Code := { maxStack := 1, maxLocals := 2, code := jdk_32_method_15_code, exceptionTable := #[], attributes := #[] }
def k12m2 : Method := { name := "orElse", desc := "(Ljava/lang/Object;)Ljava/lang/Object;", sig := { parameters := [(.object "java/lang/Object")], returnType := some (.object "java/lang/Object") }, accessFlags := 1, code := some k12c2 }
/-- java/util/Optional -/
def k12 : Class := { plain "java/util/Optional" (some 0) with
  accessFlags := 49
  interfaces := #[]
  cf := some (fileOf pool12 2 #[] #[{ accessFlags := 2, nameIndex := 11, descriptorIndex := 25, attributes := #[] }, { accessFlags := 9, nameIndex := 64, descriptorIndex := 65, attributes := #[] }, { accessFlags := 1, nameIndex := 165, descriptorIndex := 22, attributes := #[] }] 49 8 #[] #[{ accessFlags := 26, nameIndex := 5, descriptorIndex := 6, attributes := #[] }, { accessFlags := 18, nameIndex := 15, descriptorIndex := 16, attributes := #[] }])
  fields := #[{ name := "EMPTY", type := (.object "java/util/Optional"), accessFlags := 26, slot := 0, constantValue := 0 }, { name := "value", type := (.object "java/lang/Object"), accessFlags := 18, slot := 0, constantValue := 0 }]
  methods := #[k12m0, k12m1, k12m2]
  instanceTypes := #[(.object "java/lang/Object")]
  staticTypes := #[(.object "java/util/Optional")]
  resolved := Array.replicate 187 none
  statics := some 2 }

def pool13 : Array CpInfo := pool [(6, .class_ 8), (1, u "java/lang/Object"), (0, u "<init>"), (0, u "()V"), (1, .class_ 14), (1, u "java/lang/StringUTF16"), (31, u "$assertionsDisabled"), (0, u "Z"), (13, u "HI_BYTE_SHIFT"), (0, u "I"), (2, u "LO_BYTE_SHIFT"), (49, .methodref 12 116), (0, .nameAndType 117 118), (0, u "compress"), (0, u "([CI[BII)I"), (3, u "([CII)[B"), (138, u "coderFromArrayLen"), (0, u "([BI)B"), (106, .class_ 371), (1, u "java/lang/StringUTF16$LinesSpliterator"), (58, u "MAX_LENGTH"), (196, .class_ 628), (0, u "java/lang/StringUTF16$CodePointsSpliterator"), (0, .class_ 630), (0, u "java/lang/StringUTF16$CharsSpliterator")] 4

def k13m0 : Method := { name := "<init>", desc := "()V", sig := { parameters := [], returnType := none }, accessFlags := 0, code := none }
def k13c1 : Code := { maxStack := 2, maxLocals := 2, code := jdk_52_method_15_code, exceptionTable := #[], attributes := #[] }
def k13m1 : Method := { name := "coderFromArrayLen", desc := "([BI)B", sig := { parameters := [(.array .byte), .int], returnType := some .byte }, accessFlags := 8, code := some k13c1 }
def k13c2 : Code := { maxStack := 5, maxLocals := 6, code := jdk_52_method_16_code, exceptionTable := #[], attributes := #[] }
def k13m2 : Method := { name := "compress", desc := "([CII)[B", sig := { parameters := [(.array .char), .int, .int], returnType := some (.array .byte) }, accessFlags := 9, code := some k13c2 }
def k13c3 : Code := { maxStack := 3, maxLocals := 7, code := jdk_52_method_21_code, exceptionTable := #[], attributes := #[] }
def k13m3 : Method := { name := "compress", desc := "([CI[BII)I", sig := { parameters := [(.array .char), .int, (.array .byte), .int, .int], returnType := some .int }, accessFlags := 9, code := some k13c3 }
/-- java/lang/StringUTF16 -/
def k13 : Class := { plain "java/lang/StringUTF16" (some 0) with
  accessFlags := 48
  interfaces := #[]
  cf := some (fileOf pool13 12 #[.nestMembers #[627, 629, 369]] #[{ accessFlags := 0, nameIndex := 9, descriptorIndex := 10, attributes := #[] }, { accessFlags := 8, nameIndex := 261, descriptorIndex := 262, attributes := #[] }, { accessFlags := 9, nameIndex := 117, descriptorIndex := 122, attributes := #[] }, { accessFlags := 9, nameIndex := 117, descriptorIndex := 118, attributes := #[] }] 48 6 #[] #[{ accessFlags := 26, nameIndex := 61, descriptorIndex := 62, attributes := #[] }, { accessFlags := 26, nameIndex := 65, descriptorIndex := 62, attributes := #[] }, { accessFlags := 24, nameIndex := 430, descriptorIndex := 62, attributes := #[] }, { accessFlags := 4120, nameIndex := 46, descriptorIndex := 47, attributes := #[] }])
  fields := #[{ name := "HI_BYTE_SHIFT", type := .int, accessFlags := 26, slot := 0, constantValue := 0 }, { name := "LO_BYTE_SHIFT", type := .int, accessFlags := 26, slot := 1, constantValue := 0 }, { name := "MAX_LENGTH", type := .int, accessFlags := 24, slot := 2, constantValue := 0 }, { name := "$assertionsDisabled", type := .boolean, accessFlags := 4120, slot := 3, constantValue := 0 }]
  methods := #[k13m0, k13m1, k13m2, k13m3]
  instanceTypes := #[]
  staticTypes := #[.int, .int, .int, .boolean]
  resolved := Array.replicate 635 none
  statics := none }

def pool14 : Array CpInfo := pool [(2, .class_ 4), (1, u "java/lang/Object"), (0, u "<init>"), (0, u "()V"), (17, .class_ 26), (1, u "jdk/internal/util/Preconditions"), (6, u "checkIndex"), (21, .class_ 56), (0, u "jdk/internal/util/Preconditions$4"), (57, .class_ 115), (0, u "jdk/internal/util/Preconditions$1"), (7, u "SIOOBE_FORMATTER"), (0, u "Ljava/util/function/BiFunction;"), (0, .class_ 126), (0, u "jdk/internal/util/Preconditions$2"), (3, u "AIOOBE_FORMATTER"), (0, .class_ 132), (0, u "jdk/internal/util/Preconditions$3"), (3, u "IOOBE_FORMATTER"), (41, u "(IILjava/util/function/BiFunction;)I")] 15

def k14m0 : Method := { name := "<init>", desc := "()V", sig := { parameters := [], returnType := none }, accessFlags := 1, code := none }
def k14c1 : Code := { maxStack := 3, maxLocals := 3, code := jdk_41_method_11_code, exceptionTable := #[], attributes := #[] }
def k14m1 : Method := { name := "checkIndex", desc := "(IILjava/util/function/BiFunction;)I", sig := { parameters := [.int, .int, (.object "java/util/function/BiFunction")], returnType := some .int }, accessFlags := 9, code := some k14c1 }
/-- jdk/internal/util/Preconditions -/
def k14 : Class := { plain "jdk/internal/util/Preconditions" (some 0) with
  accessFlags := 33
  interfaces := #[]
  cf := some (fileOf pool14 24 #[.nestMembers #[55, 131, 125, 114]] #[{ accessFlags := 1, nameIndex := 5, descriptorIndex := 6, attributes := #[] }, { accessFlags := 9, nameIndex := 33, descriptorIndex := 178, attributes := #[] }] 33 2 #[] #[{ accessFlags := 25, nameIndex := 123, descriptorIndex := 124, attributes := #[] }, { accessFlags := 25, nameIndex := 130, descriptorIndex := 124, attributes := #[] }, { accessFlags := 25, nameIndex := 136, descriptorIndex := 124, attributes := #[] }])
  fields := #[{ name := "SIOOBE_FORMATTER", type := (.object "java/util/function/BiFunction"), accessFlags := 25, slot := 0, constantValue := 0 }, { name := "AIOOBE_FORMATTER", type := (.object "java/util/function/BiFunction"), accessFlags := 25, slot := 1, constantValue := 0 }, { name := "IOOBE_FORMATTER", type := (.object "java/util/function/BiFunction"), accessFlags := 25, slot := 2, constantValue := 0 }]
  methods := #[k14m0, k14m1]
  instanceTypes := #[]
  staticTypes := #[(.object "java/util/function/BiFunction"), (.object "java/util/function/BiFunction"), (.object "java/util/function/BiFunction")]
  resolved := Array.replicate 194 none
  statics := some 3 }

def pool15 : Array CpInfo := pool [(9, u "<init>"), (6, .class_ 18), (1, u "java/lang/Object"), (0, u "()V"), (1, .class_ 23), (1, u "jdk/internal/util/ArraysSupport"), (0, u "LOG2_ARRAY_LONG_INDEX_SCALE"), (0, u "I"), (2, u "U"), (0, u "Ljdk/internal/misc/Unsafe;"), (8, u "BIG_ENDIAN"), (0, u "Z"), (8, u "LOG2_BYTE_BIT_SIZE"), (4, u "LOG2_ARRAY_INT_INDEX_SCALE"), (54, u "JLA"), (0, u "Ljdk/internal/access/JavaLangAccess;"), (11, u "LOG2_ARRAY_BOOLEAN_INDEX_SCALE"), (9, u "LOG2_ARRAY_BYTE_INDEX_SCALE"), (5, u "LOG2_ARRAY_CHAR_INDEX_SCALE"), (5, u "LOG2_ARRAY_SHORT_INDEX_SCALE"), (18, u "LOG2_ARRAY_FLOAT_INDEX_SCALE"), (24, u "LOG2_ARRAY_DOUBLE_INDEX_SCALE"), (89, u "T_BOOLEAN"), (2, u "T_CHAR"), (1, u "T_FLOAT"), (1, u "T_DOUBLE"), (1, u "T_BYTE"), (1, u "T_SHORT"), (1, u "T_INT"), (1, u "T_LONG"), (1, u "SOFT_MAX_ARRAY_LENGTH")] 83

def k15m0 : Method := { name := "<init>", desc := "()V", sig := { parameters := [], returnType := none }, accessFlags := 2, code := none }
/-- jdk/internal/util/ArraysSupport -/
def k15 : Class := { plain "jdk/internal/util/ArraysSupport" (some 0) with
  accessFlags := 33
  interfaces := #[]
  cf := some (fileOf pool15 21 #[] #[{ accessFlags := 2, nameIndex := 9, descriptorIndex := 19, attributes := #[] }] 33 16 #[] #[{ accessFlags := 24, nameIndex := 28, descriptorIndex := 29, attributes := #[] }, { accessFlags := 26, nameIndex := 38, descriptorIndex := 39, attributes := #[] }, { accessFlags := 25, nameIndex := 121, descriptorIndex := 25, attributes := #[] }, { accessFlags := 25, nameIndex := 131, descriptorIndex := 25, attributes := #[] }, { accessFlags := 25, nameIndex := 137, descriptorIndex := 25, attributes := #[] }, { accessFlags := 25, nameIndex := 143, descriptorIndex := 25, attributes := #[] }, { accessFlags := 25, nameIndex := 53, descriptorIndex := 25, attributes := #[] }, { accessFlags := 25, nameIndex := 24, descriptorIndex := 25, attributes := #[] }, { accessFlags := 25, nameIndex := 162, descriptorIndex := 25, attributes := #[] }, { accessFlags := 25, nameIndex := 187, descriptorIndex := 25, attributes := #[] }, { accessFlags := 26, nameIndex := 48, descriptorIndex := 25, attributes := #[] }, { accessFlags := 25, nameIndex := 277, descriptorIndex := 25, attributes := #[] }, { accessFlags := 25, nameIndex := 280, descriptorIndex := 25, attributes := #[] }, { accessFlags := 25, nameIndex := 282, descriptorIndex := 25, attributes := #[] }, { accessFlags := 25, nameIndex := 284, descriptorIndex := 25, attributes := #[] }, { accessFlags := 25, nameIndex := 286, descriptorIndex := 25, attributes := #[] }, { accessFlags := 25, nameIndex := 288, descriptorIndex := 25, attributes := #[] }, { accessFlags := 25, nameIndex := 290, descriptorIndex := 25, attributes := #[] }, { accessFlags := 25, nameIndex := 292, descriptorIndex := 25, attributes := #[] }, { accessFlags := 26, nameIndex := 108, descriptorIndex := 109, attributes := #[] }, { accessFlags := 25, nameIndex := 294, descriptorIndex := 25, attributes := #[] }])
  fields := #[{ name := "U", type := (.object "jdk/internal/misc/Unsafe"), accessFlags := 24, slot := 0, constantValue := 0 }, { name := "BIG_ENDIAN", type := .boolean, accessFlags := 26, slot := 1, constantValue := 0 }, { name := "LOG2_ARRAY_BOOLEAN_INDEX_SCALE", type := .int, accessFlags := 25, slot := 2, constantValue := 0 }, { name := "LOG2_ARRAY_BYTE_INDEX_SCALE", type := .int, accessFlags := 25, slot := 3, constantValue := 0 }, { name := "LOG2_ARRAY_CHAR_INDEX_SCALE", type := .int, accessFlags := 25, slot := 4, constantValue := 0 }, { name := "LOG2_ARRAY_SHORT_INDEX_SCALE", type := .int, accessFlags := 25, slot := 5, constantValue := 0 }, { name := "LOG2_ARRAY_INT_INDEX_SCALE", type := .int, accessFlags := 25, slot := 6, constantValue := 0 }, { name := "LOG2_ARRAY_LONG_INDEX_SCALE", type := .int, accessFlags := 25, slot := 7, constantValue := 0 }, { name := "LOG2_ARRAY_FLOAT_INDEX_SCALE", type := .int, accessFlags := 25, slot := 8, constantValue := 0 }, { name := "LOG2_ARRAY_DOUBLE_INDEX_SCALE", type := .int, accessFlags := 25, slot := 9, constantValue := 0 }, { name := "LOG2_BYTE_BIT_SIZE", type := .int, accessFlags := 26, slot := 10, constantValue := 0 }, { name := "T_BOOLEAN", type := .int, accessFlags := 25, slot := 11, constantValue := 0 }, { name := "T_CHAR", type := .int, accessFlags := 25, slot := 12, constantValue := 0 }, { name := "T_FLOAT", type := .int, accessFlags := 25, slot := 13, constantValue := 0 }, { name := "T_DOUBLE", type := .int, accessFlags := 25, slot := 14, constantValue := 0 }, { name := "T_BYTE", type := .int, accessFlags := 25, slot := 15, constantValue := 0 }, { name := "T_SHORT", type := .int, accessFlags := 25, slot := 16, constantValue := 0 }, { name := "T_INT", type := .int, accessFlags := 25, slot := 17, constantValue := 0 }, { name := "T_LONG", type := .int, accessFlags := 25, slot := 18, constantValue := 0 }, { name := "JLA", type := (.object "jdk/internal/access/JavaLangAccess"), accessFlags := 26, slot := 19, constantValue := 0 }, { name := "SOFT_MAX_ARRAY_LENGTH", type := .int, accessFlags := 25, slot := 20, constantValue := 0 }]
  methods := #[k15m0]
  instanceTypes := #[]
  staticTypes := #[(.object "jdk/internal/misc/Unsafe"), .boolean, .int, .int, .int, .int, .int, .int, .int, .int, .int, .int, .int, .int, .int, .int, .int, .int, .int, (.object "jdk/internal/access/JavaLangAccess"), .int]
  resolved := Array.replicate 378 none
  statics := none }

/-- the primitive byte -/
def k16 : Class := { plain "byte" none with kind := .primitive 'B', accessFlags := 0x411 }
/-- [B -/
def k17 : Class := { plain "[B" (some 0) with kind := .array 16 .byte, interfaces := #[10, 2], accessFlags := 1041 }

/-- the primitive char -/
def k18 : Class := { plain "char" none with kind := .primitive 'C', accessFlags := 0x411 }
/-- [C -/
def k19 : Class := { plain "[C" (some 0) with kind := .array 18 .char, interfaces := #[10, 2], accessFlags := 1041 }

/-- the primitive int -/
def k20 : Class := { plain "int" none with kind := .primitive 'I', accessFlags := 0x411 }
/-- [I -/
def k21 : Class := { plain "[I" (some 0) with kind := .array 20 .int, interfaces := #[10, 2], accessFlags := 1041 }

/-- [Lcom/example/mixed_margins/mixedmargins/model/TimeUnit; -/
def k22 : Class := { plain "[Lcom/example/mixed_margins/mixedmargins/model/TimeUnit;" (some 0) with kind := .array 9 (.object "com/example/mixed_margins/mixedmargins/model/TimeUnit"), interfaces := #[10, 2], accessFlags := 1041 }

def heap : Heap := #[{ cls := 7, slots := #[.long 0, .int 1, .null, .int 0, .null, .int 0, .int 0], vm := .statics 7 },
  { cls := 9, slots := #[.ref 5, .ref 6, .ref 7, .ref 8, .ref 4], vm := .statics 9 },
  { cls := 12, slots := #[.ref 17], vm := .statics 12 },
  { cls := 14, slots := #[.null, .null, .null], vm := .statics 14 },
  { cls := 22, slots := #[.ref 5, .ref 6, .ref 7, .ref 8], vm := .none },
  { cls := 9, slots := #[.null, .int 0, .int 0, .ref 9, .null], vm := .none },
  { cls := 9, slots := #[.null, .int 1, .int 0, .ref 10, .null], vm := .none },
  { cls := 9, slots := #[.null, .int 2, .int 0, .ref 11, .null], vm := .none },
  { cls := 9, slots := #[.null, .int 3, .int 0, .ref 12, .null], vm := .none },
  { cls := 7, slots := #[.ref 13, .int 0, .int 0, .int 0], vm := .none },
  { cls := 7, slots := #[.ref 14, .int 0, .int 0, .int 0], vm := .none },
  { cls := 7, slots := #[.ref 15, .int 0, .int 0, .int 0], vm := .none },
  { cls := 7, slots := #[.ref 16, .int 0, .int 0, .int 0], vm := .none },
  { cls := 17, slots := #[.int 115], vm := .none },
  { cls := 17, slots := #[.int 109, .int 115], vm := .none },
  { cls := 17, slots := #[.int 117, .int 115], vm := .none },
  { cls := 17, slots := #[.int 110, .int 115], vm := .none },
  { cls := 12, slots := #[.null], vm := .none }]
def classes : Array Class := #[k0, k1, k2, k3, k4, k5, k6, k7, k8, k9, k10, k11, k12, k13, k14, k15, k16, k17, k18, k19, k20, k21, k22]
def interned : List (Array UInt16 × Addr) := []
def slotsUsed : Nat := 64
def theMethod : MethodId := ⟨1, 1⟩
def args0 : Array Value := #[.int 2, .int 115, .int 115, .int 0]
def aboutOver (below : List Frame) : State where
  vm := { classes := classes, interned := interned.toArray }
  heap := heap
  slotsUsed := slotsUsed
  threads := #[{ frames := .invoking theMethod args0 :: below }]
def below0 : List Frame := [.native { method := ⟨0, 0⟩, args := #[] }]
def about1 : State := aboutOver below0
def p0 : Program := .bare "" "" ""
def e0 : Env := launch0.env 0 0 0
theorem w_frames : about1.frames = Frame.invoking theMethod args0 :: below0 := rfl
set_option maxRecDepth 65536 in
theorem w_args : argsFit about1.vm theMethod args0 = true := by decide +kernel
set_option maxRecDepth 65536 in
theorem w_heap : heapFits about1 = true := by decide +kernel
set_option maxRecDepth 65536 in
theorem w_runnable : about1.curStatus? = some .runnable := by decide +kernel
set_option maxRecDepth 65536 in
theorem w_alone : about1.alone = true := by decide +kernel
set_option maxRecDepth 65536 in
theorem w_named : about1.methodNamed? x = some theMethod := by decide +kernel
set_option maxRecDepth 65536 in
theorem w_hears : about1.hears theMethod below0 = true := by decide +kernel
set_option maxRecDepth 65536 in
theorem w_ripe : about1.ripe theMethod args0 below0 = true := by decide +kernel
theorem w_running : about1.status = .running := rfl
set_option maxRecDepth 65536 in
theorem w_room : about1.hasRoom e0.platform room_1 = true :=
  launch0.hasRoom_least _ room_1 (by decide +kernel) (by decide +kernel) (by decide +kernel) (by decide +kernel) (by decide +kernel) (by decide +kernel)
theorem allAtoms_all (ts : List Jvm.Cond) (a : Array Jvm.Value) (st : Jvm.State) : (allAtoms ts).before a st = ts.all (fun c => c.before a st) := by
  induction ts with
  | nil => rfl
  | cons c t ih =>
    show (Jvm.Cond.and c (allAtoms t)).before a st = _
    rw [Jvm.Cond.before_and, ih, List.all_cons]
def words1 : List Jvm.Cond := Jvm.Cond.code x code maxLocals ret :: tables_1
/-- a 'code' word, met by the world's own term for the bytes: nothing is compared byte by byte -/
theorem code_word {y : MethodName} {bytes : ByteArray} {mx : Nat} {rt : Option FieldType} {a : Array Value} {s : State} {m : MethodId} {meth : Method} {c : Code} (h1 : s.methodNamed? y = some m) (h2 : s.vm.method? m = some meth) (h3 : meth.code = some c) (h4 : c.code = bytes)
    (h5 : (c.maxLocals == mx && c.exceptionTable.isEmpty && decide (c.maxStack ≤ mostOperands) && decide (meth.sig.returnType = rt) && !meth.locks && decide (parseMethodDescriptor y.desc = some meth.sig)) = true) : (Jvm.Cond.code y bytes mx rt).before a s = true := by
  simp only [Bool.and_eq_true, beq_iff_eq, Bool.not_eq_true', decide_eq_true_eq] at h5
  obtain ⟨⟨⟨⟨⟨g1, g2⟩, g3⟩, g4⟩, g5⟩, g6⟩ := h5
  simp [Cond.before, Cond.holds, Cond.value, h1, h2, h3, h4, g1, g2, g3, g4, g5, g6]
def isCode : Jvm.Cond → Bool
  | .code _ _ _ _ => true
  | _ => false
theorem all_split {L : List Jvm.Cond} {P : Jvm.Cond → Bool} (h1 : L.all (fun c => isCode c || P c) = true) (h2 : ∀ c ∈ L.filter isCode, P c = true) : L.all P = true := by
  refine List.all_eq_true.mpr fun c hc => ?_
  have h := List.all_eq_true.mp h1 c hc
  rcases Bool.eq_false_or_eq_true (isCode c) with hi | hi
  · exact h2 c (List.mem_filter.mpr ⟨hc, hi⟩)
  · simpa [hi] using h
set_option maxRecDepth 65536 in
theorem w_c0 : (Jvm.Cond.code x code maxLocals ret).before args0 about1 = true := code_word (m := ⟨1, 1⟩) (meth := k1m1) (c := k1c1) (by decide +kernel) rfl rfl rfl (by decide +kernel)
set_option maxRecDepth 65536 in
theorem w_c1 : (Jvm.Cond.code ({ cls := "com/example/mixed_margins/mixedmargins/model/TimeUnitOfSymbolPinLaw", name := "pick", desc := "(I)C" } : Jvm.MethodName) method_3_code (1 : Nat) (Option.some Jvm.ClassFile.FieldType.char)).before args0 about1 = true := code_word (m := ⟨1, 2⟩) (meth := k1m2) (c := k1c2) (by decide +kernel) rfl rfl rfl (by decide +kernel)
set_option maxRecDepth 65536 in
theorem w_c2 : (Jvm.Cond.code ({ cls := "java/lang/String", name := "<init>", desc := "([C)V" } : Jvm.MethodName) jdk_42_method_3_code (2 : Nat) (Option.none : Option Jvm.ClassFile.FieldType)).before args0 about1 = true := code_word (m := ⟨7, 1⟩) (meth := k7m1) (c := k7c1) (by decide +kernel) rfl rfl rfl (by decide +kernel)
set_option maxRecDepth 65536 in
theorem w_c3 : (Jvm.Cond.code ({ cls := "java/lang/String", name := "<init>", desc := "([CIILjava/lang/Void;)V" } : Jvm.MethodName) jdk_42_method_149_code (6 : Nat) (Option.none : Option Jvm.ClassFile.FieldType)).before args0 about1 = true := code_word (m := ⟨7, 4⟩) (meth := k7m4) (c := k7c4) (by decide +kernel) rfl rfl rfl (by decide +kernel)
set_option maxRecDepth 65536 in
theorem w_c4 : (Jvm.Cond.code ({ cls := "java/lang/Object", name := "<init>", desc := "()V" } : Jvm.MethodName) object_method_1_code (1 : Nat) (Option.none : Option Jvm.ClassFile.FieldType)).before args0 about1 = true := code_word (m := ⟨0, 0⟩) (meth := k0m0) (c := k0c0) (by decide +kernel) rfl rfl rfl (by decide +kernel)
set_option maxRecDepth 65536 in
theorem w_c5 : (Jvm.Cond.code ({ cls := "com/example/mixed_margins/mixedmargins/model/TimeUnit", name := "ofSymbol", desc := "(Ljava/lang/String;)Ljava/util/Optional;" } : Jvm.MethodName) prog_52_method_4_code (6 : Nat) (Option.some (Jvm.ClassFile.FieldType.object "java/util/Optional"))).before args0 about1 = true := code_word (m := ⟨9, 1⟩) (meth := k9m1) (c := k9c1) (by decide +kernel) rfl rfl rfl (by decide +kernel)
set_option maxRecDepth 65536 in
theorem w_c6 : (Jvm.Cond.code ({ cls := "com/example/mixed_margins/mixedmargins/model/TimeUnit", name := "values", desc := "()[Lcom/example/mixed_margins/mixedmargins/model/TimeUnit;" } : Jvm.MethodName) prog_52_method_1_code (0 : Nat) (Option.some (Jvm.ClassFile.FieldType.array (Jvm.ClassFile.FieldType.object "com/example/mixed_margins/mixedmargins/model/TimeUnit")))).before args0 about1 = true := code_word (m := ⟨9, 0⟩) (meth := k9m0) (c := k9c0) (by decide +kernel) rfl rfl rfl (by decide +kernel)
set_option maxRecDepth 65536 in
theorem w_c7 : (Jvm.Cond.code ({ cls := "java/lang/String", name := "equals", desc := "(Ljava/lang/Object;)Z" } : Jvm.MethodName) jdk_42_method_66_code (3 : Nat) (Option.some Jvm.ClassFile.FieldType.boolean)).before args0 about1 = true := code_word (m := ⟨7, 3⟩) (meth := k7m3) (c := k7c3) (by decide +kernel) rfl rfl rfl (by decide +kernel)
set_option maxRecDepth 65536 in
theorem w_c8 : (Jvm.Cond.code ({ cls := "java/lang/StringLatin1", name := "equals", desc := "([B[B)Z" } : Jvm.MethodName) jdk_43_method_13_code (3 : Nat) (Option.some Jvm.ClassFile.FieldType.boolean)).before args0 about1 = true := code_word (m := ⟨11, 2⟩) (meth := k11m2) (c := k11c2) (by decide +kernel) rfl rfl rfl (by decide +kernel)
set_option maxRecDepth 65536 in
theorem w_c9 : (Jvm.Cond.code ({ cls := "java/util/Optional", name := "ofNullable", desc := "(Ljava/lang/Object;)Ljava/util/Optional;" } : Jvm.MethodName) jdk_32_method_4_code (1 : Nat) (Option.some (Jvm.ClassFile.FieldType.object "java/util/Optional"))).before args0 about1 = true := code_word (m := ⟨12, 1⟩) (meth := k12m1) (c := k12c1) (by decide +kernel) rfl rfl rfl (by decide +kernel)
set_option maxRecDepth 65536 in
theorem w_c10 : (Jvm.Cond.code ({ cls := "java/util/Optional", name := "orElse", desc := "(Ljava/lang/Object;)Ljava/lang/Object;" } : Jvm.MethodName) jdk_32_method_15_code (2 : Nat) (Option.some (Jvm.ClassFile.FieldType.object "java/lang/Object"))).before args0 about1 = true := code_word (m := ⟨12, 2⟩) (meth := k12m2) (c := k12c2) (by decide +kernel) rfl rfl rfl (by decide +kernel)
set_option maxRecDepth 65536 in
theorem w_c11 : (Jvm.Cond.code ({ cls := "java/lang/StringUTF16", name := "compress", desc := "([CII)[B" } : Jvm.MethodName) jdk_52_method_16_code (6 : Nat) (Option.some (Jvm.ClassFile.FieldType.array Jvm.ClassFile.FieldType.byte))).before args0 about1 = true := code_word (m := ⟨13, 2⟩) (meth := k13m2) (c := k13c2) (by decide +kernel) rfl rfl rfl (by decide +kernel)
set_option maxRecDepth 65536 in
theorem w_c12 : (Jvm.Cond.code ({ cls := "java/lang/StringUTF16", name := "compress", desc := "([CI[BII)I" } : Jvm.MethodName) jdk_52_method_21_code (7 : Nat) (Option.some Jvm.ClassFile.FieldType.int)).before args0 about1 = true := code_word (m := ⟨13, 3⟩) (meth := k13m3) (c := k13c3) (by decide +kernel) rfl rfl rfl (by decide +kernel)
set_option maxRecDepth 65536 in
theorem w_c13 : (Jvm.Cond.code ({ cls := "java/lang/StringUTF16", name := "coderFromArrayLen", desc := "([BI)B" } : Jvm.MethodName) jdk_52_method_15_code (2 : Nat) (Option.some Jvm.ClassFile.FieldType.byte)).before args0 about1 = true := code_word (m := ⟨13, 1⟩) (meth := k13m1) (c := k13c1) (by decide +kernel) rfl rfl rfl (by decide +kernel)
set_option maxRecDepth 65536 in
theorem w_c14 : (Jvm.Cond.code ({ cls := "java/lang/String", name := "charAt", desc := "(I)C" } : Jvm.MethodName) jdk_42_method_56_code (2 : Nat) (Option.some Jvm.ClassFile.FieldType.char)).before args0 about1 = true := code_word (m := ⟨7, 2⟩) (meth := k7m2) (c := k7c2) (by decide +kernel) rfl rfl rfl (by decide +kernel)
set_option maxRecDepth 65536 in
theorem w_c15 : (Jvm.Cond.code ({ cls := "java/lang/String", name := "isLatin1", desc := "()Z" } : Jvm.MethodName) jdk_42_method_154_code (1 : Nat) (Option.some Jvm.ClassFile.FieldType.boolean)).before args0 about1 = true := code_word (m := ⟨7, 5⟩) (meth := k7m5) (c := k7c5) (by decide +kernel) rfl rfl rfl (by decide +kernel)
set_option maxRecDepth 65536 in
theorem w_c16 : (Jvm.Cond.code ({ cls := "java/lang/StringLatin1", name := "charAt", desc := "([BI)C" } : Jvm.MethodName) jdk_43_method_2_code (2 : Nat) (Option.some Jvm.ClassFile.FieldType.char)).before args0 about1 = true := code_word (m := ⟨11, 1⟩) (meth := k11m1) (c := k11c1) (by decide +kernel) rfl rfl rfl (by decide +kernel)
set_option maxRecDepth 65536 in
theorem w_c17 : (Jvm.Cond.code ({ cls := "java/lang/String", name := "checkIndex", desc := "(II)V" } : Jvm.MethodName) jdk_42_method_155_code (2 : Nat) (Option.none : Option Jvm.ClassFile.FieldType)).before args0 about1 = true := code_word (m := ⟨7, 6⟩) (meth := k7m6) (c := k7c6) (by decide +kernel) rfl rfl rfl (by decide +kernel)
set_option maxRecDepth 65536 in
theorem w_c18 : (Jvm.Cond.code ({ cls := "jdk/internal/util/Preconditions", name := "checkIndex", desc := "(IILjava/util/function/BiFunction;)I" } : Jvm.MethodName) jdk_41_method_11_code (3 : Nat) (Option.some Jvm.ClassFile.FieldType.int)).before args0 about1 = true := code_word (m := ⟨14, 1⟩) (meth := k14m1) (c := k14c1) (by decide +kernel) rfl rfl rfl (by decide +kernel)
set_option maxRecDepth 65536 in
theorem w_c19 : (Jvm.Cond.code ({ cls := "java/util/Optional", name := "<init>", desc := "(Ljava/lang/Object;)V" } : Jvm.MethodName) jdk_32_method_2_code (2 : Nat) (Option.none : Option Jvm.ClassFile.FieldType)).before args0 about1 = true := code_word (m := ⟨12, 0⟩) (meth := k12m0) (c := k12c0) (by decide +kernel) rfl rfl rfl (by decide +kernel)
def codes1 : List Jvm.Cond := [Jvm.Cond.code x code maxLocals ret, Jvm.Cond.code ({ cls := "com/example/mixed_margins/mixedmargins/model/TimeUnitOfSymbolPinLaw", name := "pick", desc := "(I)C" } : Jvm.MethodName) method_3_code (1 : Nat) (Option.some Jvm.ClassFile.FieldType.char), Jvm.Cond.code ({ cls := "java/lang/String", name := "<init>", desc := "([C)V" } : Jvm.MethodName) jdk_42_method_3_code (2 : Nat) (Option.none : Option Jvm.ClassFile.FieldType), Jvm.Cond.code ({ cls := "java/lang/String", name := "<init>", desc := "([CIILjava/lang/Void;)V" } : Jvm.MethodName) jdk_42_method_149_code (6 : Nat) (Option.none : Option Jvm.ClassFile.FieldType), Jvm.Cond.code ({ cls := "java/lang/Object", name := "<init>", desc := "()V" } : Jvm.MethodName) object_method_1_code (1 : Nat) (Option.none : Option Jvm.ClassFile.FieldType), Jvm.Cond.code ({ cls := "com/example/mixed_margins/mixedmargins/model/TimeUnit", name := "ofSymbol", desc := "(Ljava/lang/String;)Ljava/util/Optional;" } : Jvm.MethodName) prog_52_method_4_code (6 : Nat) (Option.some (Jvm.ClassFile.FieldType.object "java/util/Optional")), Jvm.Cond.code ({ cls := "com/example/mixed_margins/mixedmargins/model/TimeUnit", name := "values", desc := "()[Lcom/example/mixed_margins/mixedmargins/model/TimeUnit;" } : Jvm.MethodName) prog_52_method_1_code (0 : Nat) (Option.some (Jvm.ClassFile.FieldType.array (Jvm.ClassFile.FieldType.object "com/example/mixed_margins/mixedmargins/model/TimeUnit"))), Jvm.Cond.code ({ cls := "java/lang/String", name := "equals", desc := "(Ljava/lang/Object;)Z" } : Jvm.MethodName) jdk_42_method_66_code (3 : Nat) (Option.some Jvm.ClassFile.FieldType.boolean), Jvm.Cond.code ({ cls := "java/lang/StringLatin1", name := "equals", desc := "([B[B)Z" } : Jvm.MethodName) jdk_43_method_13_code (3 : Nat) (Option.some Jvm.ClassFile.FieldType.boolean), Jvm.Cond.code ({ cls := "java/util/Optional", name := "ofNullable", desc := "(Ljava/lang/Object;)Ljava/util/Optional;" } : Jvm.MethodName) jdk_32_method_4_code (1 : Nat) (Option.some (Jvm.ClassFile.FieldType.object "java/util/Optional")), Jvm.Cond.code ({ cls := "java/util/Optional", name := "orElse", desc := "(Ljava/lang/Object;)Ljava/lang/Object;" } : Jvm.MethodName) jdk_32_method_15_code (2 : Nat) (Option.some (Jvm.ClassFile.FieldType.object "java/lang/Object")), Jvm.Cond.code ({ cls := "java/lang/StringUTF16", name := "compress", desc := "([CII)[B" } : Jvm.MethodName) jdk_52_method_16_code (6 : Nat) (Option.some (Jvm.ClassFile.FieldType.array Jvm.ClassFile.FieldType.byte)), Jvm.Cond.code ({ cls := "java/lang/StringUTF16", name := "compress", desc := "([CI[BII)I" } : Jvm.MethodName) jdk_52_method_21_code (7 : Nat) (Option.some Jvm.ClassFile.FieldType.int), Jvm.Cond.code ({ cls := "java/lang/StringUTF16", name := "coderFromArrayLen", desc := "([BI)B" } : Jvm.MethodName) jdk_52_method_15_code (2 : Nat) (Option.some Jvm.ClassFile.FieldType.byte), Jvm.Cond.code ({ cls := "java/lang/String", name := "charAt", desc := "(I)C" } : Jvm.MethodName) jdk_42_method_56_code (2 : Nat) (Option.some Jvm.ClassFile.FieldType.char), Jvm.Cond.code ({ cls := "java/lang/String", name := "isLatin1", desc := "()Z" } : Jvm.MethodName) jdk_42_method_154_code (1 : Nat) (Option.some Jvm.ClassFile.FieldType.boolean), Jvm.Cond.code ({ cls := "java/lang/StringLatin1", name := "charAt", desc := "([BI)C" } : Jvm.MethodName) jdk_43_method_2_code (2 : Nat) (Option.some Jvm.ClassFile.FieldType.char), Jvm.Cond.code ({ cls := "java/lang/String", name := "checkIndex", desc := "(II)V" } : Jvm.MethodName) jdk_42_method_155_code (2 : Nat) (Option.none : Option Jvm.ClassFile.FieldType), Jvm.Cond.code ({ cls := "jdk/internal/util/Preconditions", name := "checkIndex", desc := "(IILjava/util/function/BiFunction;)I" } : Jvm.MethodName) jdk_41_method_11_code (3 : Nat) (Option.some Jvm.ClassFile.FieldType.int), Jvm.Cond.code ({ cls := "java/util/Optional", name := "<init>", desc := "(Ljava/lang/Object;)V" } : Jvm.MethodName) jdk_32_method_2_code (2 : Nat) (Option.none : Option Jvm.ClassFile.FieldType)]
set_option maxRecDepth 65536 in
theorem codes_eq : words1.filter isCode = codes1 := rfl
theorem w_codes : ∀ c ∈ words1.filter isCode, c.before args0 about1 = true := by
  rw [codes_eq]
  intro c hc
  simp only [codes1, List.mem_cons, List.not_mem_nil, or_false] at hc
  rcases hc with rfl | rfl | rfl | rfl | rfl | rfl | rfl | rfl | rfl | rfl | rfl | rfl | rfl | rfl | rfl | rfl | rfl | rfl | rfl | rfl
  · exact w_c0
  · exact w_c1
  · exact w_c2
  · exact w_c3
  · exact w_c4
  · exact w_c5
  · exact w_c6
  · exact w_c7
  · exact w_c8
  · exact w_c9
  · exact w_c10
  · exact w_c11
  · exact w_c12
  · exact w_c13
  · exact w_c14
  · exact w_c15
  · exact w_c16
  · exact w_c17
  · exact w_c18
  · exact w_c19
set_option maxRecDepth 65536 in
theorem w_t1 : (words1.take 24).all (fun c => isCode c || c.before args0 about1) = true := by decide +kernel
set_option maxRecDepth 65536 in
theorem w_t2 : ((words1.drop 24).take 24).all (fun c => isCode c || c.before args0 about1) = true := by decide +kernel
set_option maxRecDepth 65536 in
theorem w_t3 : (((words1.drop 24).drop 24).take 24).all (fun c => isCode c || c.before args0 about1) = true := by decide +kernel
set_option maxRecDepth 65536 in
theorem w_t4 : ((((words1.drop 24).drop 24).drop 24).take 24).all (fun c => isCode c || c.before args0 about1) = true := by decide +kernel
set_option maxRecDepth 65536 in
theorem w_t5 : ((((words1.drop 24).drop 24).drop 24).drop 24).all (fun c => isCode c || c.before args0 about1) = true := by decide +kernel
theorem w_tables : (allAtoms (Jvm.Cond.code x code maxLocals ret :: tables_1)).before args0 about1 = true := by
  rw [allAtoms_all]
  show words1.all (fun c => c.before args0 about1) = true
  refine all_split ?_ w_codes
  rw [← List.take_append_drop 24 words1, List.all_append, w_t1, ← List.take_append_drop 24 (words1.drop 24), List.all_append, w_t2, ← List.take_append_drop 24 ((words1.drop 24).drop 24), List.all_append, w_t3, ← List.take_append_drop 24 (((words1.drop 24).drop 24).drop 24), List.all_append, w_t4, w_t5]
  rfl
set_option maxRecDepth 65536 in
theorem w_rest : rest_1_c.before args0 about1 = true := by decide +kernel
set_option maxRecDepth 65536 in
theorem w_case : (Jvm.Cond.and given_1 narrow_1).before args0 about1 = true := by decide +kernel
set_option maxRecDepth 65536 in
theorem w_consts : constsHeld consts_1 about1 := Jvm.Lit.constsHeldB_iff.mp (by decide +kernel)
theorem w_applies : (headSpec (Jvm.Cond.code x code maxLocals ret :: tables_1) room_1).applies x e0.platform about1 = true :=
  (Spec.applies_iff w_frames).mpr ⟨w_running, w_runnable, w_alone, w_named, w_hears, w_ripe, w_room, w_tables⟩
theorem atStart : AtStart classFile x code maxLocals ret World_1 tables_1 room_1 Calls_1 rest_1 Pre_1 launch0 p0 e0 about1 theMethod args0 below0 :=
  ⟨lists_1, trivial, launch0.admits_env _ _ _, launch0.least_env, fairChoices_fair.cas, fairChoices_fair.clock, w_frames, w_args, w_heap, w_applies, ⟨w_consts, trivial⟩, w_rest, w_case⟩
end start1
theorem witness_1 : WitnessClaimed_1 := ⟨start1.p0, start1.e0, start1.about1, start1.theMethod, start1.args0, start1.below0, start1.atStart⟩
end Jvm.Pilot.@@N@@
